import PyProof.Rows.All
import Wide.All
import OpenK.AllK
import Wide.FinOn
import PySem.Challenge.RW_tx0009_01
set_option Elab.async false
section
open PySem PySem.Builtin PySem.Builtin.Str
namespace Mine

/-- a text from its signs' numbers -/
noncomputable def S (l : List Nat) : Str := ⟨l.toArray⟩

noncomputable def rep (a b : Nat) (r : List Nat) : List Nat → List Nat
  | [] => []
  | [x] => [x]
  | x :: y :: t => if x = a ∧ y = b then r ++ rep a b r t else x :: rep a b r (y :: t)

noncomputable def cutsFrom (a b : Nat) (L : List Nat) : Nat → Nat → Nat → List Nat
  | _, _, 0 => []
  | i, free, m + 1 => if free ≤ i ∧ (L.drop i).take 2 = [a, b] then i :: cutsFrom a b L (i + 1) (i + 2) m else cutsFrom a b L (i + 1) free m

theorem occ_run (a b : Nat) (L : List Nat) : ∀ (m i free : Nat) (acc : Array Nat), acc.size ≤ i → i + m = L.length + 1 →
    (forIn (List.range' i m) (acc, free) (StrLaws.occBody (S L) (S [a, b]) L.length (L.length + 1))).run.fst.toList = acc.toList ++ cutsFrom a b L i free m := by
  intro m
  induction m with
  | zero => intro i free acc _ _; simp [cutsFrom]
  | succ m ih =>
    intro i free acc h1 h2
    rw [List.range'_succ, List.forIn_cons]
    have hl : (S [a, b]).length = 2 := rfl
    have hs : subAt (S L) (S [a, b]) i = true ↔ (L.drop i).take 2 = [a, b] := by
      rw [StrLaws.subAt_eq, hl, beq_iff_eq]
      show List.take 2 (List.drop i L) = [a, b] ↔ _
      exact Iff.rfl
    have hle : (L.drop i).take 2 = [a, b] → i + 2 ≤ L.length := by
      intro h
      have := congrArg List.length h
      simp at this
      omega
    unfold StrLaws.occBody cutsFrom
    by_cases hc : free ≤ i ∧ (L.drop i).take 2 = [a, b]
    · have c1 : (((acc, free).fst.size < L.length + 1 ∧ (acc, free).snd ≤ i) ∧ i + (S [a, b]).length ≤ L.length) ∧ subAt (S L) (S [a, b]) i = true :=
        ⟨⟨⟨by show acc.size < L.length + 1; omega, hc.1⟩, by rw [hl]; exact hle hc.2⟩, hs.mpr hc.2⟩
      rw [if_pos c1, if_pos hc]
      have := ih (i + 1) (i + 2) (acc.push i) (by simp; omega) (by omega)
      simp only [Array.toList_push, List.append_assoc, List.singleton_append] at this
      exact this
    · have c2 : ¬ ((((acc, free).fst.size < L.length + 1 ∧ (acc, free).snd ≤ i) ∧ i + (S [a, b]).length ≤ L.length) ∧ subAt (S L) (S [a, b]) i = true) :=
        fun h => hc ⟨h.1.1.2, hs.mp h.2⟩
      rw [if_neg c2, if_neg hc]
      exact ih (i + 1) free acc (by omega) (by omega)

theorem occ_list (a b : Nat) (L : List Nat) : occurrences (S L) (S [a, b]) 0 (S L).length ((S L).length + 1) = cutsFrom a b L 0 0 (L.length + 1) := by
  have hl : (S L).length = L.length := by simp [S, Str.length]
  rw [StrLaws.occ_eq, hl]
  have := occ_run a b L (L.length + 1) 0 0 #[] (Nat.le_refl _) (by omega)
  simpa using this

theorem rep_take (a b : Nat) (r : List Nat) (L : List Nat) (i : Nat) (h : (L.drop i).take 2 = [a, b]) : rep a b r (L.drop i) = r ++ rep a b r (L.drop (i + 2)) := by
  have e : L.drop i = a :: b :: L.drop (i + 2) := by
    have := List.take_append_drop 2 (L.drop i)
    rw [h, List.drop_drop] at this
    exact this.symm
  rw [e, rep, if_pos ⟨rfl, rfl⟩]

theorem rep_step (a b : Nat) (r : List Nat) (L : List Nat) (i : Nat) (hi : i < L.length) (h : ¬ (L.drop i).take 2 = [a, b]) : rep a b r (L.drop i) = L[i] :: rep a b r (L.drop (i + 1)) := by
  have e : L.drop i = L[i] :: L.drop (i + 1) := List.drop_eq_getElem_cons hi
  rw [e] at h ⊢
  cases hd : L.drop (i + 1) with
  | nil => rfl
  | cons y t =>
    rw [hd] at h
    rw [rep, if_neg]
    intro hc
    apply h
    simp [hc.1, hc.2]

theorem toList_sub (L : List Nat) (i j : Nat) : (strSub (S L) i j) = S ((L.drop i).take (j - i)) := by
  apply Str.ext'
  apply Array.toList_inj.mp
  rw [StrLaws.strSub_toList]
  rfl

theorem S_append (a b : List Nat) : S a ++ S b = S (a ++ b) := by
  apply Str.ext'
  simp [S, Str.cps_append]

theorem take_snoc (L : List Nat) (a i : Nat) (ha : a ≤ i) (hi : i < L.length) : (L.drop a).take (i + 1 - a) = (L.drop a).take (i - a) ++ [L[i]] := by
  have e : i + 1 - a = (i - a) + 1 := by omega
  rw [e, List.take_add_one, List.getElem?_drop]
  have : a + (i - a) = i := by omega
  rw [this, List.getElem?_eq_getElem hi]
  rfl

theorem join_cons (r : Str) (p : Str) (w a : Nat) (x : Str) (cuts : List Nat) : Str.join r (p :: StrLaws.partsFrom x w a cuts) = p ++ r ++ Str.join r (StrLaws.partsFrom x w a cuts) := by
  obtain ⟨q, t, e⟩ := StrLaws.partsFrom_ne x w a cuts
  rw [e]
  rfl

theorem join_cuts (a b : Nat) (r L : List Nat) : ∀ (m i : Nat), i + m = L.length + 1 →
    (∀ f k, f ≤ i → k ≤ i → i ≤ L.length → Str.join (S r) (StrLaws.partsFrom (S L) 2 k (cutsFrom a b L i f m)) = S ((L.drop k).take (i - k) ++ rep a b r (L.drop i))) ∧
    (i + 1 ≤ L.length → Str.join (S r) (StrLaws.partsFrom (S L) 2 (i + 1) (cutsFrom a b L i (i + 1) m)) = S (rep a b r (L.drop (i + 1)))) := by
  intro m
  induction m with
  | zero =>
    intro i h
    exact ⟨fun f k _ _ hi => by omega, fun hi => by omega⟩
  | succ m ih =>
    intro i h
    have hlen : (S L).length = L.length := by simp [S, Str.length]
    have hle : (L.drop i).take 2 = [a, b] → i + 2 ≤ L.length := by
      intro h
      have := congrArg List.length h
      simp at this
      omega
    constructor
    · intro f k hf hk hi
      unfold cutsFrom
      by_cases hc : (L.drop i).take 2 = [a, b]
      · rw [if_pos ⟨hf, hc⟩]
        show Str.join (S r) (strSub (S L) k i :: StrLaws.partsFrom (S L) 2 (i + 2) (cutsFrom a b L (i + 1) (i + 1 + 1) m)) = _
        rw [join_cons, toList_sub, (ih (i + 1) (by omega)).2 (by have := hle hc; omega), S_append, S_append, rep_take a b r L i hc, List.append_assoc]
      · rw [if_neg (fun h => hc h.2)]
        by_cases hi2 : i < L.length
        · rw [(ih (i + 1) (by omega)).1 f k (by omega) (by omega) hi2, rep_step a b r L i hi2 hc, take_snoc L k i hk hi2, List.append_assoc]
          rfl
        · have e0 : i = L.length := by omega
          have em : m = 0 := by omega
          subst em
          show Str.join (S r) [strSub (S L) k (S L).length] = _
          show strSub (S L) k (S L).length = _
          rw [toList_sub, hlen, e0, List.drop_length, rep, List.append_nil]
    · intro hi
      unfold cutsFrom
      rw [if_neg (by omega)]
      rw [(ih (i + 1) (by omega)).1 (i + 1) (i + 1) (Nat.le_refl _) (Nat.le_refl _) hi]
      simp

theorem rep_free (a b : Nat) (r : List Nat) : ∀ (L : List Nat), (∀ i, ¬ (L.drop i).take 2 = [a, b]) → rep a b r L = L
  | [], _ => rfl
  | [x], _ => rfl
  | x :: y :: t, h => by
    have h0 := h 0
    rw [rep, if_neg (by intro hc; apply h0; simp [hc.1, hc.2]), rep_free a b r (y :: t) (fun i => by have := h (i + 1); simpa using this)]

theorem cuts_empty (a b : Nat) (L : List Nat) : ∀ (m i f : Nat), f ≤ i → i + m = L.length + 1 → cutsFrom a b L i f m = [] → ∀ j, i ≤ j → ¬ (L.drop j).take 2 = [a, b] := by
  intro m
  induction m with
  | zero =>
    intro i f _ h _ j hj hc
    have := congrArg List.length hc
    simp at this
    omega
  | succ m ih =>
    intro i f hf h he j hj
    unfold cutsFrom at he
    by_cases hc : (L.drop i).take 2 = [a, b]
    · rw [if_pos ⟨hf, hc⟩] at he; cases he
    · rw [if_neg (fun h => hc h.2)] at he
      by_cases hij : i = j
      · exact hij ▸ hc
      · exact ih (i + 1) f (by omega) (by omega) he j (by omega)

/-- the heart of replace's one turn: a text cut at a pair and glued by another text -/
theorem join_split_pair (a b : Nat) (r L : List Nat) (hk : strKind (S [a, b]) ≤ strKind (S L)) : Str.join (S r) (Txt.split (S L) (S [a, b])) = S (rep a b r L) := by
  have hlen : (S L).length = L.length := by simp [S, Str.length]
  have h2 : (S [a, b]).length = 2 := rfl
  unfold Txt.split
  rw [occ_list, h2, hlen]
  split
  · rename_i hc
    have hlt : L.length < 2 := by
      have h3 : ¬ strKind (S L) < strKind (S [a, b]) := Nat.not_lt.mpr hk
      simpa [h3] using hc
    show S L = _
    rw [rep_free]
    intro i hi
    have := congrArg List.length hi
    simp at this
    omega
  · split
    · rename_i hc he
      have he' : cutsFrom a b L 0 0 (L.length + 1) = [] := by simpa using he
      show S L = _
      rw [rep_free]
      intro i
      exact cuts_empty a b L _ 0 0 (Nat.le_refl _) (by omega) he' i (Nat.zero_le _)
    · rw [StrLaws.partsBetween_eq]
      have := (join_cuts a b r L (L.length + 1) 0 (by omega)).1 0 0 (Nat.le_refl _) (Nat.le_refl _) (Nat.zero_le _)
      simpa using this
end Mine
end
section
namespace Mine

/-! the road: a car (x, c) stands at x and is of kind c -/
noncomputable abbrev Car := Nat × Nat

noncomputable def render (N : Nat) : Nat → List Car → List Nat
  | lo, [] => List.replicate (N - lo) 0
  | lo, (x, c) :: t => List.replicate (x - lo) 0 ++ c :: render N (x + 1) t

noncomputable def Valid (N : Nat) : Nat → List Car → Prop
  | lo, [] => lo ≤ N
  | lo, (x, c) :: t => lo ≤ x ∧ c ≠ 0 ∧ Valid N (x + 1) t

/-- where the next car stands (the road's end if there is none) -/
noncomputable def hdp (N : Nat) : List Car → Nat
  | [] => N
  | (y, _) :: _ => y

noncomputable def gstep (p : Nat → Bool) : List Nat → List Nat
  | [] => []
  | [x] => [x]
  | x :: y :: t => if p x = true ∧ y = 0 then 0 :: x :: gstep p t else x :: gstep p (y :: t)

noncomputable def gpass (p : Nat → Bool) (N : Nat) : List Car → List Car
  | [] => []
  | (x, c) :: t => (if p c = true ∧ x + 1 < hdp N t then x + 1 else x, c) :: gpass p N t

theorem Valid.hd_le {N : Nat} : ∀ {cs : List Car} {lo : Nat}, Valid N lo cs → lo ≤ hdp N cs
  | [], _, h => h
  | (_, _) :: _, _, h => h.1
theorem Valid.le {N : Nat} : ∀ {cs : List Car} {lo : Nat}, Valid N lo cs → lo ≤ N
  | [], _, h => h
  | (x, _) :: t, lo, h => by have := Valid.le h.2.2; have := h.1; omega

theorem Valid.pass {p : Nat → Bool} {N : Nat} : ∀ {cs : List Car} {lo : Nat}, Valid N lo cs → Valid N lo (gpass p N cs)
  | [], _, h => h
  | (x, c) :: t, lo, h => by
    have h2 := h.2.2
    refine ⟨?_, h.2.1, ?_⟩
    · show lo ≤ if p c = true ∧ x + 1 < hdp N t then x + 1 else x
      have := h.1
      split <;> omega
    · show Valid N ((if p c = true ∧ x + 1 < hdp N t then x + 1 else x) + 1) (gpass p N t)
      split
      · rename_i hc
        have h3 : Valid N (x + 2) t := by
          cases t with
          | nil => exact hc.2
          | cons a t => exact ⟨hc.2, h2.2⟩
        exact Valid.pass h3
      · exact Valid.pass h2

theorem gstep_zero {p : Nat → Bool} (h0 : p 0 = false) (l : List Nat) : gstep p (0 :: l) = 0 :: gstep p l := by
  cases l with
  | nil => rfl
  | cons y t => rw [gstep, if_neg (by rw [h0]; simp)]

theorem gstep_zeros {p : Nat → Bool} (h0 : p 0 = false) (l : List Nat) : ∀ n, gstep p (List.replicate n 0 ++ l) = List.replicate n 0 ++ gstep p l
  | 0 => rfl
  | n + 1 => by
    rw [List.replicate_succ, List.cons_append, gstep_zero h0, gstep_zeros h0 l n]
    rfl

theorem render_more {N lo : Nat} {cs : List Car} (h : lo < hdp N cs) : render N lo cs = 0 :: render N (lo + 1) cs := by
  cases cs with
  | nil =>
    have h : lo < N := h
    show List.replicate (N - lo) 0 = 0 :: List.replicate (N - (lo + 1)) 0
    have e : N - lo = (N - (lo + 1)) + 1 := by omega
    rw [e, List.replicate_succ]
  | cons a t =>
    obtain ⟨x, c⟩ := a
    have h : lo < x := h
    show List.replicate (x - lo) 0 ++ c :: render N (x + 1) t = 0 :: (List.replicate (x - (lo + 1)) 0 ++ c :: render N (x + 1) t)
    have e : x - lo = (x - (lo + 1)) + 1 := by omega
    rw [e, List.replicate_succ]
    rfl

theorem render_full {N lo : Nat} {cs : List Car} (hv : Valid N lo cs) (h : ¬ lo < hdp N cs) : (cs = [] ∧ render N lo cs = []) ∨ ∃ x c t, cs = (x, c) :: t ∧ c ≠ 0 ∧ render N lo cs = c :: render N (x + 1) t := by
  cases cs with
  | nil =>
    refine .inl ⟨rfl, ?_⟩
    have h : ¬ lo < N := h
    have e : N - lo = 0 := by omega
    show List.replicate (N - lo) 0 = []
    rw [e]; rfl
  | cons a t =>
    obtain ⟨x, c⟩ := a
    have h : ¬ lo < x := h
    have e : x - lo = 0 := by omega
    refine .inr ⟨x, c, t, rfl, hv.2.1, ?_⟩
    show List.replicate (x - lo) 0 ++ c :: render N (x + 1) t = _
    rw [e]; rfl

theorem gstep_render {p : Nat → Bool} (h0 : p 0 = false) {N : Nat} : ∀ (cs : List Car) (lo : Nat), Valid N lo cs → gstep p (render N lo cs) = render N lo (gpass p N cs)
  | [], lo, _ => by
    have := gstep_zeros h0 [] (N - lo)
    show gstep p (List.replicate (N - lo) 0) = List.replicate (N - lo) 0
    simpa [gstep] using this
  | (x, c) :: t, lo, hv => by
    have h1 := hv.1
    have hc := hv.2.1
    have ht := hv.2.2
    show gstep p (List.replicate (x - lo) 0 ++ c :: render N (x + 1) t) = _
    rw [gstep_zeros h0]
    by_cases hm : p c = true ∧ x + 1 < hdp N t
    · have hg : gpass p N ((x, c) :: t) = (x + 1, c) :: gpass p N t := by rw [gpass, if_pos hm]
      rw [hg, render_more hm.2, gstep, if_pos ⟨hm.1, rfl⟩]
      have h3 : Valid N (x + 2) t := by
        cases t with
        | nil => exact hm.2
        | cons a t => exact ⟨hm.2, ht.2⟩
      rw [gstep_render h0 t (x + 1 + 1) h3]
      show _ = List.replicate (x + 1 - lo) 0 ++ c :: render N (x + 1 + 1) (gpass p N t)
      have e : x + 1 - lo = (x - lo) + 1 := by omega
      rw [e, List.replicate_succ', List.append_assoc]
      rfl
    · have hg : gpass p N ((x, c) :: t) = (x, c) :: gpass p N t := by rw [gpass, if_neg hm]
      rw [hg]
      show _ = List.replicate (x - lo) 0 ++ c :: render N (x + 1) (gpass p N t)
      rw [← gstep_render h0 t (x + 1) ht]
      congr 1
      by_cases hf : x + 1 < hdp N t
      · have hp : ¬ p c = true := fun h => hm ⟨h, hf⟩
        rw [render_more hf, gstep, if_neg (fun h => hp h.1)]
      · rcases render_full ht hf with ⟨_, e⟩ | ⟨y, d, u, _, hdp', e⟩
        · rw [e]; rfl
        · rw [e, gstep, if_neg (fun h => hdp' h.2)]

/-! the passes of a round, kind by kind -/
noncomputable def isK (o : Nat) (c : Nat) : Bool := c == o
noncomputable def passes (N : Nat) (os : List Nat) (cs : List Car) : List Car := os.foldl (fun cs o => gpass (isK o) N cs) cs

theorem passes_nil (N : Nat) (os : List Nat) : passes N os [] = [] := by
  induction os with
  | nil => rfl
  | cons o os ih => exact ih

theorem passes_valid {N lo : Nat} (os : List Nat) : ∀ {cs : List Car}, Valid N lo cs → Valid N lo (passes N os cs) := by
  induction os with
  | nil => exact fun h => h
  | cons o os ih => exact fun h => ih h.pass

/-- the head's own: a car of a kind that is not among them stands -/
theorem passes_cons (N : Nat) : ∀ (os : List Nat) (x c : Nat) (t : List Car), os.Nodup →
    passes N os ((x, c) :: t) = (if c ∈ os ∧ x + 1 < hdp N (passes N (os.takeWhile (· != c)) t) then x + 1 else x, c) :: passes N os t
  | [], x, c, t, _ => by simp [passes]
  | o :: os, x, c, t, hn => by
    have hn' := (List.nodup_cons.mp hn)
    show passes N os (gpass (isK o) N ((x, c) :: t)) = _
    rw [gpass, passes_cons N os _ c _ hn'.2]
    show _ = _ :: passes N os (gpass (isK o) N t)
    congr 1
    by_cases hc : c = o
    · subst hc
      have h1 : isK c c = true := by simp [isK]
      have h2 : ¬ c ∈ os := hn'.1
      have h3 : (c :: os).takeWhile (· != c) = [] := by simp
      rw [h3]
      simp only [h1, true_and, h2, false_and, if_false, List.mem_cons, true_or]
      rfl
    · have h1 : isK o c = false := by simp [isK, hc]
      have h3 : (o :: os).takeWhile (· != c) = o :: os.takeWhile (· != c) := by
        rw [List.takeWhile_cons]
        have : (o != c) = true := by simp [Ne.symm hc]
        simp [this]
      rw [h3]
      simp only [h1, Bool.false_eq_true, false_and, if_false, List.mem_cons, hc, false_or]
      rfl

/-- the ways of word: 0 where the one ahead goes first, else 1 -/
noncomputable def lag (rk : Nat → Nat) (bare : Bool) (c d : Nat) : Nat := if bare = true ∧ rk d < rk c then 0 else 1

/-- where the first car of cs stands after t rounds -/
noncomputable def Fp (N : Nat) (rk : Nat → Nat) (bare : Bool) : Nat → List Car → Nat
  | _, [] => N
  | t, (x, c) :: r => min (N - 1 - r.length) (min (x + t) (match r with
      | [] => N - 1
      | (_, d) :: _ => if lag rk bare c d ≤ t then Fp N rk bare (t - lag rk bare c d) r - 1 else x + t))

noncomputable def at_ (N : Nat) (rk : Nat → Nat) (bare : Bool) (t : Nat) : List Car → List Car
  | [] => []
  | (x, c) :: r => (Fp N rk bare t ((x, c) :: r), c) :: at_ N rk bare t r

theorem hd_at (N : Nat) (rk : Nat → Nat) (bare : Bool) (t : Nat) (cs : List Car) : hdp N (at_ N rk bare t cs) = Fp N rk bare t cs := by
  cases cs with
  | nil => rfl
  | cons a r => rfl

theorem Valid.len {N : Nat} : ∀ {cs : List Car} {lo : Nat}, Valid N lo cs → lo + cs.length ≤ N
  | [], _, h => h
  | (x, _) :: t, lo, h => by
    have := Valid.len h.2.2
    have := h.1
    simp only [List.length_cons]
    omega

theorem Fp_zero {N : Nat} {rk : Nat → Nat} {bare : Bool} : ∀ {cs : List Car} {lo : Nat}, Valid N lo cs → Fp N rk bare 0 cs = hdp N cs
  | [], _, _ => rfl
  | [(x, c)], lo, h => by
    have := h.2.2.le
    show min (N - 1 - 0) (min (x + 0) (N - 1)) = x
    omega
  | (x, c) :: (y, d) :: r, lo, h => by
    have ih : Fp N rk bare 0 ((y, d) :: r) = y := Fp_zero h.2.2
    have h1 := h.2.2.1
    have h2 := h.2.2.len
    show min (N - 1 - ((y, d) :: r).length) (min (x + 0) (if lag rk bare c d ≤ 0 then Fp N rk bare (0 - lag rk bare c d) ((y, d) :: r) - 1 else x + 0)) = x
    simp only [List.length_cons] at h2 ⊢
    split
    · rw [Nat.zero_sub, ih]; omega
    · omega

theorem Fp_cap (N : Nat) (rk : Nat → Nat) (bare : Bool) (t : Nat) (cs : List Car) (h : cs.length ≤ N) : Fp N rk bare t cs + cs.length ≤ N := by
  match cs with
  | [] => exact Nat.le_refl _
  | (x, c) :: r =>
    simp only [Fp, List.length_cons] at h ⊢
    omega

theorem Fp_low {N : Nat} {rk : Nat → Nat} {bare : Bool} : ∀ {cs : List Car} {lo : Nat} (t : Nat), Valid N lo cs → lo ≤ Fp N rk bare t cs
  | [], _, _, h => h
  | [(x, c)], lo, t, h => by
    have h2 := h.2.2.le
    have h1 := h.1
    show lo ≤ min (N - 1 - 0) (min (x + t) (N - 1))
    omega
  | (x, c) :: (y, d) :: r, lo, t, h => by
    have ih := fun t => Fp_low (rk := rk) (bare := bare) (N := N) (cs := (y, d) :: r) (lo := x + 1) t h.2.2
    have h2 := h.2.2.len
    have h1 := h.1
    show lo ≤ min (N - 1 - ((y, d) :: r).length) (min (x + t) (if lag rk bare c d ≤ t then Fp N rk bare (t - lag rk bare c d) ((y, d) :: r) - 1 else x + t))
    have h3 := ih (t - lag rk bare c d)
    simp only [List.length_cons] at h2 ⊢
    split <;> omega

theorem Fp_mono {N : Nat} {rk : Nat → Nat} {bare : Bool} : ∀ {cs : List Car} {lo : Nat} (t : Nat), Valid N lo cs → Fp N rk bare t cs ≤ Fp N rk bare (t + 1) cs ∧ Fp N rk bare (t + 1) cs ≤ Fp N rk bare t cs + 1
  | [], _, _, _ => ⟨Nat.le_refl _, Nat.le_succ _⟩
  | [(x, c)], lo, t, h => by
    show min (N - 1 - 0) (min (x + t) (N - 1)) ≤ min (N - 1 - 0) (min (x + (t + 1)) (N - 1)) ∧ min (N - 1 - 0) (min (x + (t + 1)) (N - 1)) ≤ min (N - 1 - 0) (min (x + t) (N - 1)) + 1
    omega
  | (x, c) :: (y, d) :: r, lo, t, h => by
    have ih := fun t => Fp_mono (rk := rk) (bare := bare) (N := N) (cs := (y, d) :: r) t h.2.2
    have low := fun t => Fp_low (rk := rk) (bare := bare) (N := N) (cs := (y, d) :: r) t h.2.2
    have h0 : Fp N rk bare 0 ((y, d) :: r) = y := Fp_zero h.2.2
    have hy := h.2.2.1
    have unf : ∀ t, Fp N rk bare t ((x, c) :: (y, d) :: r) = min (N - 1 - (r.length + 1)) (min (x + t) (if lag rk bare c d ≤ t then Fp N rk bare (t - lag rk bare c d) ((y, d) :: r) - 1 else x + t)) := fun t => rfl
    rw [unf, unf]
    have hl : lag rk bare c d = 0 ∨ lag rk bare c d = 1 := by unfold lag; split <;> simp
    rcases hl with e | e
    · rw [e]
      have a1 := ih t
      have a2 := low t
      simp only [Nat.zero_le, if_true, Nat.sub_zero]
      omega
    · rw [e]
      cases t with
      | zero =>
        have a1 := ih 0
        have a2 := low 0
        simp only [Nat.le_refl, if_true, Nat.zero_add, Nat.sub_self, h0]
        have : ¬ (1 : Nat) ≤ 0 := by omega
        simp only [this, if_false]
        omega
      | succ t =>
        have a1 := ih t
        have a2 := low t
        have e1 : 1 ≤ t + 1 := by omega
        have e2 : 1 ≤ t + 1 + 1 := by omega
        simp only [e1, e2, if_true, Nat.add_sub_cancel]
        omega

/-- one round moves from t to t + 1 -/
theorem Fp_step {N : Nat} {rk : Nat → Nat} {bare : Bool} {x c y d : Nat} {r : List Car} {lo : Nat} (t : Nat) (h : Valid N lo ((x, c) :: (y, d) :: r)) :
    (if Fp N rk bare t ((x, c) :: (y, d) :: r) + 1 < Fp N rk bare (t + 1 - lag rk bare c d) ((y, d) :: r) then Fp N rk bare t ((x, c) :: (y, d) :: r) + 1 else Fp N rk bare t ((x, c) :: (y, d) :: r)) = Fp N rk bare (t + 1) ((x, c) :: (y, d) :: r) := by
  have mono := fun t => Fp_mono (rk := rk) (bare := bare) (N := N) (cs := (y, d) :: r) t h.2.2
  have low := fun t => Fp_low (rk := rk) (bare := bare) (N := N) (cs := (y, d) :: r) t h.2.2
  have cap := fun t => Fp_cap N rk bare t ((y, d) :: r) (by have := h.2.2.len; omega)
  have h0 : Fp N rk bare 0 ((y, d) :: r) = y := Fp_zero h.2.2
  have hy := h.2.2.1
  have hlen := h.2.2.len
  simp only [List.length_cons] at cap hlen
  have unf : ∀ t, Fp N rk bare t ((x, c) :: (y, d) :: r) = min (N - 1 - (r.length + 1)) (min (x + t) (if lag rk bare c d ≤ t then Fp N rk bare (t - lag rk bare c d) ((y, d) :: r) - 1 else x + t)) := fun t => rfl
  rw [unf, unf]
  have hl : lag rk bare c d = 0 ∨ lag rk bare c d = 1 := by unfold lag; split <;> simp
  rcases hl with e | e
  · rw [e]
    have a1 := mono t
    have a2 := low t
    have a3 := low (t + 1)
    have a4 := cap t
    have a5 := cap (t + 1)
    simp only [Nat.zero_le, if_true, Nat.sub_zero]
    split <;> omega
  · rw [e]
    cases t with
    | zero =>
      have a1 := mono 0
      have a4 := cap 0
      simp only [Nat.le_refl, if_true, Nat.zero_add, Nat.sub_self, h0] at *
      have : ¬ (1 : Nat) ≤ 0 := by omega
      simp only [this, if_false]
      split <;> omega
    | succ t =>
      have a1 := mono t
      have a2 := low t
      have a3 := low (t + 1)
      have a4 := cap t
      have a5 := cap (t + 1)
      have e1 : 1 ≤ t + 1 := by omega
      have e2 : 1 ≤ t + 1 + 1 := by omega
      simp only [e1, e2, if_true, Nat.add_sub_cancel]
      split <;> omega

theorem at_valid {N : Nat} {rk : Nat → Nat} {bare : Bool} (t : Nat) : ∀ {cs : List Car} {lo : Nat}, Valid N lo cs → ∀ lo', lo' ≤ Fp N rk bare t cs → Valid N lo' (at_ N rk bare t cs)
  | [], _, _, _, h => h
  | [(x, c)], lo, h, lo', hl => by
    refine ⟨hl, h.2.1, ?_⟩
    have := Fp_cap N rk bare t [(x, c)] (by have := h.len; omega)
    simp only [List.length_cons, List.length_nil] at this
    exact this
  | (x, c) :: (y, d) :: r, lo, h, lo', hl => by
    refine ⟨hl, h.2.1, at_valid (cs := (y, d) :: r) t h.2.2 _ ?_⟩
    have mono := fun t => Fp_mono (rk := rk) (bare := bare) (N := N) (cs := (y, d) :: r) t h.2.2
    have low := fun t => Fp_low (rk := rk) (bare := bare) (N := N) (cs := (y, d) :: r) t h.2.2
    have h0 : Fp N rk bare 0 ((y, d) :: r) = y := Fp_zero h.2.2
    have hy := h.2.2.1
    have unf : ∀ t, Fp N rk bare t ((x, c) :: (y, d) :: r) = min (N - 1 - (r.length + 1)) (min (x + t) (if lag rk bare c d ≤ t then Fp N rk bare (t - lag rk bare c d) ((y, d) :: r) - 1 else x + t)) := fun t => rfl
    have hle : lag rk bare c d = 0 ∨ lag rk bare c d = 1 := by unfold lag; split <;> simp
    rw [unf]
    rcases hle with e | e
    · rw [e]
      have a2 := low t
      simp only [Nat.zero_le, if_true, Nat.sub_zero]
      omega
    · rw [e]
      cases t with
      | zero =>
        have : ¬ (1 : Nat) ≤ 0 := by omega
        simp only [this, if_false, h0]
        omega
      | succ t =>
        have a1 := mono t
        have a2 := low t
        have e1 : 1 ≤ t + 1 := by omega
        simp only [e1, if_true, Nat.add_sub_cancel]
        omega

theorem Fp_last (N : Nat) (rk : Nat → Nat) (bare : Bool) (t x c : Nat) (hx : x + 1 ≤ N) :
    (if Fp N rk bare t [(x, c)] + 1 < N then Fp N rk bare t [(x, c)] + 1 else Fp N rk bare t [(x, c)]) = Fp N rk bare (t + 1) [(x, c)] := by
  show (if min (N - 1 - 0) (min (x + t) (N - 1)) + 1 < N then min (N - 1 - 0) (min (x + t) (N - 1)) + 1 else min (N - 1 - 0) (min (x + t) (N - 1))) = min (N - 1 - 0) (min (x + (t + 1)) (N - 1))
  split <;> omega

/-- the quoted run: all cars at once, upon the old road -/
theorem quoted_round {N : Nat} {rk : Nat → Nat} {p : Nat → Bool} (t : Nat) : ∀ {cs : List Car} {lo : Nat}, Valid N lo cs → (∀ a ∈ cs, p a.2 = true) → gpass p N (at_ N rk false t cs) = at_ N rk false (t + 1) cs
  | [], _, _, _ => rfl
  | [(x, c)], lo, h, hp => by
    have hpc : p c = true := hp _ (List.mem_cons_self ..)
    have := Fp_last N rk false t x c h.2.2.le
    show [(if p c = true ∧ Fp N rk false t [(x, c)] + 1 < N then Fp N rk false t [(x, c)] + 1 else Fp N rk false t [(x, c)], c)] = _
    simp only [hpc, true_and]
    rw [this]
    rfl
  | (x, c) :: (y, d) :: r, lo, h, hp => by
    have hpc : p c = true := hp _ (List.mem_cons_self ..)
    have ih := quoted_round (N := N) (rk := rk) (p := p) (cs := (y, d) :: r) t h.2.2 (fun a ha => hp a (List.mem_cons_of_mem _ ha))
    have hs := Fp_step (rk := rk) (bare := false) t h
    have hl : lag rk false c d = 1 := by simp [lag]
    rw [hl, Nat.add_sub_cancel] at hs
    show (if p c = true ∧ Fp N rk false t ((x, c) :: (y, d) :: r) + 1 < Fp N rk false t ((y, d) :: r) then Fp N rk false t ((x, c) :: (y, d) :: r) + 1 else Fp N rk false t ((x, c) :: (y, d) :: r), c) :: gpass p N (at_ N rk false t ((y, d) :: r)) = _
    rw [ih]
    simp only [hpc, true_and]
    rw [hs]
    rfl

/-- ranks that an order of kinds tells -/
noncomputable def Ranks (os : List Nat) (rk : Nat → Nat) : Prop := ∀ c ∈ os, ∀ d ∈ os, (d ∈ os.takeWhile (· != c) ↔ rk d < rk c)

theorem mem_takeWhile_ne {os : List Nat} {c d : Nat} (h : d ∈ os.takeWhile (· != c)) : d ≠ c ∧ d ∈ os := by
  induction os with
  | nil => cases h
  | cons o os ih =>
    rw [List.takeWhile_cons] at h
    split at h
    · rename_i ho
      rcases List.mem_cons.mp h with rfl | h
      · exact ⟨by simpa using ho, List.mem_cons_self ..⟩
      · exact ⟨(ih h).1, List.mem_cons_of_mem _ (ih h).2⟩
    · cases h

theorem takeWhile_take (os : List Nat) (c d : Nat) (h : d ∈ os.takeWhile (· != c)) : (os.takeWhile (· != c)).takeWhile (· != d) = os.takeWhile (· != d) := by
  induction os with
  | nil => rfl
  | cons o os ih =>
    rw [List.takeWhile_cons] at h ⊢
    by_cases ho : (o != c) = true
    · rw [if_pos ho] at h ⊢
      rw [List.takeWhile_cons, List.takeWhile_cons]
      by_cases hod : (o != d) = true
      · rw [if_pos hod, if_pos hod]
        rcases List.mem_cons.mp h with rfl | h
        · simp at hod
        · rw [ih h]
      · rw [if_neg hod, if_neg hod]
    · rw [if_neg ho] at h; cases h

theorem nodup_takeWhile (os : List Nat) (p : Nat → Bool) (h : os.Nodup) : (os.takeWhile p).Nodup := List.Sublist.nodup (List.takeWhile_sublist p) h

/-- the bare run: kind by kind -/
theorem bare_round {N : Nat} {rk : Nat → Nat} {os : List Nat} (hn : os.Nodup) (hr : Ranks os rk) (t : Nat) : ∀ {cs : List Car} {lo : Nat}, Valid N lo cs → (∀ a ∈ cs, a.2 ∈ os) → passes N os (at_ N rk true t cs) = at_ N rk true (t + 1) cs
  | [], _, _, _ => passes_nil N os
  | [(x, c)], lo, h, hp => by
    have hpc : c ∈ os := hp _ (List.mem_cons_self ..)
    have := Fp_last N rk true t x c h.2.2.le
    show passes N os ((Fp N rk true t [(x, c)], c) :: []) = _
    rw [passes_cons N os _ c [] hn, passes_nil, passes_nil]
    simp only [hpc, true_and, hdp]
    rw [this]
    rfl
  | (x, c) :: (y, d) :: r, lo, h, hp => by
    have hpc : c ∈ os := hp _ (List.mem_cons_self ..)
    have hpd : d ∈ os := hp _ (List.mem_cons_of_mem _ (List.mem_cons_self ..))
    have ih := bare_round (N := N) (rk := rk) (os := os) hn hr (cs := (y, d) :: r) t h.2.2 (fun a ha => hp a (List.mem_cons_of_mem _ ha))
    have hs := Fp_step (rk := rk) (bare := true) t h
    show passes N os ((Fp N rk true t ((x, c) :: (y, d) :: r), c) :: at_ N rk true t ((y, d) :: r)) = _
    rw [passes_cons N os _ c _ hn, ih]
    have key : hdp N (passes N (os.takeWhile (· != c)) (at_ N rk true t ((y, d) :: r))) = Fp N rk true (t + 1 - lag rk true c d) ((y, d) :: r) := by
      have e1 : at_ N rk true t ((y, d) :: r) = (Fp N rk true t ((y, d) :: r), d) :: at_ N rk true t r := rfl
      have e2 : at_ N rk true (t + 1) ((y, d) :: r) = (Fp N rk true (t + 1) ((y, d) :: r), d) :: at_ N rk true (t + 1) r := rfl
      have e3 := passes_cons N os (Fp N rk true t ((y, d) :: r)) d (at_ N rk true t r) hn
      rw [← e1, ih, e2] at e3
      have e4 := congrArg (fun l => hdp N l) e3
      simp only [hdp, hpd, true_and] at e4
      rw [e1, passes_cons N (os.takeWhile (· != c)) _ d _ (nodup_takeWhile os _ hn)]
      simp only [hdp]
      by_cases hrk : rk d < rk c
      · have hm := (hr c hpc d hpd).mpr hrk
        have hl : lag rk true c d = 0 := by simp [lag, hrk]
        rw [hl, Nat.sub_zero, takeWhile_take os c d hm, e4]
        simp only [hm, true_and]
      · have hm : ¬ d ∈ os.takeWhile (· != c) := fun hm => hrk ((hr c hpc d hpd).mp hm)
        have hl : lag rk true c d = 1 := by simp [lag, hrk]
        rw [hl, Nat.add_sub_cancel]
        simp only [hm, false_and, if_false]
    rw [key]
    simp only [hpc, true_and]
    rw [hs]
    rfl
end Mine
end
section
open PySem PySem.Builtin PySem.Builtin.Str
namespace Mine

noncomputable def hexd (n : Nat) : Nat := if n < 10 then 48 + n else 55 + n
noncomputable def quoteL (n : Nat) : List Nat := [61, hexd (n / 16), hexd (n % 16)]

structure MarksOk (M : Nat → Nat) : Prop where
  lo : ∀ k, k < 4 → 161 ≤ M k
  hi : ∀ k, k < 4 → M k ≤ 252
  inj : ∀ i j, i < 4 → j < 4 → M i = M j → i = j

theorem hexd_lt {n : Nat} (h : n < 16) : hexd n < 161 := by unfold hexd; split <;> omega
theorem quoteL_lt {n : Nat} (h : n < 256) : ∀ c ∈ quoteL n, c < 161 := by
  intro c hc
  have h1 : n / 16 < 16 := by omega
  have h2 : n % 16 < 16 := by omega
  simp only [quoteL, List.mem_cons, List.not_mem_nil, or_false] at hc
  rcases hc with rfl | rfl | rfl
  · omega
  · exact hexd_lt h1
  · exact hexd_lt h2

theorem rep_pass {a b : Nat} {r : List Nat} {x : Nat} (t : List Nat) (h : x ≠ a) : rep a b r (x :: t) = x :: rep a b r t := by
  cases t with
  | nil => rfl
  | cons y t => rw [rep, if_neg (fun hc => h hc.1)]
theorem rep_passes {a b : Nat} {r : List Nat} : ∀ (pre t : List Nat), (∀ c ∈ pre, c ≠ a) → rep a b r (pre ++ t) = pre ++ rep a b r t
  | [], _, _ => rfl
  | x :: pre, t, h => by
    rw [List.cons_append, rep_pass _ (h x (List.mem_cons_self ..)), rep_passes pre t (fun c hc => h c (List.mem_cons_of_mem _ hc))]
    rfl

/-- the bare replacement, kinds for signs -/
theorem rep_bare {M : Nat → Nat} (hM : MarksOk M) {o : Nat} (ho : o < 4) (ho0 : o ≠ 0) : ∀ (ks : List Nat), (∀ k ∈ ks, k < 4) → rep (M o) (M 0) [M 0, M o] (ks.map M) = (gstep (isK o) ks).map M
  | [], _ => rfl
  | [x], _ => rfl
  | x :: y :: t, h => by
    have hx := h x (List.mem_cons_self ..)
    have hy := h y (List.mem_cons_of_mem _ (List.mem_cons_self ..))
    show rep (M o) (M 0) [M 0, M o] (M x :: M y :: t.map M) = _
    by_cases hc : x = o ∧ y = 0
    · obtain ⟨rfl, rfl⟩ := hc
      rw [rep, if_pos ⟨rfl, rfl⟩, gstep, if_pos ⟨by simp [isK], rfl⟩, rep_bare hM ho ho0 t (fun k hk => h k (List.mem_cons_of_mem _ (List.mem_cons_of_mem _ hk)))]
      rfl
    · rw [rep, if_neg (fun hc' => hc ⟨hM.inj _ _ hx ho hc'.1, hM.inj _ _ hy (by omega) hc'.2⟩), gstep, if_neg (fun hc' => hc ⟨by simpa [isK] using hc'.1, hc'.2⟩)]
      have := rep_bare hM ho ho0 (y :: t) (fun k hk => h k (List.mem_cons_of_mem _ hk))
      rw [List.map_cons] at this
      rw [this]
      rfl

/-! the quoted run: a road of marks, some of them quoted -/
noncomputable abbrev Mk := Nat × Bool
noncomputable def enc (M : Nat → Nat) (q : Mk) : List Nat := if q.2 = true then quoteL (M q.1) else [M q.1]
noncomputable def encs (M : Nat → Nat) (l : List Mk) : List Nat := l.flatMap (enc M)
theorem encs_cons (M : Nat → Nat) (q : Mk) (l : List Mk) : encs M (q :: l) = enc M q ++ encs M l := by simp [encs]
theorem encs_append (M : Nat → Nat) (l l' : List Mk) : encs M (l ++ l') = encs M l ++ encs M l' := by simp [encs]

noncomputable def mks (P : Nat → Bool) : List Nat → List Mk
  | [] => []
  | [x] => [(x, false)]
  | x :: y :: t => if P x = true ∧ y = 0 then (0, true) :: (x, true) :: mks P t else (x, false) :: mks P (y :: t)

theorem mks_zero {P : Nat → Bool} (h0 : P 0 = false) (t : List Nat) : mks P (0 :: t) = (0, false) :: mks P t := by
  cases t with
  | nil => rfl
  | cons y t => rw [mks, if_neg (by rw [h0]; simp)]

theorem mks_head (P : Nat → Bool) (y : Nat) (t : List Nat) : (∃ l, mks P (y :: t) = (y, false) :: l) ∨ ∃ l, mks P (y :: t) = (0, true) :: l := by
  cases t with
  | nil => exact .inl ⟨_, rfl⟩
  | cons z t =>
    rw [mks]
    split
    · exact .inr ⟨_, rfl⟩
    · exact .inl ⟨_, rfl⟩

theorem rep_quoted {M : Nat → Nat} (hM : MarksOk M) {o : Nat} (ho : o < 4) (ho0 : o ≠ 0) {P : Nat → Bool} (h0 : P 0 = false) : ∀ (ks : List Nat), (∀ k ∈ ks, k < 4) →
    rep (M o) (M 0) (quoteL (M 0) ++ quoteL (M o)) (encs M (mks P ks)) = encs M (mks (fun c => P c || c == o) ks)
  | [], _ => rfl
  | [x], _ => rfl
  | x :: y :: t, h => by
    have hx := h x (List.mem_cons_self ..)
    have hy := h y (List.mem_cons_of_mem _ (List.mem_cons_self ..))
    have ih1 := rep_quoted hM ho ho0 h0 (y :: t) (fun k hk => h k (List.mem_cons_of_mem _ hk))
    have ih2 := rep_quoted hM ho ho0 h0 t (fun k hk => h k (List.mem_cons_of_mem _ (List.mem_cons_of_mem _ hk)))
    have hMo := hM.lo o ho
    have hq0 : ∀ c ∈ quoteL (M 0), c ≠ M o := fun c hc e => by have := quoteL_lt (n := M 0) (by have := hM.hi 0 (by omega); omega) c hc; omega
    have hqx : ∀ c ∈ quoteL (M x), c ≠ M o := fun c hc e => by have := quoteL_lt (n := M x) (by have := hM.hi x hx; omega) c hc; omega
    by_cases hc : P x = true ∧ y = 0
    · have e1 : mks P (x :: y :: t) = (0, true) :: (x, true) :: mks P t := by rw [mks, if_pos hc]
      have e2 : mks (fun c => P c || c == o) (x :: y :: t) = (0, true) :: (x, true) :: mks (fun c => P c || c == o) t := by rw [mks, if_pos ⟨by simp [hc.1], hc.2⟩]
      rw [e1, e2, encs_cons, encs_cons, encs_cons, encs_cons]
      show rep (M o) (M 0) _ (quoteL (M 0) ++ (quoteL (M x) ++ encs M (mks P t))) = quoteL (M 0) ++ (quoteL (M x) ++ _)
      rw [rep_passes _ _ hq0, rep_passes _ _ hqx, ih2]
    · have e1 : mks P (x :: y :: t) = (x, false) :: mks P (y :: t) := by rw [mks, if_neg hc]
      rw [e1, encs_cons]
      show rep (M o) (M 0) _ (M x :: encs M (mks P (y :: t))) = _
      by_cases hxo : x = o
      · subst hxo
        by_cases hy0 : y = 0
        · subst hy0
          have e2 : mks (fun c => P c || c == x) (x :: 0 :: t) = (0, true) :: (x, true) :: mks (fun c => P c || c == x) t := by rw [mks, if_pos ⟨by simp, rfl⟩]
          rw [e2, mks_zero h0, encs_cons, encs_cons, encs_cons]
          show rep (M x) (M 0) _ (M x :: M 0 :: encs M (mks P t)) = quoteL (M 0) ++ (quoteL (M x) ++ _)
          rw [rep, if_pos ⟨rfl, rfl⟩, ih2, List.append_assoc]
        · have e2 : mks (fun c => P c || c == x) (x :: y :: t) = (x, false) :: mks (fun c => P c || c == x) (y :: t) := by rw [mks, if_neg (fun hh => hy0 hh.2)]
          rw [e2, encs_cons, ← ih1]
          show _ = M x :: rep (M x) (M 0) _ (encs M (mks P (y :: t)))
          rcases mks_head P y t with ⟨l, e⟩ | ⟨l, e⟩
          · rw [e, encs_cons]
            show rep (M x) (M 0) _ (M x :: M y :: encs M l) = M x :: rep (M x) (M 0) _ (M y :: encs M l)
            rw [rep, if_neg (fun hh => hy0 (hM.inj _ _ hy (by omega) hh.2))]
          · rw [e, encs_cons]
            show rep (M x) (M 0) _ (M x :: 61 :: _) = M x :: rep (M x) (M 0) _ (61 :: _)
            rw [rep, if_neg (fun hh => by have := hM.lo 0 (by omega); omega)]
      · have e2 : mks (fun c => P c || c == o) (x :: y :: t) = (x, false) :: mks (fun c => P c || c == o) (y :: t) := by
          rw [mks, if_neg]
          intro hh
          have : P x = true := by simpa [hxo] using hh.1
          exact hc ⟨this, hh.2⟩
        rw [e2, encs_cons, rep_pass _ (fun e => hxo (hM.inj _ _ hx ho e)), ih1]
        rfl

theorem mks_none : ∀ (ks : List Nat), mks (fun _ => false) ks = ks.map (fun k => (k, false))
  | [] => rfl
  | [x] => rfl
  | x :: y :: t => by
    rw [mks, if_neg (by simp), mks_none (y :: t)]
    rfl
theorem encs_bare (M : Nat → Nat) (ks : List Nat) : encs M (ks.map (fun k => (k, false))) = ks.map M := by
  induction ks with
  | nil => rfl
  | cons x t ih => rw [List.map_cons, encs_cons, ih]; rfl
theorem mks_fst (P : Nat → Bool) : ∀ (ks : List Nat), (mks P ks).map (·.1) = gstep P ks
  | [] => rfl
  | [x] => rfl
  | x :: y :: t => by
    rw [mks, gstep]
    split
    · rw [List.map_cons, List.map_cons, mks_fst P t]
    · rw [List.map_cons, mks_fst P (y :: t)]

theorem gstep_lt {p : Nat → Bool} : ∀ {ks : List Nat}, (∀ k ∈ ks, k < 4) → ∀ k ∈ gstep p ks, k < 4
  | [], h => h
  | [_], h => h
  | x :: y :: t, h => by
    have hx := h x (List.mem_cons_self ..)
    rw [gstep]
    split
    · intro k hk
      rcases List.mem_cons.mp hk with rfl | hk
      · omega
      · rcases List.mem_cons.mp hk with rfl | hk
        · exact hx
        · exact gstep_lt (fun k hk => h k (List.mem_cons_of_mem _ (List.mem_cons_of_mem _ hk))) k hk
    · intro k hk
      rcases List.mem_cons.mp hk with rfl | hk
      · exact hx
      · exact gstep_lt (fun k hk => h k (List.mem_cons_of_mem _ hk)) k hk
theorem gstep_len {p : Nat → Bool} : ∀ (ks : List Nat), (gstep p ks).length = ks.length
  | [] => rfl
  | [_] => rfl
  | x :: y :: t => by
    rw [gstep]
    split
    · simp only [List.length_cons, gstep_len t]
    · simp only [List.length_cons, gstep_len (y :: t)]

/-! the cars of a road -/
noncomputable def carsOf : Nat → List Nat → List Car
  | _, [] => []
  | lo, k :: ks => if k = 0 then carsOf (lo + 1) ks else (lo, k) :: carsOf (lo + 1) ks

theorem carsOf_low : ∀ (ks : List Nat) (lo : Nat), lo ≤ hdp (lo + ks.length) (carsOf lo ks)
  | [], lo => Nat.le_refl _
  | k :: ks, lo => by
    have ih := carsOf_low ks (lo + 1)
    have e : lo + 1 + ks.length = lo + (k :: ks).length := by simp only [List.length_cons]; omega
    rw [e] at ih
    rw [carsOf]
    split
    · omega
    · exact Nat.le_refl _
theorem Valid.mono {N : Nat} : ∀ {cs : List Car} {lo lo' : Nat}, Valid N lo cs → lo' ≤ lo → Valid N lo' cs
  | [], _, _, h, hl => Nat.le_trans hl h
  | (_, _) :: _, _, _, h, hl => ⟨Nat.le_trans hl h.1, h.2⟩
theorem carsOf_valid : ∀ (ks : List Nat) (lo : Nat), Valid (lo + ks.length) lo (carsOf lo ks)
  | [], lo => Nat.le_refl _
  | k :: ks, lo => by
    have ih := carsOf_valid ks (lo + 1)
    have e : lo + 1 + ks.length = lo + (k :: ks).length := by simp only [List.length_cons]; omega
    rw [e] at ih
    rw [carsOf]
    split
    · exact ih.mono (Nat.le_succ _)
    · rename_i hk
      exact ⟨Nat.le_refl _, hk, ih⟩
theorem carsOf_render : ∀ (ks : List Nat) (lo : Nat), render (lo + ks.length) lo (carsOf lo ks) = ks
  | [], lo => by simp [carsOf, render]
  | k :: ks, lo => by
    have ih := carsOf_render ks (lo + 1)
    have hv := carsOf_low ks (lo + 1)
    have e : lo + 1 + ks.length = lo + (k :: ks).length := by simp only [List.length_cons]; omega
    rw [e] at ih hv
    rw [carsOf]
    split
    · rename_i hk
      rw [render_more (by omega), ih, hk]
    · show List.replicate (lo - lo) 0 ++ k :: render _ (lo + 1) (carsOf (lo + 1) ks) = _
      rw [ih, Nat.sub_self]
      rfl

noncomputable def setAll (base : List Nat) : List Car → List Nat
  | [] => base
  | (x, c) :: t => setAll (base.set x c) t

theorem setAll_render (N : Nat) : ∀ (cs : List Car) (lo : Nat) (pre : List Nat), pre.length = lo → Valid N lo cs → setAll (pre ++ List.replicate (N - lo) 0) cs = pre ++ render N lo cs
  | [], lo, pre, _, _ => rfl
  | (x, c) :: t, lo, pre, hp, hv => by
    have h1 := hv.1
    have h2 := hv.2.2.le
    show setAll ((pre ++ List.replicate (N - lo) 0).set x c) t = pre ++ (List.replicate (x - lo) 0 ++ c :: render N (x + 1) t)
    have e : (pre ++ List.replicate (N - lo) 0).set x c = (pre ++ List.replicate (x - lo) 0 ++ [c]) ++ List.replicate (N - (x + 1)) 0 := by
      have e1 : N - lo = (x - lo) + ((N - (x + 1)) + 1) := by omega
      rw [e1, ← List.replicate_append_replicate, List.replicate_succ, ← List.append_assoc]
      have e2 : x = (pre ++ List.replicate (x - lo) 0).length + 0 := by simp; omega
      have : ((pre ++ List.replicate (x - lo) 0) ++ 0 :: List.replicate (N - (x + 1)) 0).set ((pre ++ List.replicate (x - lo) 0).length + 0) c = (pre ++ List.replicate (x - lo) 0) ++ c :: List.replicate (N - (x + 1)) 0 := by
        rw [List.set_append_right _ _ (by omega)]
        simp
      rw [← e2] at this
      rw [this]
      simp
    rw [e, setAll_render N t (x + 1) _ (by simp; omega) hv.2.2]
    simp

theorem isK_zero {o : Nat} (h : o ≠ 0) : isK o 0 = false := by simp [isK, Ne.symm h]

/-- one bare round upon the road's text -/
theorem bare_text {M : Nat → Nat} (hM : MarksOk M) {N : Nat} : ∀ (os : List Nat), (∀ o ∈ os, o < 4 ∧ o ≠ 0) → ∀ (cs : List Car) (lo : Nat), Valid N lo cs → (∀ k ∈ render N lo cs, k < 4) →
    os.foldl (fun l o => rep (M o) (M 0) [M 0, M o] l) ((render N lo cs).map M) = (render N lo (passes N os cs)).map M
  | [], _, _, _, _, _ => rfl
  | o :: os, ho, cs, lo, hv, hk => by
    have h1 := ho o (List.mem_cons_self ..)
    show os.foldl _ (rep (M o) (M 0) [M 0, M o] ((render N lo cs).map M)) = (render N lo (passes N os (gpass (isK o) N cs))).map M
    have e := gstep_render (p := isK o) (isK_zero h1.2) cs lo hv
    rw [rep_bare hM h1.1 h1.2 _ hk, e]
    refine bare_text hM os (fun o h => ho o (List.mem_cons_of_mem _ h)) _ lo hv.pass ?_
    rw [← e]
    exact gstep_lt hk

/-- one quoted round, before it is read -/
theorem quoted_text {M : Nat → Nat} (hM : MarksOk M) : ∀ (os : List Nat), (∀ o ∈ os, o < 4 ∧ o ≠ 0) → ∀ (P : Nat → Bool), P 0 = false → ∀ (ks : List Nat), (∀ k ∈ ks, k < 4) →
    os.foldl (fun l o => rep (M o) (M 0) (quoteL (M 0) ++ quoteL (M o)) l) (encs M (mks P ks)) = encs M (mks (fun c => P c || os.contains c) ks)
  | [], _, P, _, ks, _ => by simp
  | o :: os, ho, P, h0, ks, hk => by
    have h1 := ho o (List.mem_cons_self ..)
    show os.foldl _ (rep (M o) (M 0) (quoteL (M 0) ++ quoteL (M o)) (encs M (mks P ks))) = _
    rw [rep_quoted hM h1.1 h1.2 h0 ks hk, quoted_text hM os (fun o h => ho o (List.mem_cons_of_mem _ h)) _ (by simp [h0, Ne.symm h1.2]) ks hk]
    congr 2
    funext c
    simp only [List.contains_cons, Bool.or_assoc]
end Mine
end
section
open PySem PySem.Builtin PySem.Builtin.Str
set_option maxRecDepth 100000
namespace Mine

theorem S_len (l : List Nat) : (S l).length = l.length := by simp [S, Str.length]
theorem S_list (l : List Nat) : (S l).cps.toList = l := rfl
theorem S_inj {a b : List Nat} (h : S a = S b) : a = b := by
  have := congrArg (fun x : Str => x.cps.toList) h
  exact this

/-! no line's end, no blank -/
theorem no_breaks : ∀ n, n < 256 → (n = 61 ∨ (48 ≤ n ∧ n ≤ 57) ∨ (65 ≤ n ∧ n ≤ 70) ∨ (161 ≤ n ∧ n ≤ 252)) → Unicode.isLineBreak n = false ∧ Unicode.isSpace n = false := by decide +kernel

noncomputable def Good (n : Nat) : Prop := n = 61 ∨ (48 ≤ n ∧ n ≤ 57) ∨ (65 ≤ n ∧ n ≤ 70) ∨ (161 ≤ n ∧ n ≤ 252)
theorem Good.lt {n : Nat} (h : Good n) : n < 256 := by unfold Good at h; omega
theorem Good.line {n : Nat} (h : Good n) : Unicode.isLineBreak n = false := (no_breaks n h.lt h).1
theorem Good.space {n : Nat} (h : Good n) : Unicode.isSpace n = false := (no_breaks n h.lt h).2

theorem ls_none (s : Str) (h : ∀ c ∈ s.cps.toList, Unicode.isLineBreak c = false) : ∀ (m i : Nat), i + m ≤ s.length →
    Id.run (forIn (m := Id) (List.range' i m) ((#[], 0) : StrLaws.LsSt) (StrLaws.lsBody s)) = (#[], 0)
  | 0, _, _ => rfl
  | m + 1, i, hm => by
    rw [List.range'_succ, List.forIn_cons]
    have hi : i < s.cps.size := by have : s.length = s.cps.size := rfl; omega
    have hb : Unicode.isLineBreak (s.cps.getD i 0) = false := by
      have e : s.cps.getD i 0 = s.cps[i] := by simp [Array.getD, hi]
      rw [e]
      exact h _ (by simp)
    unfold StrLaws.lsBody
    rw [hb, Bool.and_false, if_neg Bool.false_ne_true]
    exact ls_none s h m (i + 1) (by omega)

theorem lines_one {l : List Nat} (hne : l ≠ []) (h : ∀ c ∈ l, Good c) : PySem.Txt.lines (S l) = [S l] := by
  have e : lineSpans (S l) = [(0, (S l).length, (S l).length)] := by
    rw [StrLaws.ls_eq, ls_none (S l) (fun c hc => (h c hc).line) (S l).length 0 (by omega)]
    have hp : 0 < (S l).length := by rw [S_len]; exact List.length_pos_iff.mpr hne
    unfold StrLaws.lsEnd
    rw [if_pos hp]
    simp
  have e2 : lineCuts (S l) = [(0, (S l).length)] := by
    unfold lineCuts
    rw [e]
    rfl
  unfold PySem.Txt.lines
  rw [e2]
  simp

theorem cuts_one {l : List Nat} (hne : l ≠ []) (h : ∀ c ∈ l, Good c) : (lineCuts (S l)).length = 1 := by
  have e : lineSpans (S l) = [(0, (S l).length, (S l).length)] := by
    rw [StrLaws.ls_eq, ls_none (S l) (fun c hc => (h c hc).line) (S l).length 0 (by omega)]
    have hp : 0 < (S l).length := by rw [S_len]; exact List.length_pos_iff.mpr hne
    unfold StrLaws.lsEnd
    rw [if_pos hp]
    simp
  unfold lineCuts
  rw [e]
  rfl
theorem rstrip_same {l : List Nat} (h : ∀ c ∈ l, Good c) : PySem.Txt.rstrip (S l) = S l := by
  unfold PySem.Txt.rstrip PySem.Txt.stripBy
  rw [if_pos]
  unfold stripSame
  have h0 : stripLo Unicode.isSpace false (S l) = 0 := rfl
  rw [h0]
  have h1 : stripHi Unicode.isSpace true (S l) 0 = (S l).length := by
    unfold stripHi
    rw [if_pos rfl, List.drop_zero, S_list]
    have : l.reverse.takeWhile Unicode.isSpace = [] := by
      cases hr : l.reverse with
      | nil => rfl
      | cons a r =>
        have ha : a ∈ l := by rw [← List.mem_reverse, hr]; exact List.mem_cons_self ..
        rw [List.takeWhile_cons, (h a ha).space]
        rfl
    rw [this]
    simp
  rw [h1]
  simp

theorem hexd_good {n : Nat} (h : n < 16) : Good (hexd n) := by unfold Good hexd; split <;> omega
theorem quoteL_good {n : Nat} (h : n < 256) : ∀ c ∈ quoteL n, Good c := by
  intro c hc
  simp only [quoteL, List.mem_cons, List.not_mem_nil, or_false] at hc
  rcases hc with rfl | rfl | rfl
  · exact .inl rfl
  · exact hexd_good (by omega)
  · exact hexd_good (by omega)

/-- a text of signs, some quoted -/
noncomputable def encN (q : Mk) : List Nat := if q.2 = true then quoteL q.1 else [q.1]
noncomputable def flatN (l : List Mk) : List Nat := l.flatMap encN
noncomputable def OkN (l : List Mk) : Prop := ∀ q ∈ l, 161 ≤ q.1 ∧ q.1 ≤ 252

theorem flat_good {l : List Mk} (h : OkN l) : ∀ c ∈ flatN l, Good c := by
  intro c hc
  obtain ⟨q, hq, hc⟩ := List.mem_flatMap.mp hc
  have := h q hq
  unfold encN at hc
  split at hc
  · exact quoteL_good (by omega) c hc
  · rw [List.mem_singleton] at hc
    subst hc
    exact .inr (.inr (.inr this))

theorem flat_len {l : List Mk} : l.length ≤ (flatN l).length ∧ (flatN l).length ≤ 3 * l.length := by
  induction l with
  | nil => exact ⟨Nat.le_refl _, Nat.le_refl _⟩
  | cons q l ih =>
    have e : flatN (q :: l) = encN q ++ flatN l := by simp [flatN]
    have h1 : 1 ≤ (encN q).length ∧ (encN q).length ≤ 3 := by unfold encN; split <;> simp [quoteL]
    rw [e, List.length_append, List.length_cons]
    omega
theorem flat_cons (q : Mk) (l : List Mk) : flatN (q :: l) = encN q ++ flatN l := by simp [flatN]
theorem flat_append (a b : List Mk) : flatN (a ++ b) = flatN a ++ flatN b := by simp [flatN]
theorem flat_ne {l : List Mk} (h : l ≠ []) : flatN l ≠ [] := by
  intro e
  have := (flat_len (l := l)).1
  rw [e] at this
  exact h (List.length_eq_zero_iff.mp (by simpa using this))

/-- a road's marks as signs -/
theorem encs_flat (M : Nat → Nat) (l : List Mk) : encs M l = flatN (l.map fun q => (M q.1, q.2)) := by
  induction l with
  | nil => rfl
  | cons q l ih => rw [encs_cons, ih, List.map_cons, flat_cons]; rfl

/-! the signs of base 16 -/
theorem hex_in : ∀ d, d < 16 → PySem.Txt.contains (Str.ofString "0123456789abcdefABCDEF") (S [hexd d]) = true := by
  intro d hd
  unfold PySem.Txt.contains
  show (!(occurrences (Str.ofString "0123456789abcdefABCDEF") ⟨#[hexd d]⟩ 0 _ 1).isEmpty) = true
  rw [StrLaws.found_one, decide_eq_true_eq]
  have : (Str.ofString "0123456789abcdefABCDEF").cps.toList = [48, 49, 50, 51, 52, 53, 54, 55, 56, 57, 97, 98, 99, 100, 101, 102, 65, 66, 67, 68, 69, 70] := by decide +kernel
  rw [this]
  have : ∀ d, d < 16 → hexd d ∈ [48, 49, 50, 51, 52, 53, 54, 55, 56, 57, 97, 98, 99, 100, 101, 102, 65, 66, 67, 68, 69, 70] := by decide
  exact this d hd
end Mine
end
section
open PySem PySem.Builtin PySem.Builtin.Str
set_option maxRecDepth 100000
namespace Mine

/-- the inner loop of the expected road, from its k-th turn on (m turns are left) -/
noncomputable def runB (ps rs : List Int) (bare : Bool) (T : Int) (j : Nat) : Nat → Nat → Int → Int → Int
  | 0, _, b, _ => b
  | m + 1, k, b, l =>
    let l' := if 0 < k ∧ ¬ (bare = true ∧ rs.getD (j + k) 0 < rs.getD (j + k - 1) 0) then l + 1 else l
    if T < l' then b else runB ps rs bare T j m (k + 1) (min b (ps.getD (j + k) 0 - (k : Int) + T - l')) l'
noncomputable def bestB (ps rs : List Int) (bare : Bool) (T : Int) (j : Nat) : Int := runB ps rs bare T j (ps.length - j) 0 (12 - ((ps.length : Int) - (j : Int))) 0
/-- the road after k cars are laid -/
noncomputable def laidB (ps rs : List Int) (bare : Bool) (T : Int) (cs : List Nat) (free : Nat) : Nat → List Nat
  | 0 => List.replicate 12 free
  | k + 1 => (laidB ps rs bare T cs free k).set (bestB ps rs bare T k).toNat (cs.getD k 0)
noncomputable def roadB (ps rs : List Int) (bare : Bool) (T : Int) (cs : List Nat) (free : Nat) : List Nat := laidB ps rs bare T cs free ps.length

theorem laidB_len (ps rs : List Int) (bare : Bool) (T : Int) (cs : List Nat) (free : Nat) : ∀ k, (laidB ps rs bare T cs free k).length = 12
  | 0 => by simp [laidB]
  | k + 1 => by rw [laidB, List.length_set, laidB_len ps rs bare T cs free k]

theorem runB_done (ps rs : List Int) (bare : Bool) (T : Int) (j k : Nat) (b l : Int) : runB ps rs bare T j 0 k b l = b := rfl
theorem runB_break {ps rs : List Int} {bare : Bool} {T : Int} {j m k : Nat} {b l : Int} (h : T < (if 0 < k ∧ ¬ (bare = true ∧ rs.getD (j + k) 0 < rs.getD (j + k - 1) 0) then l + 1 else l)) : runB ps rs bare T j (m + 1) k b l = b := by
  rw [runB]
  exact if_pos h
theorem runB_go {ps rs : List Int} {bare : Bool} {T : Int} {j m k : Nat} {b l l' : Int} (hl : (if 0 < k ∧ ¬ (bare = true ∧ rs.getD (j + k) 0 < rs.getD (j + k - 1) 0) then l + 1 else l) = l') (h : ¬ T < l') :
    runB ps rs bare T j (m + 1) k b l = runB ps rs bare T j m (k + 1) (min b (ps.getD (j + k) 0 - (k : Int) + T - l')) l' := by
  rw [runB]
  simp only [hl, h, if_false]

theorem brk_val {ps rs : List Int} {bare : Bool} {T B : Int} {j k n : Nat} {b l l' : Int} (hk : k < n - j) (hP : runB ps rs bare T j (n - j - k) k b l = B)
    (hl : (if 0 < k ∧ ¬ (bare = true ∧ rs.getD (j + k) 0 < rs.getD (j + k - 1) 0) then l + 1 else l) = l') (h : T < l') : b = B := by
  obtain ⟨m, e⟩ : ∃ m, n - j - k = m + 1 := ⟨n - j - k - 1, by omega⟩
  rw [e, runB_break (by rw [hl]; exact h)] at hP
  exact hP
theorem go_val {ps rs : List Int} {bare : Bool} {T B : Int} {j k n : Nat} {b l l' : Int} (hk : k < n - j) (hP : runB ps rs bare T j (n - j - k) k b l = B)
    (hl : (if 0 < k ∧ ¬ (bare = true ∧ rs.getD (j + k) 0 < rs.getD (j + k - 1) 0) then l + 1 else l) = l') (h : ¬ T < l') : runB ps rs bare T j (n - j - (k + 1)) (k + 1) (min b (ps.getD (j + k) 0 - (k : Int) + T - l')) l' = B := by
  obtain ⟨m, e⟩ : ∃ m, n - j - k = m + 1 := ⟨n - j - k - 1, by omega⟩
  have e2 : n - j - (k + 1) = m := by omega
  rw [e, runB_go hl h] at hP
  rw [e2]
  exact hP
theorem late_A {rs : List Int} {bare : Bool} {j k : Nat} {l : Int} (h : ¬ 0 < (k : Int)) : (if 0 < k ∧ ¬ (bare = true ∧ rs.getD (j + k) 0 < rs.getD (j + k - 1) 0) then l + 1 else l) = l := if_neg fun hh => h (by omega)
theorem late_B {rs : List Int} {bare : Bool} {j k : Nat} {l : Int} (h : 0 < (k : Int)) (hb : bare = false) : (if 0 < k ∧ ¬ (bare = true ∧ rs.getD (j + k) 0 < rs.getD (j + k - 1) 0) then l + 1 else l) = l + 1 := if_pos ⟨by omega, fun hh => by rw [hb] at hh; cases hh.1⟩
theorem late_C {rs : List Int} {bare : Bool} {j k : Nat} {l : Int} (hb : bare = true) (hr : rs.getD (j + k) 0 < rs.getD (j + k - 1) 0) : (if 0 < k ∧ ¬ (bare = true ∧ rs.getD (j + k) 0 < rs.getD (j + k - 1) 0) then l + 1 else l) = l := if_neg fun hh => hh.2 ⟨hb, hr⟩
theorem late_D {rs : List Int} {bare : Bool} {j k : Nat} {l : Int} (h : 0 < (k : Int)) (hr : ¬ rs.getD (j + k) 0 < rs.getD (j + k - 1) 0) : (if 0 < k ∧ ¬ (bare = true ∧ rs.getD (j + k) 0 < rs.getD (j + k - 1) 0) then l + 1 else l) = l + 1 := if_pos ⟨by omega, fun hh => hr hh.2⟩

/-- signs in a list -/
noncomputable abbrev Tk := Nat × PySem.Tok
noncomputable def rv (l : List Tk) : List PySem.Value := l.map fun p => .str (S [p.1]) p.2
theorem rv_strs (l : List Tk) : rv l = strValues (l.map fun p => (S [p.1], p.2)) := by simp [rv, strValues]
theorem rv_set (l : List Tk) (k c : Nat) (t : PySem.Tok) : (rv l).set k (.str (S [c]) t) = rv (l.set k (c, t)) := by
  unfold rv
  rw [List.map_set]
theorem join_signs (l : List Nat) : Txt.join (Str.ofString "") (l.map fun c => S [c]) = S l := by
  have e0 : Str.ofString "" = Str.empty := by decide +kernel
  unfold Txt.join
  rw [StrLaws.glued_eq_join, e0]
  induction l with
  | nil => rfl
  | cons a l ih =>
    cases l with
    | nil => rfl
    | cons b l =>
      show S [a] ++ Str.empty ++ Str.join Str.empty ((b :: l).map fun c => S [c]) = _
      rw [ih, Str.append_empty, S_append]
      rfl
end Mine
end
section
open PySem PySem.W PyProof.Rows PySem.Spec PySem.Calls PySem.Builtin PySem.Builtin.Str
set_option maxRecDepth 100000
namespace Mine

noncomputable def At3 (l : List Nat) (k : Nat) (cs : List Nat) : Prop := (l.drop k).take cs.length = cs

theorem At3.get {l : List Nat} {k : Nat} {cs : List Nat} (H : At3 l k cs) {j c : Nat} (hj : cs[j]? = some c) : l[k + j]? = some c := by
  have hlt : j < cs.length := (List.getElem?_eq_some_iff.mp hj).1
  rw [← List.getElem?_drop, ← hj]
  have h : (l.drop k).take cs.length = cs := H
  have := congrArg (fun x => x[j]?) h
  simp only [List.getElem?_take, hlt, if_true] at this
  exact this
theorem At3.bound {l : List Nat} {k : Nat} {cs : List Nat} (H : At3 l k cs) (hk : k ≤ l.length) : k + cs.length ≤ l.length := by
  have h : (l.drop k).take cs.length = cs := H
  have := congrArg List.length h
  rw [List.length_take, List.length_drop] at this
  omega

theorem item_eq {l : List Nat} {k c : Nat} {i : Int} (h : l[k]? = some c) (hi : i = (k : Int)) : PySem.Txt.item (S l) i = S [c] := by
  have hlt : k < l.length := (List.getElem?_eq_some_iff.mp h).1
  have e : PySem.Txt.charAt (S l) i = some c := by
    unfold PySem.Txt.charAt
    have e1 : seqIndex? i (S l).length = some k := by
      rw [S_len]
      unfold seqIndex?
      subst hi
      have h1 : ¬ ((k : Int) < 0) := by omega
      simp only [h1, if_false]
      rw [if_pos (by simp; omega), Int.toNat_natCast]
    rw [e1]
    show (S l).cps[k]? = some c
    rw [← Array.getElem?_toList, S_list, h]
  unfold PySem.Txt.item
  rw [e]
  rfl
theorem item_last {l : List Nat} {c : Nat} (h : l[l.length - 1]? = some c) : PySem.Txt.item (S l) (-1) = S [c] := by
  have hlt : l.length - 1 < l.length := (List.getElem?_eq_some_iff.mp h).1
  have e : PySem.Txt.charAt (S l) (-1) = some c := by
    unfold PySem.Txt.charAt
    have e1 : seqIndex? (-1) (S l).length = some (l.length - 1) := by
      rw [S_len]
      unfold seqIndex?
      have h0 : ((-1 : Int) < 0) := by omega
      simp only [h0, if_true]
      have h3 : ((-1 : Int) + (l.length : Int)).toNat = l.length - 1 := by omega
      rw [if_pos (by simp; omega), h3]
    rw [e1]
    show (S l).cps[l.length - 1]? = some c
    rw [← Array.getElem?_toList, S_list, h]
  unfold PySem.Txt.item
  rw [e]
  rfl
theorem slice_eq {l : List Nat} {k : Nat} {cs : List Nat} (H : At3 l k cs) (hk : k ≤ l.length) {i j : Int} (hi : i = (k : Int)) (hj : j = (k : Int) + (cs.length : Int)) : PySem.Txt.slice (S l) (some i) (some j) = S cs := by
  have hb := H.bound hk
  have h : (l.drop k).take cs.length = cs := H
  have e := StrLaws.sliced_plain (S l) (a := k) (b := k + cs.length) (by omega) (by rw [S_len]; exact hb)
  have e2 : ((k : Int) + (cs.length : Int)) = ((k + cs.length : Nat) : Int) := by omega
  rw [S_list] at e
  have e3 : k + cs.length - k = cs.length := by omega
  rw [e3, h] at e
  subst hi
  subst hj
  unfold PySem.Txt.slice
  rw [e2]
  split
  · rename_i hc
    have h1 : (strSliceIndices (some (k : Int)) (some ((k + cs.length : Nat) : Int)) 1 (S l).length).length = (S l).length := by simpa using hc
    rw [StrLaws.strSliceIndices_plain (by omega) (by rw [S_len]; exact hb), S_len] at h1
    simp at h1
    have hk0 : k = 0 := by omega
    have hcl : cs.length = l.length := by omega
    rw [hk0, List.drop_zero, hcl, List.take_length] at h
    rw [h]
  · rw [e]
    rfl
theorem slice_front {l : List Nat} {c : Nat} : PySem.Txt.slice (S (l ++ [c])) none (some (-1)) = S l := by
  have e1 : strSliceIndices none (some (-1)) 1 (S (l ++ [c])).length = List.range l.length := by
    rw [S_len, List.length_append]
    unfold strSliceIndices sliceRange
    simp only [show (1 : Int) > 0 by decide, if_true, show ((-1 : Int) < 0) by decide, List.length_cons, List.length_nil]
    have e2 : max (0 : Int) (min (-1 + ((l.length + (0 + 1) : Nat) : Int)) ((l.length + (0 + 1) : Nat) : Int)) = (l.length : Int) := by omega
    rw [e2]
    by_cases h : (0 : Int) < (l.length : Int)
    · rw [if_pos h]
      have e3 : (((l.length : Int) - 0 + 1 - 1) / 1).toNat = l.length := by rw [Int.ediv_one]; omega
      rw [e3]
      have : (fun (k : Nat) => ((0 : Int) + 1 * (k : Int)).toNat) = fun k => k := by funext k; simp
      rw [this, List.map_id']
    · rw [if_neg h]
      have : l.length = 0 := by omega
      rw [this]
      rfl
  unfold PySem.Txt.slice
  rw [e1, if_neg]
  · apply Str.ext'
    apply Array.toList_inj.mp
    show (List.filterMap (fun x => (S (l ++ [c])).cps[x]?) (List.range l.length)).toArray.toList = l
    have e4 := StrLaws.picks (l ++ [c]) l.length 0 (by simp)
    simp only [Nat.zero_add, List.drop_zero] at e4
    have e5 : (fun (x : Nat) => (S (l ++ [c])).cps[x]?) = fun (x : Nat) => (l ++ [c])[x]? := by
      funext x
      rw [← Array.getElem?_toList, S_list]
    rw [e5]
    have e6 : (List.range l.length).map (fun k => k) = List.range l.length := List.map_id' _
    rw [e6] at e4
    rw [e4]
    simp
  · rw [S_len]
    simp

theorem ends_nl {l : List Nat} {c : Nat} : PySem.Txt.endswith (S (l ++ [c])) (S [c]) = true := by
  unfold PySem.Txt.endswith
  rw [S_len, S_len, StrLaws.subAt_eq, S_list, S_list, S_len]
  simp

theorem notin {c : Nat} {l : List Nat} (h : c ∉ l) : PySem.Txt.contains (S l) (S [c]) = false := by
  unfold PySem.Txt.contains
  show (!(occurrences (S l) ⟨#[c]⟩ 0 _ 1).isEmpty) = false
  rw [StrLaws.found_one, S_list, decide_eq_false h]

section
variable {prog : Program} {w : World} {A : Around} {E : Value → Shared → Prop} {s : Shared} {h₀ : Heap} {L : Addr} {m : Str → Option Value} {news : List (Addr × Obj)} {x y z : Str} {t u : Tok} {Q : Value → Shared → Prop} {value slice : PySem.Expr}

theorem item_V {i : Int} (e : PySem.Txt.item x i = y) (lo : -(x.length : Int) ≤ i) (hi : i < x.length) (hsz : x.length ≤ 1000) (h : ∀ t k, Q (.str y t) { s with toks := k })
    (hs : subscripted slice false (.str x t) (.int i u) = operate [.str x t, .int i u] (getItem (.str x t) (.int i u))) (hg : ∀ r, letTemporaryGo value (.str x t) r = pure ()) :
    wpAny (model prog w) A (subscriptTail value slice (.str x t) (.int i u)) Q E s :=
  KXi.item rfl lo hi (by omega) (fun _ => by rw [e]; exact h _ _) hs hg
theorem slice_V {i j : Int} {ui uj : Tok} (F : Fr h₀ L s.heap m) (N : News h₀ L s.heap news) (e : PySem.Txt.slice x (some i) (some j) = y) (hsz : x.length ≤ 1000)
    (h : ∀ h' t' k, Fr h₀ L h' m → News h₀ L h' news → Q (.str y t') { s with heap := h', toks := k })
    (hs : subscripted slice false (.str x t) (.ref s.heap.objs.size) = operate [.ref s.heap.objs.size, .str x t] (getItem (.str x t) (.ref s.heap.objs.size))) (hg : ∀ r, letTemporaryGo value (.str x t) r = pure ()) :
    wpAny (model prog w) A (subscriptTail value slice (.str x t) (.ref s.heap.objs.size)) Q E { s with heap := s.heap.push { cls := .type "slice", data := .fields #[.int i ui, .int j uj, .none] } } :=
  slice_strN_ss F N (fun h' t' k F' N' => by rw [e]; exact h h' t' k F' N') hs hg (by rw [sizeLine_eq]; omega)
theorem slice_V_ns {j : Int} {uj : Tok} (F : Fr h₀ L s.heap m) (N : News h₀ L s.heap news) (e : PySem.Txt.slice x none (some j) = y) (hsz : x.length ≤ 1000)
    (h : ∀ h' t' k, Fr h₀ L h' m → News h₀ L h' news → Q (.str y t') { s with heap := h', toks := k })
    (hs : subscripted slice false (.str x t) (.ref s.heap.objs.size) = operate [.ref s.heap.objs.size, .str x t] (getItem (.str x t) (.ref s.heap.objs.size))) (hg : ∀ r, letTemporaryGo value (.str x t) r = pure ()) :
    wpAny (model prog w) A (subscriptTail value slice (.str x t) (.ref s.heap.objs.size)) Q E { s with heap := s.heap.push { cls := .type "slice", data := .fields #[.none, .int j uj, .none] } } :=
  slice_strN_ns F N (fun h' t' k F' N' => by rw [e]; exact h h' t' k F' N') hs hg (by rw [sizeLine_eq]; omega)
theorem ne_V {b : Bool} (e : (x != y) = b) (h : Q (.bool b) s) : wpAny (model prog w) A (compareOp .NotEq (.str x t) (.str y u)) Q E s := PyProof.Rows.ne_str (by rw [e]; exact h)
theorem in_V {b : Bool} (e : PySem.Txt.contains x y = b) (h : Q (.bool b) s) : wpAny (model prog w) A (compareOp .In (.str y u) (.str x t)) Q E s := PyProof.Rows.in_str (by subst e; exact h)
theorem notin_V {b : Bool} (e : PySem.Txt.contains x y = b) (h : Q (.bool (!b)) s) : wpAny (model prog w) A (compareOp .NotIn (.str y u) (.str x t)) Q E s := PyProof.Rows.notIn_str (by subst e; exact h)
theorem iadd_V (e : x ++ y = z) (hsz : x.length + y.length ≤ 1000) (h : ∀ t k, Q (.str z t) { s with toks := k }) : wpAny (model prog w) A (inplaceOp .Add (.str x t) (.str y u)) Q E s :=
  SBL.iadd (fun _ _ _ => by rw [e]; exact h _ _) (by rw [sizeLine_eq]; omega)
theorem add_V (e : x ++ y = z) (hsz : x.length + y.length ≤ 1000) (h : ∀ t k, Q (.str z t) { s with toks := k }) : wpAny (model prog w) A (binaryOp .Add (.str x t) (.str y u)) Q E s :=
  SBL.add (fun _ _ _ => by rw [e]; exact h _ _) (by rw [sizeLine_eq]; omega)
theorem rstrip_V (e : PySem.Txt.rstrip x = y) (hsz : x.length ≤ 1000) (h : ∀ t k, Q (.str y t) { s with toks := k }) : wpAny (model prog w) A (call (.builtin "str.rstrip") [.str x t]) Q E s :=
  SCL.rstrip (fun _ _ _ => by rw [e]; exact h _ _) (by rw [sizeLine_eq]; omega)
theorem endswith_V {b : Bool} (e : PySem.Txt.endswith x y = b) (h : Q (.bool b) s) : wpAny (model prog w) A (call (.builtin "str.endswith") [.str x t, .str y u]) Q E s := SC.endswith (by rw [e]; exact h)
theorem chr_V {i : Int} {n : Nat} (e : i = (n : Int)) (hn : n ≤ 1000) (h : ∀ t k, Q (.str (S [n]) t) { s with toks := k }) : wpAny (model prog w) A (call (.builtin "chr") [.int i t]) Q E s := by
  subst e
  exact chr_of_range (by omega) (by omega) (by rw [Int.toNat_natCast]; exact h _ _)
theorem ord_V {n : Nat} (h : ∀ t k, Q (.int (n : Int) t) { s with toks := k }) : wpAny (model prog w) A (call (.builtin "ord") [.str (S [n]) t]) Q E s := P.ord_of_char (h _ _)
end

/-! int(text, 16) of two signs -/
theorem typeCall_int_2 (a b : Value) : checkTypeCall "int" ⟨[a, b], []⟩ = pure () := by kernel_rfl
theorem newCall_int_2 (a b : Value) : checkBuiltinCall "int.__new__" ⟨[.type "int", a, b], []⟩ = pure () := by kernel_rfl
theorem args_init_3 (a b c : Value) : argsOk "object.__init__" ⟨[a, b, c], []⟩ := by
  unfold argsOk; rw [signature?_of (id := "object.__init__") (n := ['_', '_', 't', 'i', 'n', 'i', '_', '_']) (o := ['t', 'c', 'e', 'j', 'b', 'o']) (by kernel_rfl) F.owner_object]; kernel_rfl

theorem hex_read {a b : Nat} (ha : a < 16) (ha8 : 8 ≤ a) (hb : b < 16) : (int_private% "readNumeral") 0 16 [hexd a, hexd b] = (int_private% "Numeral.value") ((16 * a + b : Nat) : Int) := by
  have h1 : a = 8 ∨ a = 9 ∨ a = 10 ∨ a = 11 ∨ a = 12 ∨ a = 13 ∨ a = 14 ∨ a = 15 := by omega
  have h2 : b = 0 ∨ b = 1 ∨ b = 2 ∨ b = 3 ∨ b = 4 ∨ b = 5 ∨ b = 6 ∨ b = 7 ∨ b = 8 ∨ b = 9 ∨ b = 10 ∨ b = 11 ∨ b = 12 ∨ b = 13 ∨ b = 14 ∨ b = 15 := by omega
  rcases h1 with rfl | rfl | rfl | rfl | rfl | rfl | rfl | rfl <;>
    (rcases h2 with rfl | rfl | rfl | rfl | rfl | rfl | rfl | rfl | rfl | rfl | rfl | rfl | rfl | rfl | rfl | rfl <;> kernel_rfl)

theorem hexd_ascii {a : Nat} (h : a < 16) : hexd a < 128 ∧ hexd a ≠ 0 := by unfold hexd; split <;> omega

theorem wp_text16 {M : Model} {A : Around} {E : Value → Shared → Prop} {s : Shared} {Q : Value → Shared → Prop} {v : Value} {text : List Nat} {n : Int}
    (hs : (text.takeWhile (· != 0)).length ≤ 640) (hr : (int_private% "readNumeral") 0 16 (text.takeWhile (· != 0)) = (int_private% "Numeral.value") n)
    (ha : ((text.takeWhile (· != 0)).length == text.length) = true) (h : Q (.int n s.toks) { s with toks := s.toks + 1 }) :
    wpAny M A ((int_private% "intFromText") v text 16) Q E s := by
  obtain ⟨hp, g, d, tk, os⟩ := s
  repeat (any_goals (first
    | assumption
    | (with_reducible refine wpAny_ite_true (decide_eq_true hs) ?_)
    | (with_reducible refine wpAny_ite_true (decide_eq_true ha) ?_)
    | wp_step))
  all_goals (try rw [hr])
  all_goals (try dsimp only)
  repeat (any_goals (first
    | assumption
    | (with_reducible refine wpAny_ite_true (decide_eq_true hs) ?_)
    | (with_reducible refine wpAny_ite_true (decide_eq_true ha) ?_)
    | wp_step))

set_option maxHeartbeats 4000000 in
theorem gives_hex {a b : Nat} {u v : Tok} (ha : a < 16) (ha8 : 8 ≤ a) (hb : b < 16) : Gives (Builtin.«int.__new__» ⟨[.type "int", .str (S [hexd a, hexd b]) u, .int 16 v], []⟩) (.int ((16 * a + b : Nat) : Int)) :=
  .of_wp fun M A E s Q h => by
    obtain ⟨hp, g, d, tk, os⟩ := s
    have f1 := F.conv_sub_int
    have f2 := F.madeHere_int
    have f3 := KIN.str_int
    have f4 := KIN.str_idx
    have f5 := KIN.str_trunc
    have f6 : typeOf (.str (S [hexd a, hexd b]) u) = pure (.type "str") := rfl
    have h1 := hexd_ascii ha
    have h2 := hexd_ascii hb
    have ht : (S [hexd a, hexd b]).cps.all (· < 128) = true := by
      show (#[hexd a, hexd b] : Array Nat).all (· < 128) = true
      simp [h1.1, h2.1]
    have hw : ([hexd a, hexd b].takeWhile (· != 0)) = [hexd a, hexd b] := by simp [h1.2, h2.2]
    have hk := KIN.Hid.mk (And.intro (show ([hexd a, hexd b].takeWhile (· != 0)).length ≤ 640 by rw [hw]; show 2 ≤ 640; decide) (And.intro (show (int_private% "readNumeral") 0 16 ([hexd a, hexd b].takeWhile (· != 0)) = (int_private% "Numeral.value") ((16 * a + b : Nat) : Int) by rw [hw]; exact hex_read ha ha8 hb) (show (([hexd a, hexd b].takeWhile (· != 0)).length == [hexd a, hexd b].length) = true by rw [hw]; rfl)))
    repeat (any_goals (first
      | assumption
      | ((with_reducible show wpAny _ _ ((int_private% "intFromText") _ _ _) _ _ _); rw [if_pos ht]; refine wp_text16 (text := [hexd a, hexd b]) hk.out.1 hk.out.2.1 hk.out.2.2 ?_)
      | wp_step))
    all_goals first | exact ⟨_, rfl, h⟩ | skip
section
variable {prog : Program} {w : World} {A : Around} {E : Value → Shared → Prop} {s : Shared} {t u : Tok} {Q : Value → Shared → Prop}
theorem int16_V {x : Str} {a b : Nat} (e : x = S [hexd a, hexd b]) (ha : a < 16) (ha8 : 8 ≤ a) (hb : b < 16) (h : ∀ t k, Q (.int ((16 * a + b : Nat) : Int) t) { s with toks := k }) : wpAny (model prog w) A (call (.type "int") [.str x t, .int 16 u]) Q E s := by
  subst e
  exact callType_new F.called_int F.newNe_int (typeCall_int_2 _ _) (newCall_int_2 _ _) (fun obj => args_init_3 obj _ _) F.entry_int_new (gives_hex ha ha8 hb).meets (show (Made.int _).post _ s from ⟨rfl, h _ _⟩)
end
end Mine
end
section
open PySem PySem.W PyProof.Rows PySem.Spec PySem.Calls
set_option maxRecDepth 100000
namespace Mine

/-- what a call of the def at f gives, from wherever it is called -/
noncomputable def Call (prog : Program) (w : World) (K : Frag) (p : Program) (loose : List Str) (mean : ExcName → Option Value) (mg mb : Str → Option Value) (f : Addr) (room : Nat) (vs : List Value) (news : List (Addr × Obj))
    (Post : Value → List (Addr × Obj) → Prop) : Prop :=
  ∀ (dp un : Nat) (gd : Option (List Code)) (cn : Str) (cs : Scope) (a : Addr) (ccd : Value) (cl : List (Str × Addr)) (outer : List Env) (A₀ : Around) (base h₀ : Heap) (L : Addr) (m : Str → Option Value) (s : Shared) (Q E : Value → Shared → Prop),
    Below A₀ base outer h₀ → Fr h₀ L s.heap m → K.In h₀ → News h₀ L s.heap news → Top p loose mean mg mb h₀ → cs.kind = .function → dp + room < recursionLimit → un + 8 * room < cLine →
    (∀ v tl h' tk', Fr h₀ L h' m → News h₀ L h' (tl ++ news) → (∀ q ∈ news, ∀ r ∈ tl, q.1 < r.1) → Post v tl → Q v { s with heap := h', toks := tk' }) →
    wpAny (model prog w) (ktrTop dp un gd cn cs L a ccd cl outer) (call (.ref f) vs) Q E s

theorem claim_pre {q : Program} {loose : List Str} {XP : (Str → Option Value) → Heap → Prop} {K : Params → Frag} {as : List Addr} {e : ∀ P, as = (K P).map (·.1)} {r : RowW} {d : DefRec} {kwd : List (Str × PySem.Expr)} {run : Value → List Value → Sem Value} {f : Addr} (name : Str)
    (C : Program → World → Frag → Program → List Str → (ExcName → Option Value) → (Str → Option Value) → (Str → Option Value) → Addr → Prop)
    (_hf : ∀ P, nsIn (K P) mainGlobals name = some (some (.ref f)))
    (hC : ∀ w p loose mean mg mb, C r.prog w (K w.params) p loose mean mg mb f)
    (k : (∀ w p loose mean mg mb, C r.prog w (K w.params) p loose mean mg mb f) → WalkO q loose XP (kHook K as e).says r d kwd run) : WalkO q loose XP (kHook K as e).says r d kwd run := k hC

/-- one of replace's turns -/
noncomputable def repS (x p r : Str) : Str := Txt.join r (Txt.split x p)

noncomputable def ReplaceC (prog : Program) (w : World) (K : Frag) (p : Program) (loose : List Str) (mean : ExcName → Option Value) (mg mb : Str → Option Value) (f : Addr) : Prop :=
  ∀ (news : List (Addr × Obj)) (x p0 p1 p2 p3 p4 p5 : Str) (tx t0 t1 t2 t3 t4 t5 : Tok), x.length ≤ 200 → (p0.length == 0) = false → (p2.length == 0) = false → (p4.length == 0) = false → p1.length ≤ 10 → p3.length ≤ 10 → p5.length ≤ 10 →
    (repS x p0 p1).length ≤ 200 → (repS (repS x p0 p1) p2 p3).length ≤ 200 →
    Call prog w K p loose mean mg mb f 1 [.str x tx, .str p0 t0, .str p1 t1, .str p2 t2, .str p3 t3, .str p4 t4, .str p5 t5] news (fun v tl => tl = [] ∧ ∃ t, v = .str (repS (repS (repS x p0 p1) p2 p3) p4 p5) t)

theorem joinOk_split {x y r : Str} (hx : x.length ≤ 200) (hr : r.length ≤ 10) (hy : (y.length == 0) = false) : JoinOk r (Txt.split x y) = true := by
  have h1 : 1 ≤ y.length := by
    have : ¬ y.length = 0 := by simpa using hy
    omega
  have hw := split_weight x y h1
  have h3 : (Txt.split x y).length * r.length ≤ (Txt.split x y).length * 10 := Nat.mul_le_mul_left _ hr
  exact joinOk_of (by omega)

noncomputable abbrev tupOf (l : List Value) : Obj := { cls := .type "tuple", data := .seq l.toArray }
section
variable {prog : Program} {w : World} {A : Around} {E : Value → Shared → Prop} {s : Shared} {h₀ : Heap} {L : Addr} {m : Str → Option Value} {news : List (Addr × Obj)}
theorem tup_from {value slice : PySem.Expr} {t : Addr} {its zs : List Value} {a : Nat} {u : Tok} {Q : Value → Shared → Prop}
    (F : Fr h₀ L s.heap m) (N : News h₀ L s.heap news) (ht : (t, tupOf its) ∈ news) (h1 : 1 ≤ a) (ha : a ≤ its.length) (e : its.drop a = zs) (hsz : its.length ≤ 100)
    (h : ∀ D h', Fr h₀ L h' m → News h₀ L h' ((D, tupOf zs) :: news) → (∀ p ∈ news, p.1 < D) → Q (.ref D) { s with heap := h' })
    (hs : subscripted slice false (.ref t) (.ref s.heap.objs.size) = operate [.ref s.heap.objs.size, .ref t] (getItem (.ref t) (.ref s.heap.objs.size)))
    (hg : ∀ r, letTemporaryGo value (.ref t) r = pure ()) :
    wpAny (model prog w) A (subscriptTail value slice (.ref t) (.ref s.heap.objs.size)) Q E { s with heap := s.heap.push { cls := .type "slice", data := .fields #[.int a u, .none, .none] } } := by
  refine slice_tuple_from F N ⟨_, (N _ ht).1, rfl, 0, rfl⟩ h1 (by simpa using ha) (fun h' F' N' => h _ h' F' ?_ fun p hp => Nat.lt_succ_of_lt (Heap.lt_size (N p hp).1)) hs hg (by rw [List.size_toArray, sizeLine_eq]; omega)
  subst e
  exact N'
end

/-- what stood stands -/
noncomputable def Keep (h h' : Heap) : Prop := ∀ b o, h.get? b = some o → h'.get? b = some o
/-- what a call gives that makes nothing that lasts and turns nothing -/
noncomputable def Call0 (prog : Program) (w : World) (K : Frag) (p : Program) (loose : List Str) (mean : ExcName → Option Value) (mg mb : Str → Option Value) (f : Addr) (room : Nat) (vs : List Value) (Pre : Heap → Prop) (Post : Value → Prop) : Prop :=
  ∀ (dp un : Nat) (gd : Option (List Code)) (cn : Str) (cs : Scope) (a : Addr) (ccd : Value) (cl : List (Str × Addr)) (outer : List Env) (A₀ : Around) (base h₀ : Heap) (L : Addr) (m : Str → Option Value) (s : Shared) (Q E : Value → Shared → Prop),
    Below A₀ base outer h₀ → Fr h₀ L s.heap m → K.In h₀ → Top p loose mean mg mb h₀ → cs.kind = .function → dp + room < recursionLimit → un + 8 * room < cLine → Pre s.heap →
    (∀ v h' tk', Keep s.heap h' → Post v → Q v { s with heap := h', toks := tk' }) →
    wpAny (model prog w) (ktrTop dp un gd cn cs L a ccd cl outer) (call (.ref f) vs) Q E s

theorem call0_use {prog : Program} {w : World} {K : Frag} {p : Program} {loose : List Str} {mean : ExcName → Option Value} {mg mb : Str → Option Value} {f : Addr} {room : Nat} {vs : List Value} {Pre : Heap → Prop} {Post : Value → Prop}
    {dp un : Nat} {gd : Option (List Code)} {cn : Str} {cs : Scope} {a : Addr} {ccd : Value} {cl : List (Str × Addr)} {outer : List Env} {A₀ : Around} {base h₀ : Heap} {L : Addr} {m : Str → Option Value} {news : List (Addr × Obj)} {s : Shared} {Q E : Value → Shared → Prop}
    (C : Call0 prog w K p loose mean mg mb f room vs Pre Post) (B : Below A₀ base outer h₀) (F : Fr h₀ L s.heap m) (X : K.In h₀) (N : News h₀ L s.heap news) (T : Top p loose mean mg mb h₀) (hk : cs.kind = .function) (hd : dp + room < recursionLimit) (hu : un + 8 * room < cLine) (hp : Pre s.heap)
    (ret : ∀ v h' tk', Fr h₀ L h' m → News h₀ L h' news → Post v → Q v { s with heap := h', toks := tk' }) :
    wpAny (model prog w) (ktrTop dp un gd cn cs L a ccd cl outer) (call (.ref f) vs) Q E s := by
  refine C dp un gd cn cs a ccd cl outer A₀ base h₀ L m s Q E B F X T hk hd hu hp fun v h' tk' k P => ret v h' tk' ?_ (fun q hq => ⟨k _ _ (N q hq).1, (N q hq).2⟩) P
  obtain ⟨oL, es, ep, hL, r⟩ := F.ns
  exact ⟨⟨oL, es, ep, k _ _ hL, r⟩, fun b o e => k _ _ (F.keep b o e), F.above⟩

section
variable {prog : Program} {w : World} {A A₀ : Around} {s : Shared} {K : Frag} {L : Addr} {h₀ base : Heap} {m mg mb : Str → Option Value} {p : Program} {loose : List Str} {mean : ExcName → Option Value}
theorem enter0 {env : Env} {outer : List Env} {R : Result → Shared → Prop} {name qual : Str} {params : Arguments} {body : List Stmt} {scope : Scope} {dV kV doc pm cdv ct oc : Value} {an od : Option Addr} {osl : Array (Option Value)} {f : Addr} {args : Args} {binds : List (Str × Value)}
    (B : Below A₀ base outer h₀) (F : Fr h₀ L s.heap m) (X₀ : K.In h₀) (T : Top p loose mean mg mb h₀) (hA : A.frames = some (env :: outer)) (hf : env.frame = some L) (hke : env.scope.kind = .function)
    (ho : K.lookup f = some ⟨oc, od, .func (fnOf name qual params body scope dV kV doc pm an cdv ct), osl⟩) (hcd : codeIn K cdv qual = true) (hroom : A.depth < recursionLimit)
    (hbind : BindsTo s (fnOf name qual params body scope dV kV doc pm an cdv ct) args binds) (hloc : ∀ y ∈ binds, scope.names.lookup y.1 = some .local)
    (h : ∀ g L' h₁, Keep s.heap g → Fr g L' h₁ (fun y => binds.reverse.lookup y) → News g L' h₁ [] → Below A base (env :: outer) g → K.In g → Top p loose mean mg mb g →
      wpAny (model prog w) (A.deeper (envOf qual scope L' f cdv)) (execs body (envOf qual scope L' f cdv))
        (fun fl s' => R (.ok (.ret (match fl with | .ret v => v | _ => .none))) s')
        (fun e s' => wpAny (model prog w) (A.deeper (envOf qual scope L' f cdv)) (leaving (envOf qual scope L' f cdv) e) (fun _ s'' => R (.error e) s'') (fun e' s'' => R (.error e') s'') s')
        { s with heap := h₁, toks := s.toks + binds.length })
    (hco : scope.isCoroutine = false) (hgen : scope.isGenerator = false) (hk : scope.kind = .function)
    (hcell : ∀ x ∈ scope.names, x.2 ≠ .cell) : codeAny (model prog w) A (.call (.ref f) args) R s := by
  have B₁ := pushX B F hf hke
  refine codeAny_call_def (fd := fnX name qual params body scope [] dV kV doc pm an cdv ct) (body := body) (binds := binds) hroom ((X₀.keeps F.keep) _ _ ho) rfl (T.nolimit.keeps F.keep) (codeRec_of (X₀.keeps F.keep) hcd) rfl hbind hcell hloc (fun h₁ hns hk₁ => ?_) hco hgen hk
  exact h s.heap s.heap.objs.size h₁ (fun _ _ e => e) ⟨hns, hk₁, Nat.le_refl _⟩ (fun _ hp => nomatch hp) ⟨hA, B₁.stays, B₁.frames⟩ (X₀.keeps F.keep) (T.keeps F.keep)
end
theorem keep_end {h g h' : Heap} {L : Addr} {m : Str → Option Value} (k : Keep h g) (F : Fr g L h' m) : Keep h h' := fun b o e => F.keep b o (k b o e)

noncomputable def UnquoteC (prog : Program) (w : World) (K : Frag) (p : Program) (loose : List Str) (mean : ExcName → Option Value) (mg mb : Str → Option Value) (f : Addr) : Prop :=
  ∀ (n : Nat) (t : Tok), 161 ≤ n → n ≤ 252 →
    Call0 prog w K p loose mean mg mb f 1 [.str (S (quoteL n)) t] (fun _ => True) (fun v => ∃ t, v = .str (S [n]) t)

noncomputable def QuoteC (prog : Program) (w : World) (K : Frag) (p : Program) (loose : List Str) (mean : ExcName → Option Value) (mg mb : Str → Option Value) (f : Addr) : Prop :=
  ∀ (n : Nat) (t : Tok), 161 ≤ n → n ≤ 252 →
    Call0 prog w K p loose mean mg mb f 1 [.str (S [n]) t] (fun _ => True) (fun v => ∃ t, v = .str (S (quoteL n)) t)

noncomputable def RoadC (prog : Program) (w : World) (K : Frag) (p : Program) (loose : List Str) (mean : ExcName → Option Value) (mg mb : Str → Option Value) (f : Addr) : Prop :=
  ∀ (pl rl sl : Addr) (pvs rvs : List Value) (ps rs : List Int) (cs : List Tk) (free : Nat) (tf : Tok) (T : Int) (tT : Tok) (bare : Bool),
    IntsAre pvs ps → IntsAre rvs rs → rs.length = ps.length → cs.length = ps.length → ps.length ≤ 12 → (∀ j, j < ps.length → 0 ≤ bestB ps rs bare T j ∧ bestB ps rs bare T j < 12) →
    Call0 prog w K p loose mean mg mb f 1 [.ref pl, .ref rl, .ref sl, .str (S [free]) tf, .int T tT, .bool bare] (fun h => h.IsList pl pvs.toArray ∧ h.IsList rl rvs.toArray ∧ h.IsList sl (rv cs).toArray)
      (fun v => ∃ t, v = .str (S (roadB ps rs bare T (cs.map (·.1)) free)) t)

noncomputable def DecodeC (prog : Program) (w : World) (K : Frag) (p : Program) (loose : List Str) (mean : ExcName → Option Value) (mg mb : Str → Option Value) (f : Addr) : Prop :=
  ∀ (l : List Mk) (t : Tok), l ≠ [] → l.length ≤ 12 → OkN l →
    Call0 prog w K p loose mean mg mb f 2 [.str (S (flatN l)) t] (fun _ => True) (fun v => ∃ t, v = .str (S (l.map (·.1))) t)

section
variable {prog : Program} {w : World} {A : Around} {E : Value → Shared → Prop} {s : Shared} {h₀ : Heap} {L : Addr} {m : Str → Option Value} {news : List (Addr × Obj)} {Q : Value → Shared → Prop} {t : Tok}
theorem splitlines_one {l : List Nat} (F : Fr h₀ L s.heap m) (N : News h₀ L s.heap news) (hne : l ≠ []) (hg : ∀ c ∈ l, Good c) (hlen : l.length ≤ 1000)
    (h : ∀ D t' h' k, Fr h₀ L h' m → News h₀ L h' ((D, listOf [Value.str (S l) t'].toArray 0) :: news) → (∀ p ∈ news, p.1 < D) → Q (.ref D) { s with heap := h', toks := k }) :
    wpAny (model prog w) A (call (.builtin "str.splitlines") [.str (S l) t]) Q E s := by
  refine splitlinesN F N (fun l' h' k e F' N' => ?_) (by rw [S_len, sizeLine_eq]; omega) (by rw [cuts_one hne hg, sizeLine_eq]; decide)
  rw [lines_one hne hg] at e
  obtain ⟨t', r, e1, e2⟩ := KSpl.cons_of e
  have e3 := KSpl.nil_of e2
  subst e3
  subst e1
  exact h _ t' h' k F' N' fun p hp => Heap.lt_size (N p hp).1
end

theorem str_eq {a b : List Nat} {t : Tok} (h : a = b) : ∃ t', Value.str (S a) t = Value.str (S b) t' := ⟨t, by rw [h]⟩
/-! decode's loop -/
theorem fr_known {g h : Heap} {L : Addr} {m : Str → Option Value} (ps : List (Str × Value)) (F : Fr g L h m) (hp : ∀ p ∈ ps, m p.1 = some p.2) : Fr g L h (kstB m ps) := by
  have e : kstB m ps = m := funext fun z => kstB_eq hp fun _ => rfl
  rw [e]
  exact F
structure DecM (m : Str → Option Value) (x d : List Nat) (i : Nat) : Prop where
  i : ∃ t, m (Str.ofString "i") = some (.int (i : Int) t)
  decoded : ∃ t, m (Str.ofString "decoded") = some (.str (S d) t)
  line : ∃ t, m (Str.ofString "line") = some (.str (S x) t)
  n : ∃ t, m (Str.ofString "n") = some (.int ((S x).length : Int) t)
  eol : ∃ t, m (Str.ofString "eol") = some (.str (S [10]) t)
  encoded : ∃ t, m (Str.ofString "encoded") = some (.str (S x) t)
theorem dec_loop {W : Shared → Prop} {g : Heap} {L : Addr} {news : List (Addr × Obj)} {s : Shared} {l : List Mk}
    (step : ∀ done q rest, l = done ++ q :: rest →
      (rest ≠ [] → ∀ m h tk, DecM m (flatN l) ((done ++ [q]).map (·.1)) (flatN (done ++ [q])).length → Fr g L h m → News g L h news → W { s with heap := h, toks := tk }) →
      ∀ m h tk, DecM m (flatN l) (done.map (·.1)) (flatN done).length → Fr g L h m → News g L h news → W { s with heap := h, toks := tk })
    (hne : l ≠ []) {m : Str → Option Value} {h : Heap} {tk : Nat} (D : DecM m (flatN l) [] 0) (F : Fr g L h m) (N : News g L h news) : W { s with heap := h, toks := tk } := by
  have all : ∀ rest done, l = done ++ rest → rest ≠ [] → ∀ m h tk, DecM m (flatN l) (done.map (·.1)) (flatN done).length → Fr g L h m → News g L h news → W { s with heap := h, toks := tk } := by
    intro rest
    induction rest with
    | nil => intro _ _ h; exact absurd rfl h
    | cons q rest ih =>
      intro done e _
      exact step done q rest e fun hr => ih (done ++ [q]) (by rw [e, List.append_assoc]; rfl) hr
  exact all l [] rfl hne m h tk D F N
theorem str_nil : S [] = Str.ofString "" := by decide +kernel
theorem str_nl : S [10] = Str.ofString "\n" := by decide +kernel
theorem str_crnl : Str.ofString "\x0d\n" = S [13, 10] := by decide +kernel
theorem ne_eq_yes {n : Nat} (h : 161 ≤ n) : (S [n] != Str.ofString "=") = true := by
  have e : Str.ofString "=" = S [61] := by decide +kernel
  rw [e, bne_iff_ne]
  intro h'
  have := S_inj h'
  simp at this
  omega
theorem ne_eq_no : (S [61] != Str.ofString "=") = false := by decide +kernel
theorem at3_of {l done rest : List Mk} {q : Mk} (e : l = done ++ q :: rest) : At3 (flatN l) (flatN done).length (encN q) := by
  unfold At3
  rw [e, flat_append, flat_cons, List.drop_left, List.take_left]
theorem last_of {l : List Nat} (h : l ≠ []) (hg : ∀ c ∈ l, Good c) : ∃ c, l[l.length - 1]? = some c ∧ Good c := by
  have hp : 0 < l.length := List.length_pos_iff.mpr h
  refine ⟨l[l.length - 1], List.getElem?_eq_getElem (by omega), hg _ (List.getElem_mem _)⟩
theorem notin_crnl {c : Nat} (h : Good c) : PySem.Txt.contains (Str.ofString "\x0d\n") (S [c]) = false := by
  rw [str_crnl]
  refine notin ?_
  intro hm
  unfold Good at h
  simp at hm
  omega
theorem slice_nl {l : List Nat} : PySem.Txt.slice (S (l ++ [10])) none (some (-((S [10]).length : Int))) = S l := slice_front

/-- a table of 256 quoted signs -/
noncomputable def tableOk (l : List Value) : Bool := (List.range 92).all fun i => match l[161 + i]? with
  | some (.str x _) => x == S (quoteL (161 + i))
  | _ => false
theorem tableOk.get {l : List Value} (h : tableOk l = true) {n : Nat} (h1 : 161 ≤ n) (h2 : n ≤ 252) : ∃ t, l[n]? = some (.str (S (quoteL n)) t) := by
  have := List.all_eq_true.mp h (n - 161) (by simp; omega)
  have e : 161 + (n - 161) = n := by omega
  rw [e] at this
  split at this
  · rename_i x t hx
    rw [beq_iff_eq] at this
    subst this
    exact ⟨t, hx⟩
  · cases this
section
variable {prog : Program} {w : World} {A : Around} {E : Value → Shared → Prop} {s : Shared} {h₀ : Heap} {L a : Addr} {m : Str → Option Value} {Q : Value → Shared → Prop} {K : Frag} {value slice : PySem.Expr}
theorem table_V {l : List Value} {dd : Option Addr} {sl : Array (Option Value)} {c n : Nat} {u : Tok} (F : Fr h₀ L s.heap m) (X : K.In h₀) (hl : K.lookup a = some ⟨.type "list", dd, .seq l.toArray c, sl⟩) (hok : tableOk l = true) (h1 : 161 ≤ n) (h2 : n ≤ 252)
    (h : ∀ t, Q (.str (S (quoteL n)) t) s)
    (hs : subscripted slice false (.ref a) (.int (n : Int) u) = operate [.ref a, .int (n : Int) u] (getItem (.ref a) (.int (n : Int) u)) := by with_unfolding_all rfl) :
    wpAny (model prog w) A (subscriptTail value slice (.ref a) (.int (n : Int) u)) Q E s := by
  obtain ⟨t, e⟩ := tableOk.get hok h1 h2
  exact topList_K F X hl (by omega) (by omega) (by rw [Int.toNat_natCast]; exact e) (h t) hs
end

theorem call_post {h₀ h' : Heap} {L : Addr} {m : Str → Option Value} {news : List (Addr × Obj)} {s : Shared} {Q : Value → Shared → Prop} {Post : Value → List (Addr × Obj) → Prop} {v : Value} {tk' : Nat}
    (hret : ∀ v tl h' tk', Fr h₀ L h' m → News h₀ L h' (tl ++ news) → (∀ q ∈ news, ∀ r ∈ tl, q.1 < r.1) → Post v tl → Q v { s with heap := h', toks := tk' }) (F : Fr h₀ L h' m) (N : News h₀ L h' news) (P : Post v []) : Q v { s with heap := h', toks := tk' } :=
  hret v [] h' tk' F N (fun _ _ _ hr => nomatch hr) P
end Mine
end
section
open PySem PySem.W PyProof.Rows PySem.Spec PySem.Calls
set_option maxRecDepth 100000
namespace Mine
section
variable {prog : Program} {w : World} {A : Around} {E : Value → Shared → Prop} {s : Shared} {env : Env} {h₀ : Heap} {body : List Stmt}

noncomputable def roadLed (D : Addr) (own : List (Addr × Obj)) (c : List Tk) : List (Addr × Obj) := (D, listOf (rv c).toArray 0) :: own

noncomputable abbrev OutJ (D : Addr) (x : Str) (stored : List Str) (m₀ : Str → Option Value) (R : Nat → List Nat) := KstS (fun c : List Tk => [(D, listOf (rv c).toArray 0)]) (fun _ => []) (fun _ => True) x stored m₀ (fun pre c => c.map (·.1) = R pre.length)
theorem road_outer {Q : Flow → Shared → Prop} {x : Str} {r D : Addr} {t₀ u₀ v₀ : Tok} {n : Nat} {m₀ : Str → Option Value} {c₀ : List Tk} (stored : List Str) (R : Nat → List Nat)
    (hh : A.handled = none) (hr : IsRange s.heap r 0 (n : Int) 1 t₀ u₀ v₀) (hn : n ≤ 12) (F : Fr h₀ env.locals s.heap m₀) (N : News h₀ env.locals s.heap [(D, listOf (rv c₀).toArray 0)]) (hp : c₀.map (·.1) = R 0)
    (turn : ∀ (c : List Tk) (j : Nat) (pre : List Int) t (u : Str → Option Value) h tk own, j < n → pre.length = j → c.map (·.1) = R j → (∀ p ∈ own, p.1 ≠ D) →
      Fr h₀ env.locals h (fun y => if y = x then some (.int (j : Int) t) else if stored.contains y then u y else m₀ y) → News h₀ env.locals h ((D, listOf (rv c).toArray 0) :: own) →
      wpAny (model prog w) A (execs body env) (InvPostN h₀ env.locals (OutJ D x stored m₀ R (pre ++ [(j : Int)])) own [D] { s with heap := h, toks := tk } Q) E { s with heap := h, toks := tk })
    (done : ∀ (c : List Tk) (u : Str → Option Value) h tk, c.map (·.1) = R n → Fr h₀ env.locals h (fun y => if y = x then u y else if stored.contains y then u y else m₀ y) → News h₀ env.locals h [(D, listOf (rv c).toArray 0)] → Q .next { s with heap := h, toks := tk }) :
    wpAny (model prog w) A (pyIter (.ref r)) (fun it s₂ => LoopAtV prog w A h₀ env x body Q E it s₂) E s := by
  refine kst_range (n := n) (fun c : List Tk => [(D, listOf (rv c).toArray 0)]) (fun _ => []) (fun _ => True) stored (fun pre c => c.map (·.1) = R pre.length) c₀ hh hr (small_one (by omega) (by omega) (by omega) (by omega)) (by rw [rangeSize_nat]; omega) F N trivial (fun _ hp => nomatch hp) hp ?_ ?_
  · intro c pre k t u h tk own hk hlt hoff _ hP F' N'
    have e : k = ((pre.length : Nat) : Int) := by omega
    subst e
    exact turn c pre.length pre t u h tk own hlt rfl hP (fun p hp => hoff p hp D (List.mem_singleton.mpr rfl)) F' N'
  · intro c u h tk _ hP F' N'
    rw [rangeKs_length] at hP
    exact done c u h tk hP F' N'
theorem outer_end {x : Str} {D L : Addr} {m₀ m' : Str → Option Value} {stored : List Str} {R : Nat → List Nat} {c : List Tk} {j : Nat} {pre : List Int} {own nn : List (Addr × Obj)} {s₁ : Shared} {h' : Heap} {tk : Nat}
    (hpre : pre.length = j) (F : Fr h₀ L h' m') (N : News h₀ L h' nn) (hD : (D, listOf (rv c).toArray 0) ∈ nn) (ho : ∀ p ∈ own, p ∈ nn) (hp : c.map (·.1) = R (j + 1)) (hm : ∀ z, z ≠ x → stored.contains z = false → m' z = m₀ z) :
    InvEndN h₀ L (OutJ D x stored m₀ R (pre ++ [(j : Int)])) own [D] s₁ { s₁ with heap := h', toks := tk } :=
  kst_end c F N (fun p hp => by rw [List.mem_singleton.mp hp]; exact hD) ho rfl trivial (fun _ hp => nomatch hp) (fun z hz _ hs => hm z hz hs) (by rw [List.length_append, hpre]; exact hp)

noncomputable abbrev BL := (Int × Tok) × (Int × Tok)
noncomputable abbrev InJ (led : List (Addr × Obj)) (x : Str) (nb nl : Str) (m₀ : Str → Option Value) (P : Nat → Int → Int → Prop) := KstS (fun _ : BL => led) (fun c => [(nb, .int c.1.1 c.1.2), (nl, .int c.2.1 c.2.2)]) (fun _ => True) x [] m₀ (fun pre c => P pre.length c.1.1 c.2.1)
theorem road_inner {Q : Flow → Shared → Prop} {x nb nl : Str} {r : Addr} {b₀ : Int} {t₀ u₀ v₀ : Tok} {n : Nat} {m₀ : Str → Option Value} {led : List (Addr × Obj)} {b l : Int} {tb tl : Tok} (P : Nat → Int → Int → Prop)
    (hh : A.handled = none) (hr : IsRange s.heap r 0 b₀ 1 t₀ u₀ v₀) (hb : b₀ = (n : Int)) (hn : n ≤ 12) (F : Fr h₀ env.locals s.heap m₀) (N : News h₀ env.locals s.heap led) (e1 : m₀ nb = some (.int b tb)) (e2 : m₀ nl = some (.int l tl)) (hp : P 0 b l)
    (turn : ∀ (k : Nat) (pre : List Int) (b l : Int) (tb tl : Tok) t h tk own, k < n → pre.length = k → P k b l → (∀ p ∈ own, ∀ q ∈ led, p.1 ≠ q.1) →
      Fr h₀ env.locals h (fun y => if y = x then some (.int (k : Int) t) else if y = nb then some (.int b tb) else if y = nl then some (.int l tl) else m₀ y) → News h₀ env.locals h (led ++ own) →
      wpAny (model prog w) A (execs body env) (InvPostN h₀ env.locals (InJ led x nb nl m₀ P (pre ++ [(k : Int)])) own (led.map (·.1)) { s with heap := h, toks := tk } Q) E { s with heap := h, toks := tk })
    (done : ∀ (b l : Int) (tb tl : Tok) (u : Str → Option Value) h tk, P n b l →
      Fr h₀ env.locals h (fun y => if y = x then u y else if y = nb then some (.int b tb) else if y = nl then some (.int l tl) else m₀ y) → News h₀ env.locals h led → Q .next { s with heap := h, toks := tk }) :
    wpAny (model prog w) A (pyIter (.ref r)) (fun it s₂ => LoopAtV prog w A h₀ env x body Q E it s₂) E s := by
  subst hb
  refine kst_range (n := n) (fun _ : BL => led) (fun c => [(nb, .int c.1.1 c.1.2), (nl, .int c.2.1 c.2.2)]) (fun _ => True) [] (fun pre c => P pre.length c.1.1 c.2.1) ((b, tb), (l, tl)) hh hr (small_one (by omega) (by omega) (by omega) (by omega)) (by rw [rangeSize_nat]; omega) F N trivial ?_ hp ?_ ?_
  · intro p hp
    rcases List.mem_cons.mp hp with rfl | hp
    · exact e1
    · rw [List.mem_singleton.mp hp]; exact e2
  · intro c pre k t u h tk own hk hlt hoff _ hP F' N'
    have e : k = ((pre.length : Nat) : Int) := by omega
    subst e
    exact turn pre.length pre _ _ _ _ t h tk own hlt rfl hP (fun p hp q hq => hoff p hp q.1 (List.mem_map_of_mem hq)) F' N'
  · intro c u h tk _ hP F' N'
    rw [rangeKs_length] at hP
    exact done _ _ _ _ u h tk hP F' N'
theorem inner_end {x nb nl : Str} {L : Addr} {m₀ m' : Str → Option Value} {P : Nat → Int → Int → Prop} {k : Nat} {pre : List Int} {led own nn : List (Addr × Obj)} {s₁ : Shared} {h' : Heap} {tk : Nat} {b l : Int} {tb tl : Tok}
    (hpre : pre.length = k) (F : Fr h₀ L h' m') (N : News h₀ L h' nn) (hD : ∀ p ∈ led, p ∈ nn) (ho : ∀ p ∈ own, p ∈ nn) (e1 : m' nb = some (.int b tb)) (e2 : m' nl = some (.int l tl)) (hp : P (k + 1) b l)
    (hm : ∀ z, z ≠ x → z ≠ nb → z ≠ nl → m' z = m₀ z) :
    InvEndN h₀ L (InJ led x nb nl m₀ P (pre ++ [(k : Int)])) own (led.map (·.1)) s₁ { s₁ with heap := h', toks := tk } := by
  refine kst_end ((b, tb), (l, tl)) F N hD ho rfl trivial ?_ (fun z hz hps _ => hm z hz (hps _ (.head _)) (hps _ (.tail _ (.head _)))) (by rw [List.length_append, hpre]; exact hp)
  intro p hp
  rcases List.mem_cons.mp hp with rfl | hp
  · exact e1
  · rw [List.mem_singleton.mp hp]; exact e2
end

section
variable {prog : Program} {w : World} {A : Around} {E : Value → Shared → Prop} {s : Shared} {h₀ : Heap} {L a D : Addr} {m : Str → Option Value} {news own : List (Addr × Obj)} {value slice : PySem.Expr} {t u : Tok}
theorem road_set {Q : Unit → Shared → Prop} {c : List Tk} {k : Int} {cc : Nat} (F : Fr h₀ L s.heap m) (N : News h₀ L s.heap ((D, listOf (rv c).toArray 0) :: own)) (hoff : ∀ p ∈ own, p.1 ≠ D) (h0 : 0 ≤ k) (h1 : k < c.length) (hfit : k < 2 ^ 62)
    (h : ∀ h', Fr h₀ L h' m → News h₀ L h' ((D, listOf (rv (c.set k.toNat (cc, t))).toArray 0) :: own) → Q () { s with heap := h' }) :
    wpAny (model prog w) A (setItem (.ref D) (.int k u) (.str (S [cc]) t)) Q E s := by
  have z := N (D, listOf (rv c).toArray 0) (.head _)
  have hs : (rv c).toArray.size = c.length := by simp [rv]
  have hj : k.toNat < c.length := by omega
  refine ki_setAt z.1 h0 (by omega) (by omega) (h _ (F.change (Heap.SameBut.update ..) z.2.1 z.2.2) (ki_turn (pre := []) _ N (fun _ hp => nomatch hp) hoff ?_ ?_))
  · rw [← rv_set]
    show (rv c).toArray.setIfInBounds k.toNat _ = ((rv c).set k.toNat _).toArray
    apply Array.toList_inj.mp
    simp
  · simp [rv]
theorem sign_V {Q : Value → Shared → Prop} {cs : List Tk} {i : Int} {j : Nat} (hl : s.heap.IsList a (rv cs).toArray) (e : i = (j : Int)) (hj : j < cs.length) (hfit : j < 1000) (h : ∀ t, Q (.str (S [(cs.map (·.1)).getD j 0]) t) s)
    (hs : subscripted slice false (.ref a) (.int i u) = operate [.ref a, .int i u] (getItem (.ref a) (.int i u)) := by with_unfolding_all rfl) :
    wpAny (model prog w) A (subscriptTail value slice (.ref a) (.int i u)) Q E s := by
  refine tail_any hl.typeIs slot_list_getitem.lookup (wpAny_getItem_list (x := .str (S [(cs.map (·.1)).getD j 0]) (cs[j]).2) hl (by omega) (by omega) ?_ (h _)) hs
  subst e
  rw [Int.toNat_natCast]
  simp [rv, hj]
theorem ints_V {Q : Value → Shared → Prop} {vs : List Value} {ns : List Int} {i : Int} {j : Nat} (hl : s.heap.IsList a vs.toArray) (hi : IntsAre vs ns) (e : i = (j : Int)) (hj : j < ns.length) (hfit : j < 1000) (h : ∀ t, Q (.int (ns.getD j 0) t) s)
    (hs : subscripted slice false (.ref a) (.int i u) = operate [.ref a, .int i u] (getItem (.ref a) (.int i u)) := by with_unfolding_all rfl) :
    wpAny (model prog w) A (subscriptTail value slice (.ref a) (.int i u)) Q E s := by
  obtain ⟨t, hx⟩ := hi.get j ns[j] (by simp [hj])
  have hv : ns.getD j 0 = ns[j] := by simp [List.getD, hj]
  refine tail_any hl.typeIs slot_list_getitem.lookup (wpAny_getItem_list (x := .int (ns.getD j 0) t) hl (by omega) (by omega) ?_ (h _)) hs
  subst e
  rw [Int.toNat_natCast, hv]
  simpa using hx
theorem sign_B {Q : Value → Shared → Prop} {cs : List Tk} {i : Int} {j : Nat} (F : Fr h₀ L s.heap m) (hl : h₀.IsList a (rv cs).toArray) (e : i = (j : Int)) (hj : j < cs.length) (hfit : j < 1000) (h : ∀ t, Q (.str (S [(cs.map (·.1)).getD j 0]) t) s)
    (hs : subscripted slice false (.ref a) (.int i u) = operate [.ref a, .int i u] (getItem (.ref a) (.int i u))) :
    wpAny (model prog w) A (subscriptTail value slice (.ref a) (.int i u)) Q E s := sign_V (hl.at fun o e => F.keep _ o e) e hj hfit h hs
theorem ints_B {Q : Value → Shared → Prop} {vs : List Value} {ns : List Int} {i : Int} {j : Nat} (F : Fr h₀ L s.heap m) (hl : h₀.IsList a vs.toArray) (hi : IntsAre vs ns) (e : i = (j : Int)) (hj : j < ns.length) (hfit : j < 1000) (h : ∀ t, Q (.int (ns.getD j 0) t) s)
    (hs : subscripted slice false (.ref a) (.int i u) = operate [.ref a, .int i u] (getItem (.ref a) (.int i u))) :
    wpAny (model prog w) A (subscriptTail value slice (.ref a) (.int i u)) Q E s := ints_V (hl.at fun o e => F.keep _ o e) hi e hj hfit h hs
theorem min_V {Q : Value → Shared → Prop} {a b : Int} (hh : A.handled = none) (F : Fr h₀ L s.heap m) (N : News h₀ L s.heap news) (h : ∀ t h' tk, Fr h₀ L h' m → News h₀ L h' news → Q (.int (min a b) t) { s with heap := h', toks := tk }) :
    wpAny (model prog w) A (call (.builtin "min") [.int a t, .int b u]) Q E s := by
  refine min_two_N hh F N fun h' tk F' N' => ?_
  have e : (if b < a then b else a) = min a b := by split <;> omega
  rw [e]
  exact h _ h' tk F' N'
end
section
variable {prog : Program} {w : World} {A : Around} {E : Value → Shared → Prop} {s : Shared} {D : Addr} {t : Tok} {Q : Value → Shared → Prop}
theorem join_V {c : List Tk} {l : List Nat} (hl : s.heap.IsList D (rv c).toArray) (e : c.map (·.1) = l) (hsz : c.length ≤ 1000) (h : ∀ t k, Q (.str (S l) t) { s with toks := k }) :
    wpAny (model prog w) A (call (.builtin "str.join") [.str (Str.ofString "") t, .ref D]) Q E s := by
  have et : (c.map fun p => (S [p.1], p.2)).map (·.1) = l.map fun n => S [n] := by
    rw [← e, List.map_map, List.map_map]
    rfl
  have e0 : (Str.ofString "").length = 0 := by decide +kernel
  have hlen : l.length = c.length := by rw [← e, List.length_map]
  have h1 : (l.map fun n => S [n]).map (·.length) = List.replicate l.length 1 := by
    rw [List.map_map]
    have : ((fun x : Str => x.length) ∘ fun n => S [n]) = fun _ => 1 := by funext n; rfl
    rw [this, List.map_const']
  refine SC.join (l := c.map fun p => (S [p.1], p.2)) (by rw [← rv_strs]; exact hl) et (joinOk_of (by rw [h1, e0, List.sum_replicate_nat, Nat.mul_zero]; omega)) (fun t' k => ?_)
  rw [join_signs]
  exact h t' k
end
theorem off_both {D : Addr} {o : Obj} {own own2 : List (Addr × Obj)} (h1 : ∀ p ∈ own, p.1 ≠ D) (h2 : ∀ p ∈ own2, ∀ q ∈ (D, o) :: own, p.1 ≠ q.1) : ∀ p ∈ own ++ own2, p.1 ≠ D := fun p hp => by
  rcases List.mem_append.mp hp with hp | hp
  · exact h1 p hp
  · exact h2 p hp (D, o) (.head _)
theorem laid_next {ps rs : List Int} {bare : Bool} {T b : Int} {cs : List Nat} {free j : Nat} {c : List Tk} {t : Tok} (hc : c.map (·.1) = laidB ps rs bare T cs free j) (hb : b = bestB ps rs bare T j) :
    (c.set b.toNat (cs.getD j 0, t)).map (·.1) = laidB ps rs bare T cs free (j + 1) := by
  rw [List.map_set, hc, hb]
  rfl
theorem laid_size {ps rs : List Int} {bare : Bool} {T : Int} {cs : List Nat} {free j : Nat} {c : List Tk} (hc : c.map (·.1) = laidB ps rs bare T cs free j) : c.length = 12 := by
  have := congrArg List.length hc
  rw [laidB_len, List.length_map] at this
  exact this
theorem news_head {h₀ h : Heap} {L : Addr} {x : Addr × Obj} {r : List (Addr × Obj)} (N : News h₀ L h (x :: r)) : News h₀ L h [x] := fun p hp => N p (by rw [List.mem_singleton.mp hp]; exact .head _)
end Mine
end
section
open PySem PySem.W PyProof.Rows PySem.Spec PySem.Calls
set_option maxRecDepth 100000
namespace Mine
/-- what a call gives that makes one object that lasts and turns nothing -/
noncomputable def Call1 (prog : Program) (w : World) (K : Frag) (p : Program) (loose : List Str) (mean : ExcName → Option Value) (mg mb : Str → Option Value) (f : Addr) (room : Nat) (vs : List Value) (Pre : Heap → Prop) (Post : Obj → Prop) : Prop :=
  ∀ (dp un : Nat) (gd : Option (List Code)) (cn : Str) (cs : Scope) (a : Addr) (ccd : Value) (cl : List (Str × Addr)) (outer : List Env) (A₀ : Around) (base h₀ : Heap) (L : Addr) (m : Str → Option Value) (s : Shared) (Q E : Value → Shared → Prop),
    Below A₀ base outer h₀ → Fr h₀ L s.heap m → K.In h₀ → Top p loose mean mg mb h₀ → cs.kind = .function → dp + room < recursionLimit → un + 8 * room < cLine → Pre s.heap →
    (∀ D o h' tk', Keep s.heap h' → h'.get? D = some o → s.heap.get? D = none → Post o → Q (.ref D) { s with heap := h', toks := tk' }) →
    wpAny (model prog w) (ktrTop dp un gd cn cs L a ccd cl outer) (call (.ref f) vs) Q E s

theorem call1_use {prog : Program} {w : World} {K : Frag} {p : Program} {loose : List Str} {mean : ExcName → Option Value} {mg mb : Str → Option Value} {f : Addr} {room : Nat} {vs : List Value} {Pre : Heap → Prop} {Post : Obj → Prop}
    {dp un : Nat} {gd : Option (List Code)} {cn : Str} {cs : Scope} {a : Addr} {ccd : Value} {cl : List (Str × Addr)} {outer : List Env} {A₀ : Around} {base h₀ : Heap} {L : Addr} {m : Str → Option Value} {news : List (Addr × Obj)} {s : Shared} {Q E : Value → Shared → Prop}
    (C : Call1 prog w K p loose mean mg mb f room vs Pre Post) (B : Below A₀ base outer h₀) (F : Fr h₀ L s.heap m) (X : K.In h₀) (N : News h₀ L s.heap news) (T : Top p loose mean mg mb h₀) (hk : cs.kind = .function) (hd : dp + room < recursionLimit) (hu : un + 8 * room < cLine) (hp : Pre s.heap)
    (ret : ∀ D o h' tk', Fr h₀ L h' m → News h₀ L h' ((D, o) :: news) → (∀ p ∈ news, p.1 ≠ D) → Post o → Q (.ref D) { s with heap := h', toks := tk' }) :
    wpAny (model prog w) (ktrTop dp un gd cn cs L a ccd cl outer) (call (.ref f) vs) Q E s := by
  refine C dp un gd cn cs a ccd cl outer A₀ base h₀ L m s Q E B F X T hk hd hu hp fun D o h' tk' k e n P => ?_
  obtain ⟨oL, es, ep, hL, r⟩ := F.ns
  refine ret D o h' tk' ⟨⟨oL, es, ep, k _ _ hL, r⟩, fun b o e => k _ _ (F.keep b o e), F.above⟩ (fun q hq => ?_) (fun q hq e' => ?_) P
  · rcases List.mem_cons.mp hq with rfl | hq
    · refine ⟨e, fun e' => ?_, ?_⟩
      · have e' : D = L := e'
        rw [e', hL] at n; cases n
      · cases q : h₀.get? D with
        | none => rfl
        | some o' => rw [F.keep _ _ q] at n; cases n
    · exact ⟨k _ _ (N q hq).1, (N q hq).2⟩
  · have := (N q hq).1
    rw [e', n] at this
    cases this

section
variable {prog : Program} {w : World} {A A₀ : Around} {s : Shared} {K : Frag} {L : Addr} {h₀ base : Heap} {m mg mb : Str → Option Value} {p : Program} {loose : List Str} {mean : ExcName → Option Value}
theorem enter0C {env : Env} {outer : List Env} {R : Result → Shared → Prop} {name qual : Str} {params : Arguments} {body : List Stmt} {scope : Scope} {dV kV doc pm cdv ct oc : Value} {an od : Option Addr} {osl : Array (Option Value)} {f : Addr} {args : Args} {binds : List (Str × Value)}
    (B : Below A₀ base outer h₀) (F : Fr h₀ L s.heap m) (X₀ : K.In h₀) (T : Top p loose mean mg mb h₀) (hA : A.frames = some (env :: outer)) (hf : env.frame = some L) (hke : env.scope.kind = .function)
    (ho : K.lookup f = some ⟨oc, od, .func (fnOf name qual params body scope dV kV doc pm an cdv ct), osl⟩) (hcd : codeIn K cdv qual = true) (hroom : A.depth < recursionLimit)
    (hbind : BindsTo s (fnOf name qual params body scope dV kV doc pm an cdv ct) args binds) (hkind : (binds.all fun y => scope.names.lookup y.1 == some .local || scope.names.lookup y.1 == some .cell) = true)
    (hnd : ((cellsFrom 0 scope.names []).map (·.1)).Nodup)
    (h : ∀ g L' h₁ tk cells, Keep s.heap g → Fr g L' h₁ (bindL (envOfC qual scope L' f cdv).kindOf binds fun _ => none) → News g L' h₁ (cells ++ []) →
      CellsAre (bindC (envOfC qual scope L' f cdv).kindOf binds fun _ => none) (cellsFrom (L' + 1) scope.names []) cells → Below A base (env :: outer) g → K.In g → Top p loose mean mg mb g →
      wpAny (model prog w) (A.deeper (envOfC qual scope L' f cdv)) (execs body (envOfC qual scope L' f cdv))
        (fun fl s' => R (.ok (.ret (match fl with | .ret v => v | _ => .none))) s')
        (fun e s' => wpAny (model prog w) (A.deeper (envOfC qual scope L' f cdv)) (leaving (envOfC qual scope L' f cdv) e) (fun _ s'' => R (.error e) s'') (fun e' s'' => R (.error e') s'') s')
        { s with heap := h₁, toks := tk })
    (hco : scope.isCoroutine = false) (hgen : scope.isGenerator = false) (hk : scope.kind = .function) : codeAny (model prog w) A (.call (.ref f) args) R s := by
  have B₁ := pushX B F hf hke
  refine codeAny_call_function ((hroom)) ((X₀.keeps F.keep) _ _ ho) rfl hco hgen rfl (codeRec_of (X₀.keeps F.keep) hcd) (hbind _ _ _ _ ?_)
  refine wpAny_newFunctionEnv_cells hk (kindsX hkind _) fun env' he s' x => ?_
  subst he
  refine ⟨(T.nolimit.keeps F.keep).keeps x.toInCall.keep, codeAny_func ?_⟩
  obtain ⟨h₁, tk, rfl, _⟩ := x.done
  have hk₁ := x.toInCall.keep
  obtain ⟨cells, NC, Y⟩ := Cl.news (h₀ := s.heap) (Nat.le_refl _) fun n c hm => ⟨x.cell n c (lookup_of_mem_nodup (cellsFrom_names scope.names 0 (s.heap.objs.size + 1) [] [] rfl ▸ hnd) hm), x.above n c hm⟩
  exact h s.heap s.heap.objs.size h₁ tk cells (fun _ _ e => e) ⟨x.toInCall.ns, hk₁, Nat.le_refl _⟩ (by rw [List.append_nil]; exact NC) Y ⟨hA, B₁.stays, B₁.frames⟩ (X₀.keeps F.keep) (T.keeps F.keep)
end

/-- an order of the three kinds -/
noncomputable def OrdOk (a b c : Nat) : Prop := (a = 1 ∧ b = 2 ∧ c = 3) ∨ (a = 1 ∧ b = 3 ∧ c = 2) ∨ (a = 2 ∧ b = 1 ∧ c = 3) ∨ (a = 2 ∧ b = 3 ∧ c = 1) ∨ (a = 3 ∧ b = 1 ∧ c = 2) ∨ (a = 3 ∧ b = 2 ∧ c = 1)
noncomputable def OrderC (prog : Program) (w : World) (K : Frag) (p : Program) (loose : List Str) (mean : ExcName → Option Value) (mg mb : Str → Option Value) (f : Addr) : Prop :=
  ∀ (n : Int) (t : Tok), 0 ≤ n → n < 6 →
    Call1 prog w K p loose mean mg mb f 1 [.int n t] (fun _ => True) (fun o => ∃ (a b c : Nat) (ta tb tc : Tok), OrdOk a b c ∧ o = listOf [Value.int a ta, Value.int b tb, Value.int c tc].toArray 0)
noncomputable def NumbersC (prog : Program) (w : World) (K : Frag) (p : Program) (loose : List Str) (mean : ExcName → Option Value) (mg mb : Str → Option Value) (f : Addr) : Prop :=
  ∀ (l : Addr) (vs : List Value) (ns : List Int), IntsAre vs ns → ns.length ≤ 63 →
    Call1 prog w K p loose mean mg mb f 1 [.ref l] (fun h => h.IsList l vs.toArray) (fun o => ∃ ws ms k, IntsAre ws ms ∧ ms.length = 12 ∧ o = listOf ws.toArray k)
noncomputable def AllNe (D : Addr) : List (Addr × Obj) → Prop
  | [] => True
  | p :: r => @Ne Nat p.1 D ∧ AllNe D r
theorem allNe_of {D : Addr} : ∀ {l : List (Addr × Obj)}, (∀ p ∈ l, p.1 ≠ D) → AllNe D l
  | [], _ => trivial
  | p :: _, h => ⟨h p (.head _), allNe_of fun q hq => h q (.tail _ hq)⟩
theorem fmod6 (x : Int) : 0 ≤ x.fmod 6 ∧ x.fmod 6 < 6 := ⟨Int.fmod_nonneg_of_pos x (by decide), Int.fmod_lt_of_pos x (by decide)⟩
theorem mark_lo {a x : Int} (h : 0 ≤ a) : 0 ≤ a + 4 * x.fmod 23 := by
  have := Int.fmod_nonneg_of_pos x (b := 23) (by decide)
  omega
theorem mark_hi {a x : Int} (h : a ≤ 200) : a + 4 * x.fmod 23 ≤ 1000 := by
  have := Int.fmod_lt_of_pos x (b := 23) (by decide)
  omega
theorem chr_i {prog : Program} {w : World} {A : Around} {E : Value → Shared → Prop} {s : Shared} {t : Tok} {Q : Value → Shared → Prop} {i : Int} (h0 : 0 ≤ i) (h1 : i ≤ 1000) (h : ∀ t k, Q (.str (S [i.toNat]) t) { s with toks := k }) : wpAny (model prog w) A (call (.builtin "chr") [.int i t]) Q E s :=
  chr_of_range h0 (by omega) (h _ _)
/-! every twelfth -/
noncomputable def intPick (ns : List Int) (k : Int) : List Int :=
  ((sliceRange (sliceBounds (some k) none (some 12) ns.length).1 (sliceBounds (some k) none (some 12) ns.length).2.1 (sliceBounds (some k) none (some 12) ns.length).2.2).filterMap (ns[·]?))
theorem ints_some : ∀ {vs : List Value} {ns : List Int}, IntsAre vs ns → ∀ i : Nat, (vs[i]? = none ∧ ns[i]? = none) ∨ ∃ n t, vs[i]? = some (.int n t) ∧ ns[i]? = some n
  | _, _, .nil, i => .inl ⟨by simp, by simp⟩
  | _, _, .cons n t _, 0 => .inr ⟨n, t, by simp, by simp⟩
  | _, _, .cons _ _ h, i + 1 => by simpa using ints_some h i
theorem ints_pick {vs : List Value} {ns : List Int} (h : IntsAre vs ns) : ∀ idx : List Nat, IntsAre (idx.filterMap fun i => vs.toArray[i]?) (idx.filterMap fun i => ns[i]?)
  | [] => .nil
  | i :: idx => by
    have ih := ints_pick h idx
    rw [List.filterMap_cons, List.filterMap_cons]
    rcases ints_some h i with ⟨h1, h2⟩ | ⟨n, t, h1, h2⟩
    · have h1' : vs.toArray[i]? = none := by simpa using h1
      rw [h1', h2]
      exact ih
    · have h1' : vs.toArray[i]? = some (.int n t) := by simpa using h1
      rw [h1', h2]
      exact .cons n t ih
section
variable {prog : Program} {w : World} {A : Around} {E : Value → Shared → Prop} {s : Shared} {h₀ : Heap} {L l : Addr} {m : Str → Option Value} {news : List (Addr × Obj)} {value slice : PySem.Expr} {Q : Value → Shared → Prop}
theorem twelfth_V {vs : List Value} {ns : List Int} {k : Int} {t u : Tok} {ops : List Value} (F : Fr h₀ L s.heap m) (N : News h₀ L s.heap news) (hl : s.heap.IsList l vs.toArray) (hi : IntsAre vs ns) (hz : ns.length ≤ 63)
    (h : ∀ D ws h', Fr h₀ L h' m → News h₀ L h' ((D, listOf (List.toArray ws) 0) :: news) → (∀ p ∈ news, p.1 < D) → IntsAre ws (intPick ns k) → (intPick ns k).length ≤ 63 → Q (.ref D) { s with heap := h' })
    (hs : subscripted slice false (.ref l) (.ref s.heap.objs.size) = operate ops (getItem (.ref l) (.ref s.heap.objs.size))) (ht : ∀ r, letTemporaryGo value (.ref l) r = pure ()) :
    wpAny (model prog w) A (subscriptTail value slice (.ref l) (.ref s.heap.objs.size)) Q E { s with heap := s.heap.push { cls := .type "slice", data := .fields #[.int k t, .none, .int 12 u] } } := by
  have hlen := hi.length
  have hsz : vs.toArray.size = ns.length := by rw [List.size_toArray, hlen]
  have hI : IntsAre (slicePick vs.toArray (some k) none (some 12)).toList (intPick ns k) := by
    unfold slicePick intPick
    rw [hsz]
    exact ints_pick hi _
  refine kmk_slice3_lit F N hl (IsPart.int k t) IsPart.none (IsPart.int 12 u) (by decide) rfl (fun D h' F' N' l1 => h D _ h' F' N' l1 hI ?_) hs ht (by rw [hsz, sizeLine_eq]; omega)
  have := slicePick_size_le vs.toArray (some k) none (some 12)
  have h2 := hI.length
  rw [← h2, Array.length_toList]
  omega
end
theorem call1_end {s : Shared} {g h' : Heap} {L D : Addr} {m : Str → Option Value} {o : Obj} {Q : Value → Shared → Prop} {Post : Obj → Prop} {tk' : Nat} {news : List (Addr × Obj)}
    (hret : ∀ D o h' tk', Keep s.heap h' → h'.get? D = some o → s.heap.get? D = none → Post o → Q (.ref D) { s with heap := h', toks := tk' }) (k : Keep s.heap g) (F : Fr g L h' m) (N : News g L h' news) (hm : (D, o) ∈ news) (P : Post o) : Q (.ref D) { s with heap := h', toks := tk' } := by
  refine hret D o h' tk' (keep_end k F) (N _ hm).1 ?_ P
  cases q : s.heap.get? D with
  | none => rfl
  | some o' => have := (N _ hm).2.2; rw [k _ _ q] at this; cases this
end Mine
end
section
open PySem PySem.W PyProof.Rows PySem.Spec PySem.Calls
set_option maxRecDepth 100000
namespace Mine
noncomputable def markN (ms : List Int) (k : Int) : Nat := (161 + k + 4 * ((ms.getD k.toNat 0).fdiv 4).fmod 23).toNat
theorem rv_of {α : Type} {n : α → Nat} : ∀ {ks : List α} {ys : List Value}, CarriedAll ys (ks.map fun k => PyData.str (S [n k])) → ∃ c : List Tk, ys = rv c ∧ c.map (·.1) = ks.map n
  | [], _, h => by cases h; exact ⟨[], rfl, rfl⟩
  | k :: ks, _, h => by
    cases h with
    | cons h1 h2 =>
      obtain ⟨c, rfl, hc⟩ := rv_of h2
      cases h1 with
      | str x t => exact ⟨(n k, t) :: c, rfl, by simp [hc]⟩
theorem markN_ok (ms : List Int) : MarksOk fun k => markN ms (k : Int) := by
  have key : ∀ k : Nat, k < 4 → ∃ q : Int, 0 ≤ q ∧ q < 23 ∧ markN ms (k : Int) = (161 + (k : Int) + 4 * q).toNat := fun k _ =>
    ⟨_, Int.fmod_nonneg_of_pos _ (by decide), Int.fmod_lt_of_pos _ (by decide), rfl⟩
  refine ⟨fun k hk => ?_, fun k hk => ?_, fun i j hi hj e => ?_⟩
  · obtain ⟨q, h0, h1, e⟩ := key k hk
    rw [e]; omega
  · obtain ⟨q, h0, h1, e⟩ := key k hk
    rw [e]; omega
  · obtain ⟨q, h0, h1, e1⟩ := key i hi
    obtain ⟨q', h0', h1', e2⟩ := key j hj
    have e : (161 + (i : Int) + 4 * q).toNat = (161 + (j : Int) + 4 * q').toNat := by rw [← e1, ← e2]; exact e
    omega
theorem marks_of {ms : List Int} {c : List Tk} (h : c.map (·.1) = (rangeKs 0 (4 - 0 : Int).toNat).map (markN ms)) : ∃ M : Nat → Nat, MarksOk M ∧ c.map (·.1) = [M 0, M 1, M 2, M 3] :=
  ⟨fun k => markN ms (k : Int), markN_ok ms, by rw [h]; rfl⟩
section
variable {prog : Program} {w : World} {A : Around} {E : Value → Shared → Prop} {s : Shared} {a : Addr} {value slice : PySem.Expr} {u : Tok}
theorem mark_V {Q : Value → Shared → Prop} {cs : List Tk} {M : Nat → Nat} {i : Int} {j : Nat} (hl : s.heap.IsList a (rv cs).toArray) (hM : cs.map (·.1) = [M 0, M 1, M 2, M 3]) (e : i = (j : Int)) (hj : j < 4) (h : ∀ t, Q (.str (S [M j]) t) s)
    (hs : subscripted slice false (.ref a) (.int i u) = operate [.ref a, .int i u] (getItem (.ref a) (.int i u))) :
    wpAny (model prog w) A (subscriptTail value slice (.ref a) (.int i u)) Q E s := by
  have hlen : cs.length = 4 := by have := congrArg List.length hM; simpa using this
  have he : (cs.map (·.1)).getD j 0 = M j := by
    rw [hM]
    match j, hj with
    | 0, _ => rfl
    | 1, _ => rfl
    | 2, _ => rfl
    | 3, _ => rfl
  refine sign_V hl e (by omega) (by omega) (fun t => ?_) hs
  rw [he]
  exact h t
end
theorem OrdOk.lt {a b c : Nat} (h : OrdOk a b c) : (a < 4 ∧ b < 4 ∧ c < 4) ∧ (0 < a ∧ 0 < b ∧ 0 < c) ∧ a ≠ b ∧ a ≠ c ∧ b ≠ c := by unfold OrdOk at h; omega
end Mine
end
section
open PySem PySem.W PyProof.Rows PySem.Spec PySem.Calls
namespace Mine
/-! the places that _law_road tells are the cars' places -/
noncomputable def psOf (cs : List Car) : List Int := cs.map fun p => (p.1 : Int)
noncomputable def rsOf (rk : Nat → Nat) (cs : List Car) : List Int := cs.map fun p => (rk p.2 : Int)
theorem getD_drop {α β : Type} (f : α → β) (z : β) : ∀ (cs : List α) (i : Nat) (a : α) (r : List α), cs.drop i = a :: r → (cs.map f).getD i z = f a
  | [], i, a, r, h => by simp at h
  | c :: cs, 0, a, r, h => by
    rw [List.drop_zero] at h
    cases h
    rfl
  | c :: cs, i + 1, a, r, h => by
    have := getD_drop f z cs i a r h
    simpa using this
theorem drop_next {α : Type} {cs : List α} {i : Nat} {a : α} {r : List α} (h : cs.drop i = a :: r) : cs.drop (i + 1) = r := by
  rw [← List.drop_drop, h]; rfl
theorem run_eq {cars : List Car} {rk : Nat → Nat} {bare : Bool} {T : Nat} (j : Nat) : ∀ (r : List Car) (x d k L lo : Nat) (b l : Int), cars.drop (j + k) = (x, d) :: r → Valid 12 lo ((x, d) :: r) → b ≤ 11 - (k : Int) - (r.length : Int) →
    (if 0 < k ∧ ¬ (bare = true ∧ (rsOf rk cars).getD (j + k) 0 < (rsOf rk cars).getD (j + k - 1) 0) then l + 1 else l) = (L : Int) →
    runB (psOf cars) (rsOf rk cars) bare (T : Int) j (r.length + 1) k b l = if L ≤ T then min b ((Fp 12 rk bare (T - L) ((x, d) :: r) : Int) - (k : Int)) else b := by
  intro r
  induction r with
  | nil =>
    intro x d k L lo b l hd hv hb hl
    have hp : (psOf cars).getD (j + k) 0 = (x : Int) := getD_drop _ _ _ _ _ _ hd
    show (if (T : Int) < _ then b else runB _ _ _ _ _ 0 (k + 1) _ _) = _
    rw [hl, hp]
    simp only [List.length_nil] at hb
    show (if (T : Int) < (L : Int) then b else min b ((x : Int) - k + T - L)) = if L ≤ T then min b (((min (12 - 1 - 0) (min (x + (T - L)) (12 - 1)) : Nat) : Int) - (k : Int)) else b
    split <;> split <;> omega
  | cons y r ih =>
    obtain ⟨y, e⟩ := y
    intro x d k L lo b l hd hv hb hl
    have hp : (psOf cars).getD (j + k) 0 = (x : Int) := getD_drop _ _ _ _ _ _ hd
    have hr : (rsOf rk cars).getD (j + k) 0 = (rk d : Int) := getD_drop _ _ _ _ _ _ hd
    have hd' := drop_next hd
    have hr' : (rsOf rk cars).getD (j + (k + 1)) 0 = (rk e : Int) := getD_drop _ _ _ _ _ _ hd'
    have hv' := hv.2.2
    have hlow := fun t => Fp_low (N := 12) (rk := rk) (bare := bare) t hv'
    have hcap : ∀ t, Fp 12 rk bare t ((y, e) :: r) + (r.length + 1) ≤ 12 := fun t => Fp_cap 12 rk bare t ((y, e) :: r) (by have := hv'.len; omega)
    simp only [List.length_cons] at hb
    have unf : Fp 12 rk bare (T - L) ((x, d) :: (y, e) :: r) = min (12 - 1 - (r.length + 1)) (min (x + (T - L)) (if lag rk bare d e ≤ T - L then Fp 12 rk bare (T - L - lag rk bare d e) ((y, e) :: r) - 1 else x + (T - L))) := rfl
    show (if (T : Int) < _ then b else runB _ _ _ _ _ (r.length + 1) (k + 1) _ _) = _
    rw [hl, hp, unf]
    by_cases hT : (T : Int) < (L : Int)
    · rw [if_pos hT, if_neg (by omega)]
    · rw [if_neg hT, if_pos (by omega)]
      have hlag : (if 0 < k + 1 ∧ ¬ (bare = true ∧ (rsOf rk cars).getD (j + (k + 1)) 0 < (rsOf rk cars).getD (j + (k + 1) - 1) 0) then (L : Int) + 1 else (L : Int)) = ((L + lag rk bare d e : Nat) : Int) := by
        have e1 : j + (k + 1) - 1 = j + k := by omega
        rw [e1, hr, hr']
        unfold lag
        by_cases hc : bare = true ∧ rk e < rk d
        · rw [if_neg (fun hh => hh.2 ⟨hc.1, by omega⟩), if_pos hc]; simp
        · rw [if_pos ⟨by omega, fun hh => hc ⟨hh.1, by omega⟩⟩, if_neg hc]; simp
      rw [ih y e (k + 1) (L + lag rk bare d e) (x + 1) _ _ hd' hv' (by push_cast; omega) hlag]
      have h1 := hlow (T - (L + lag rk bare d e))
      have h2 := hcap (T - (L + lag rk bare d e))
      have e3 : T - L - lag rk bare d e = T - (L + lag rk bare d e) := by omega
      rw [e3]
      generalize Fp 12 rk bare (T - (L + lag rk bare d e)) ((y, e) :: r) = q at h1 h2 ⊢
      generalize lag rk bare d e = g at *
      split <;> split <;> push_cast <;> omega
theorem best_eq {cars : List Car} {rk : Nat → Nat} {bare : Bool} {T : Nat} {j : Nat} (hj : j < cars.length) {lo : Nat} (hv : Valid 12 lo (cars.drop j)) (hlen : cars.length ≤ 12) :
    bestB (psOf cars) (rsOf rk cars) bare (T : Int) j = (Fp 12 rk bare T (cars.drop j) : Int) := by
  have hpl : (psOf cars).length = cars.length := by simp [psOf]
  cases hd : cars.drop j with
  | nil => have := congrArg List.length hd; simp at this; omega
  | cons p r =>
    obtain ⟨x, d⟩ := p
    have hl := congrArg List.length hd
    rw [List.length_drop, List.length_cons] at hl
    rw [hd] at hv
    unfold bestB
    rw [hpl, hl, run_eq (cars := cars) (rk := rk) j r x d 0 0 lo _ _ hd hv (by omega) (by simp), if_pos (Nat.zero_le _), Nat.sub_zero]
    have hcap := Fp_cap 12 rk bare T ((x, d) :: r) (by simp only [List.length_cons]; omega)
    simp only [List.length_cons] at hcap
    omega
end Mine
end
section
open PySem PySem.W PyProof.Rows PySem.Spec PySem.Calls
namespace Mine
/-! the road that _law_road tells is the cars' road -/
theorem at_drop (N : Nat) (rk : Nat → Nat) (bare : Bool) (t : Nat) : ∀ (cs : List Car) (k : Nat), (at_ N rk bare t cs).drop k = at_ N rk bare t (cs.drop k)
  | [], k => by simp [at_]
  | (x, c) :: r, 0 => rfl
  | (x, c) :: r, k + 1 => by
    show (at_ N rk bare t r).drop k = at_ N rk bare t (r.drop k)
    exact at_drop N rk bare t r k
theorem at_len (N : Nat) (rk : Nat → Nat) (bare : Bool) (t : Nat) : ∀ (cs : List Car), (at_ N rk bare t cs).length = cs.length
  | [] => rfl
  | (x, c) :: r => by
    show (at_ N rk bare t r).length + 1 = r.length + 1
    rw [at_len N rk bare t r]
theorem setAll_append (base : List Nat) : ∀ (a b : List Car), setAll base (a ++ b) = setAll (setAll base a) b
  | [], b => rfl
  | (x, c) :: a, b => setAll_append (base.set x c) a b
theorem Valid.drop {N : Nat} : ∀ {cs : List Car} {lo : Nat} (k : Nat), Valid N lo cs → ∃ lo', Valid N lo' (cs.drop k)
  | cs, lo, 0, h => ⟨lo, h⟩
  | [], lo, k + 1, h => ⟨lo, h⟩
  | (x, c) :: r, lo, k + 1, h => Valid.drop k h.2.2
theorem laid_eq {cars : List Car} {rk : Nat → Nat} {bare : Bool} {T : Nat} (M : Nat → Nat) (hv : Valid 12 0 cars) : ∀ k, k ≤ cars.length →
    laidB (psOf cars) (rsOf rk cars) bare (T : Int) (cars.map fun p => M p.2) (M 0) k = (setAll (List.replicate 12 0) ((at_ 12 rk bare T cars).take k)).map M
  | 0, _ => by simp [laidB, setAll]
  | k + 1, hk => by
    have ih := laid_eq (rk := rk) (bare := bare) (T := T) M hv k (by omega)
    obtain ⟨lo', hv'⟩ := hv.drop k
    have hb := best_eq (rk := rk) (bare := bare) (T := T) (j := k) (by omega) hv' (by have := hv.len; omega)
    rw [laidB, ih, hb, Int.toNat_natCast]
    cases hd : cars.drop k with
    | nil => have := congrArg List.length hd; simp at this; omega
    | cons p r =>
      obtain ⟨x, d⟩ := p
      have hc : (cars.map fun p => M p.2).getD k 0 = M d := getD_drop _ _ _ _ _ _ hd
      have ha : (at_ 12 rk bare T cars).drop k = (Fp 12 rk bare T ((x, d) :: r), d) :: at_ 12 rk bare T r := by rw [at_drop, hd]; rfl
      have ht : (at_ 12 rk bare T cars).take (k + 1) = (at_ 12 rk bare T cars).take k ++ [(Fp 12 rk bare T ((x, d) :: r), d)] := by
        have h1 := List.take_append_drop k (at_ 12 rk bare T cars)
        rw [ha] at h1
        have h2 : ((at_ 12 rk bare T cars).take k).length = k := by rw [List.length_take, at_len]; omega
        conv => lhs; rw [← h1]
        rw [List.take_append, h2, Nat.add_sub_cancel_left, List.take_of_length_le (by omega)]
        rfl
      rw [hc, ht, setAll_append]
      show _ = ((setAll _ _).set _ _).map M
      rw [List.map_set]
theorem road_eq {cars : List Car} {rk : Nat → Nat} {bare : Bool} {T : Nat} (M : Nat → Nat) (hv : Valid 12 0 cars) :
    roadB (psOf cars) (rsOf rk cars) bare (T : Int) (cars.map fun p => M p.2) (M 0) = (render 12 0 (at_ 12 rk bare T cars)).map M := by
  have hl : (psOf cars).length = cars.length := by simp [psOf]
  unfold roadB
  rw [hl, laid_eq M hv _ (Nat.le_refl _), List.take_of_length_le (by rw [at_len]; exact Nat.le_refl _)]
  have := setAll_render 12 (at_ 12 rk bare T cars) 0 [] rfl (at_valid T hv 0 (Nat.zero_le _))
  rw [show List.replicate 12 0 = [] ++ List.replicate (12 - 0) 0 from rfl, this]
  rfl
end Mine
end
section
open PySem PySem.W PyProof.Rows PySem.Spec PySem.Calls
set_option linter.unusedVariables false
namespace Mine
/-! one round, as replace and decode make it -/
theorem kind_one {l : List Nat} (h : ∀ c ∈ l, c < 256) : Builtin.Str.strKind (S l) = 1 := by
  unfold Builtin.Str.strKind
  rw [if_pos]
  simpa [S] using h
theorem kind_ge (s : Str) : 1 ≤ Builtin.Str.strKind s := by
  unfold Builtin.Str.strKind
  split
  · omega
  · split <;> omega
theorem rep1 {a b : Nat} {r L : List Nat} (ha : a < 256) (hb : b < 256) : repS (S L) (S [a, b]) (S r) = S (rep a b r L) := by
  have h := join_split_pair a b r L (by
    rw [kind_one (l := [a, b]) (by
      intro c hc
      rcases List.mem_cons.mp hc with rfl | hc
      · exact ha
      · rw [List.mem_singleton.mp hc]; exact hb)]
    exact kind_ge _)
  unfold repS Txt.join
  rw [StrLaws.glued_eq_join]
  exact h
theorem kinds_at {N : Nat} {rk : Nat → Nat} {bare : Bool} {t : Nat} : ∀ {cs : List Car}, ∀ p ∈ at_ N rk bare t cs, ∃ q ∈ cs, p.2 = q.2
  | [], p, h => nomatch h
  | (x, c) :: r, p, h => by
    rcases List.mem_cons.mp h with rfl | h
    · exact ⟨(x, c), List.mem_cons_self .., rfl⟩
    · obtain ⟨q, hq, e⟩ := kinds_at p h
      exact ⟨q, List.mem_cons_of_mem _ hq, e⟩
theorem render_lt {N : Nat} : ∀ {cs : List Car} {lo : Nat}, (∀ p ∈ cs, p.2 < 4) → ∀ k ∈ render N lo cs, k < 4
  | [], lo, _, k, hk => by
    have := (List.mem_replicate.mp hk).2
    omega
  | (x, c) :: t, lo, h, k, hk => by
    rcases List.mem_append.mp hk with hk | hk
    · have := (List.mem_replicate.mp hk).2
      omega
    · rcases List.mem_cons.mp hk with rfl | hk
      · exact h _ (List.mem_cons_self ..)
      · exact render_lt (fun p hp => h p (List.mem_cons_of_mem _ hp)) k hk
theorem setAll_len : ∀ (cs : List Car) (base : List Nat), (setAll base cs).length = base.length
  | [], _ => rfl
  | (x, c) :: t, base => by
    show (setAll (base.set x c) t).length = _
    rw [setAll_len t, List.length_set]
theorem render_len {cs : List Car} (hv : Valid 12 0 cs) : (render 12 0 cs).length = 12 := by
  have := setAll_render 12 cs 0 [] rfl hv
  have h2 := congrArg List.length this
  rw [setAll_len] at h2
  simpa using h2.symm
/-- the road after T rounds -/
noncomputable def road (rk : Nat → Nat) (bare : Bool) (T : Nat) (cars : List Car) : List Nat := render 12 0 (at_ 12 rk bare T cars)
structure CarsOk (cars : List Car) (a b c : Nat) : Prop where
  valid : Valid 12 0 cars
  kinds : ∀ p ∈ cars, p.2 ∈ [a, b, c]
section
variable {M : Nat → Nat} {cars : List Car} {a b c : Nat} {rk : Nat → Nat} {bare : Bool} {T : Nat}
theorem OrdOk.mem {k : Nat} (hO : (a < 4 ∧ b < 4 ∧ c < 4) ∧ (0 < a ∧ 0 < b ∧ 0 < c) ∧ a ≠ b ∧ a ≠ c ∧ b ≠ c) (h : k ∈ [a, b, c]) : k < 4 ∧ k ≠ 0 := by
  simp only [List.mem_cons, List.not_mem_nil, or_false] at h
  omega
theorem road_lt (hc : CarsOk cars a b c) (hO : (a < 4 ∧ b < 4 ∧ c < 4) ∧ (0 < a ∧ 0 < b ∧ 0 < c) ∧ a ≠ b ∧ a ≠ c ∧ b ≠ c) : ∀ k ∈ road rk bare T cars, k < 4 := by
  refine render_lt fun p hp => ?_
  obtain ⟨q, hq, e⟩ := kinds_at p hp
  rw [e]
  exact (OrdOk.mem hO (hc.kinds q hq)).1
theorem road_valid (hc : CarsOk cars a b c) : Valid 12 0 (at_ 12 rk bare T cars) := at_valid T hc.valid 0 (Nat.zero_le _)
theorem road_len (hc : CarsOk cars a b c) : (road rk bare T cars).length = 12 := render_len (road_valid hc)
theorem bare_all (hM : MarksOk M) (hc : CarsOk cars a b c) (hO : (a < 4 ∧ b < 4 ∧ c < 4) ∧ (0 < a ∧ 0 < b ∧ 0 < c) ∧ a ≠ b ∧ a ≠ c ∧ b ≠ c) (hr : Ranks [a, b, c] rk) :
    (repS (S ((road rk true T cars).map M)) (S [M a, M 0]) (S [M 0, M a])).length ≤ 200 ∧
    (repS (repS (S ((road rk true T cars).map M)) (S [M a, M 0]) (S [M 0, M a])) (S [M b, M 0]) (S [M 0, M b])).length ≤ 200 ∧
    repS (repS (repS (S ((road rk true T cars).map M)) (S [M a, M 0]) (S [M 0, M a])) (S [M b, M 0]) (S [M 0, M b])) (S [M c, M 0]) (S [M 0, M c]) = S ((road rk true (T + 1) cars).map M) := by
  have hk := road_lt (rk := rk) (bare := true) (T := T) hc hO
  have hl := road_len (rk := rk) (bare := true) (T := T) hc
  have hlt : ∀ k, k < 4 → M k < 256 := fun k h => by have := hM.hi k h; omega
  have h0 := hlt 0 (by omega)
  have hf := bare_text hM [a, b, c] (fun o h => OrdOk.mem hO h) _ 0 (road_valid (rk := rk) (bare := true) (T := T) hc) hk
  rw [bare_round (by simp; omega) hr T hc.valid hc.kinds] at hf
  have k1 := rep_bare hM hO.1.1 (by omega) _ hk
  have hk1 := gstep_lt (p := isK a) hk
  have hl1 := gstep_len (p := isK a) (road rk true T cars)
  have k2 := rep_bare hM hO.1.2.1 (by omega) _ hk1
  have hl2 := gstep_len (p := isK b) (gstep (isK a) (road rk true T cars))
  rw [rep1 (hlt a hO.1.1) h0, rep1 (hlt b hO.1.2.1) h0, rep1 (hlt c hO.1.2.2) h0]
  refine ⟨?_, ?_, ?_⟩
  · rw [k1, S_len, List.length_map, hl1, hl]; omega
  · rw [k1, k2, S_len, List.length_map, hl2, hl1, hl]; omega
  · exact congrArg S hf
theorem encs_len (M : Nat → Nat) (P : Nat → Bool) (ks : List Nat) : (encs M (mks P ks)).length ≤ 3 * ks.length := by
  have h1 := (flat_len (l := (mks P ks).map fun q => (M q.1, q.2))).2
  rw [← encs_flat, List.length_map] at h1
  have h2 := congrArg List.length (mks_fst P ks)
  rw [List.length_map, gstep_len] at h2
  omega
theorem quoted_all (hM : MarksOk M) (hc : CarsOk cars a b c) (hO : (a < 4 ∧ b < 4 ∧ c < 4) ∧ (0 < a ∧ 0 < b ∧ 0 < c) ∧ a ≠ b ∧ a ≠ c ∧ b ≠ c) :
    (repS (S ((road rk false T cars).map M)) (S [M a, M 0]) (S (quoteL (M 0) ++ quoteL (M a)))).length ≤ 200 ∧
    (repS (repS (S ((road rk false T cars).map M)) (S [M a, M 0]) (S (quoteL (M 0) ++ quoteL (M a)))) (S [M b, M 0]) (S (quoteL (M 0) ++ quoteL (M b)))).length ≤ 200 ∧
    ∃ l : List Mk, l ≠ [] ∧ l.length ≤ 12 ∧ OkN l ∧
      repS (repS (repS (S ((road rk false T cars).map M)) (S [M a, M 0]) (S (quoteL (M 0) ++ quoteL (M a)))) (S [M b, M 0]) (S (quoteL (M 0) ++ quoteL (M b)))) (S [M c, M 0]) (S (quoteL (M 0) ++ quoteL (M c))) = S (flatN l) ∧
      l.map (·.1) = (road rk false (T + 1) cars).map M := by
  have hk := road_lt (rk := rk) (bare := false) (T := T) hc hO
  have hl := road_len (rk := rk) (bare := false) (T := T) hc
  have hlt : ∀ k, k < 4 → M k < 256 := fun k h => by have := hM.hi k h; omega
  have h0 := hlt 0 (by omega)
  have e0 : (road rk false T cars).map M = encs M (mks (fun _ => false) (road rk false T cars)) := by rw [mks_none, encs_bare]
  have k1 := rep_quoted hM hO.1.1 (by omega) (P := fun _ => false) rfl _ hk
  have k2 := rep_quoted hM hO.1.2.1 (by omega) (P := fun c => false || c == a) (by simp; omega) _ hk
  have k3 := rep_quoted hM hO.1.2.2 (by omega) (P := fun c => (false || c == a) || c == b) (by simp; omega) _ hk
  rw [e0, rep1 (hlt a hO.1.1) h0, rep1 (hlt b hO.1.2.1) h0, rep1 (hlt c hO.1.2.2) h0, k1, k2, k3]
  generalize hP : (fun x : Nat => (false || x == a || x == b) || x == c) = P
  have hPa : ∀ p ∈ cars, P p.2 = true := fun p hp => by
    have := hc.kinds p hp
    rw [← hP]
    simpa [or_assoc] using this
  have hP0 : P 0 = false := by rw [← hP]; simp; omega
  have hfst : (mks P (road rk false T cars)).map (·.1) = road rk false (T + 1) cars := by
    rw [mks_fst]
    unfold road
    rw [gstep_render hP0 _ 0 (road_valid hc), quoted_round T hc.valid hPa]
  have hlen : (mks P (road rk false T cars)).length = 12 := by
    have := congrArg List.length hfst
    rw [List.length_map, road_len hc] at this
    exact this
  refine ⟨?_, ?_, (mks P (road rk false T cars)).map fun q => (M q.1, q.2), ?_, ?_, ?_, ?_, ?_⟩
  · rw [S_len]; have := encs_len M (fun c => false || c == a) (road rk false T cars); omega
  · rw [S_len]; have := encs_len M (fun c => (false || c == a) || c == b) (road rk false T cars); omega
  · intro h
    have := congrArg List.length h
    rw [List.length_map, hlen] at this
    cases this
  · rw [List.length_map, hlen]; omega
  · intro q hq
    obtain ⟨q', hq', rfl⟩ := List.mem_map.mp hq
    have : q'.1 ∈ road rk false (T + 1) cars := by rw [← hfst]; exact List.mem_map_of_mem hq'
    have := road_lt hc hO _ this
    exact ⟨hM.lo _ this, hM.hi _ this⟩
  · rw [encs_flat]
  · rw [← hfst, List.map_map, List.map_map]
    rfl
theorem road_told (M : Nat → Nat) (hc : CarsOk cars a b c) : roadB (psOf cars) (rsOf rk cars) bare (T : Int) (cars.map fun p => M p.2) (M 0) = (road rk bare T cars).map M := road_eq M hc.valid
theorem road_first (hv : Valid 12 0 cars) : road rk bare 0 cars = render 12 0 cars := by
  have key : ∀ {cs : List Car} {lo : Nat}, Valid 12 lo cs → at_ 12 rk bare 0 cs = cs := by
    intro cs
    induction cs with
    | nil => intros; rfl
    | cons p r ih =>
      obtain ⟨x, d⟩ := p
      intro lo h
      show (Fp 12 rk bare 0 ((x, d) :: r), d) :: at_ 12 rk bare 0 r = _
      rw [Fp_zero h, ih h.2.2]
      rfl
  unfold road
  rw [key hv]
end
end Mine
end
section
open PySem PySem.W PyProof.Rows PySem.Spec PySem.Calls
set_option linter.unusedVariables false
namespace Mine
noncomputable def rkOf (a b : Nat) (k : Nat) : Nat := if k = a then 0 else if k = b then 1 else 2
theorem ranks_ok {a b c : Nat} (h : OrdOk a b c) : Ranks [a, b, c] (rkOf a b) := by
  unfold Ranks
  rcases h with ⟨rfl, rfl, rfl⟩ | ⟨rfl, rfl, rfl⟩ | ⟨rfl, rfl, rfl⟩ | ⟨rfl, rfl, rfl⟩ | ⟨rfl, rfl, rfl⟩ | ⟨rfl, rfl, rfl⟩ <;> decide
/-- the kinds on the road, 0 for free -/
noncomputable def ksOf (ms : List Int) : List Nat := ms.map fun n => (n.fmod 6 - 2).toNat
theorem ksOf_lt {ms : List Int} : ∀ k ∈ ksOf ms, k < 4 := by
  intro k hk
  obtain ⟨n, _, rfl⟩ := List.mem_map.mp hk
  have := fmod6 n
  omega
theorem kinds_nat (ms : List Int) : (ms.map fun k' => if k'.fmod 6 - 2 > 0 then k'.fmod 6 - 2 else 0) = (ksOf ms).map (fun k : Nat => (k : Int)) := by
  unfold ksOf
  rw [List.map_map]
  apply List.map_congr_left
  intro n _
  show (if n.fmod 6 - 2 > 0 then n.fmod 6 - 2 else 0) = (((n.fmod 6 - 2).toNat : Nat) : Int)
  split <;> omega
theorem cars_ok {ms : List Int} {a b c : Nat} (hO : OrdOk a b c) (hl : ms.length = 12) : CarsOk (carsOf 0 (ksOf ms)) a b c := by
  have hlen : (ksOf ms).length = 12 := by simp [ksOf, hl]
  refine ⟨?_, ?_⟩
  · have := carsOf_valid (ksOf ms) 0
    rw [hlen] at this
    exact this
  · have key : ∀ (ks : List Nat) (lo : Nat), (∀ k ∈ ks, k < 4) → ∀ p ∈ carsOf lo ks, p.2 ∈ [a, b, c] := by
      intro ks
      induction ks with
      | nil => intro _ _ p hp; cases hp
      | cons k ks ih =>
        intro lo hk p hp
        rw [carsOf] at hp
        split at hp
        · exact ih _ (fun k h => hk k (List.mem_cons_of_mem _ h)) p hp
        · rcases List.mem_cons.mp hp with rfl | hp
          · have := hk k (List.mem_cons_self ..)
            have : k ≠ 0 := by assumption
            simp only [List.mem_cons, List.not_mem_nil, or_false]
            unfold OrdOk at hO
            show k = a ∨ k = b ∨ k = c
            omega
          · exact ih _ (fun k h => hk k (List.mem_cons_of_mem _ h)) p hp
    exact key _ 0 ksOf_lt
theorem road_start {ms : List Int} {rk : Nat → Nat} {bare : Bool} (hl : ms.length = 12) : road rk bare 0 (carsOf 0 (ksOf ms)) = ksOf ms := by
  have hlen : (ksOf ms).length = 12 := by simp [ksOf, hl]
  have hv := carsOf_valid (ksOf ms) 0
  have hr := carsOf_render (ksOf ms) 0
  rw [hlen] at hv hr
  rw [road_first hv]
  exact hr
end Mine
end
section
open PySem PySem.W PyProof.Rows PySem.Spec PySem.Calls
set_option maxRecDepth 100000
set_option linter.unusedVariables false
namespace Mine
section
variable {prog : Program} {w : World} {A : Around} {E : Value → Shared → Prop} {s : Shared} {l : Addr}
theorem index_V {a b c k : Nat} {ta tb tc t : Tok} {i : Int} {Q : Value → Shared → Prop} (hl : s.heap.IsList l [Value.int a ta, Value.int b tb, Value.int c tc].toArray) (hO : OrdOk a b c) (e : i = (k : Int)) (hk0 : 0 < k) (hk : k < 4)
    (h : Q (.int (rkOf a b k : Nat) s.toks) { s with toks := s.toks + 1 }) :
    wpAny (model prog w) A (call (.builtin "list.index") [.ref l, .int i t]) Q E s := by
  subst e
  have hk' : k = 1 ∨ k = 2 ∨ k = 3 := by omega
  rcases hO with ⟨rfl, rfl, rfl⟩ | ⟨rfl, rfl, rfl⟩ | ⟨rfl, rfl, rfl⟩ | ⟨rfl, rfl, rfl⟩ | ⟨rfl, rfl, rfl⟩ | ⟨rfl, rfl, rfl⟩ <;> rcases hk' with rfl | rfl | rfl <;>
    exact index_list_ints hl (.cons _ _ (.cons _ _ (.cons _ _ .nil))) (by decide +kernel) (by decide) h
end
end Mine
end
section
open PySem PySem.W PyProof.Rows PySem.Spec PySem.Calls
set_option maxRecDepth 100000
set_option linter.unusedVariables false
namespace Mine
theorem fold_cars (f : Nat → Nat) : ∀ (ks : List Nat) (lo : Nat) (acc : List Int), (∀ j, j < ks.length → f (lo + j) = ks.getD j 0) →
    (List.range' lo ks.length).foldl (fun l i => if 0 < f i then l ++ [(i : Int)] else l) acc = acc ++ psOf (carsOf lo ks)
  | [], lo, acc, _ => by simp [psOf, carsOf]
  | k :: ks, lo, acc, h => by
    have h0 := h 0 (by simp)
    have ih := fun acc => fold_cars f ks (lo + 1) acc fun j hj => by
      have := h (j + 1) (by simp; omega)
      rw [show lo + 1 + j = lo + (j + 1) by omega, this]
      rfl
    have h0' : f lo = k := by simpa using h0
    rw [List.length_cons, List.range'_succ, List.foldl_cons, ih, carsOf, h0']
    by_cases hk : k = 0
    · rw [if_neg (by omega), if_pos hk]
    · rw [if_pos (by omega), if_neg hk, List.append_assoc]
      rfl
theorem places_eq {ks : List Nat} (hl : ks.length = 12) : (rangeKs 0 (12 - 0 : Int).toNat).foldl (fun l k => if 0 < ks.getD k.toNat 0 then l ++ [k] else l) [] = psOf (carsOf 0 ks) := by
  have h := fold_cars (fun i => ks.getD i 0) ks 0 [] (fun j _ => by rw [Nat.zero_add])
  rw [hl, List.nil_append] at h
  rw [← h]
  have e : rangeKs 0 (12 - 0 : Int).toNat = (List.range' 0 12).map fun i : Nat => (i : Int) := by decide +kernel
  rw [e, List.foldl_map]
  rfl
theorem car_at : ∀ (ks : List Nat) (lo : Nat), ∀ p ∈ carsOf lo ks, lo ≤ p.1 ∧ p.1 < lo + ks.length ∧ ks.getD (p.1 - lo) 0 = p.2 ∧ p.2 ≠ 0
  | [], lo, p, h => by cases h
  | k :: ks, lo, p, h => by
    have next : p ∈ carsOf (lo + 1) ks → lo ≤ p.1 ∧ p.1 < lo + (k :: ks).length ∧ (k :: ks).getD (p.1 - lo) 0 = p.2 ∧ p.2 ≠ 0 := fun h => by
      obtain ⟨h1, h2, h3, h4⟩ := car_at ks (lo + 1) p h
      refine ⟨by omega, by rw [List.length_cons]; omega, ?_, h4⟩
      rw [show p.1 - lo = (p.1 - (lo + 1)) + 1 by omega]
      exact h3
    rw [carsOf] at h
    split at h
    · exact next h
    · rcases List.mem_cons.mp h with rfl | h
      · rename_i hk
        refine ⟨Nat.le_refl _, by rw [List.length_cons]; show lo < _; omega, ?_, hk⟩
        show (k :: ks).getD (lo - lo) 0 = k
        rw [Nat.sub_self]
        rfl
      · exact next h
theorem place_at {ks : List Nat} {k : Int} (h : k ∈ psOf (carsOf 0 ks)) : 0 ≤ k ∧ k.toNat < ks.length ∧ k = (k.toNat : Int) ∧ 0 < ks.getD k.toNat 0 := by
  obtain ⟨p, hp, rfl⟩ := List.mem_map.mp h
  obtain ⟨_, h2, h3, h4⟩ := car_at ks 0 p hp
  rw [Nat.sub_zero] at h3
  refine ⟨by omega, by rw [Int.toNat_natCast]; omega, by omega, ?_⟩
  rw [Int.toNat_natCast, h3]
  omega
theorem ranks_eq (rk : Nat → Nat) (ks : List Nat) : ((psOf (carsOf 0 ks)).map fun k => ((rk (ks.getD k.toNat 0) : Nat) : Int)) = rsOf rk (carsOf 0 ks) := by
  unfold psOf rsOf
  rw [List.map_map]
  apply List.map_congr_left
  intro p hp
  obtain ⟨_, _, h3, _⟩ := car_at ks 0 p hp
  show ((rk (ks.getD ((p.1 : Int).toNat) 0) : Nat) : Int) = _
  rw [Int.toNat_natCast]
  rw [Nat.sub_zero] at h3
  rw [h3]
theorem signs_eq (M : Nat → Nat) (ks : List Nat) : ((psOf (carsOf 0 ks)).map fun k => M (ks.getD k.toNat 0)) = (carsOf 0 ks).map fun p => M p.2 := by
  unfold psOf
  rw [List.map_map]
  apply List.map_congr_left
  intro p hp
  obtain ⟨_, _, h3, _⟩ := car_at ks 0 p hp
  show M (ks.getD ((p.1 : Int).toNat) 0) = _
  rw [Int.toNat_natCast]
  rw [Nat.sub_zero] at h3
  rw [h3]
end Mine
end
section
open PySem PySem.W PyProof.Rows PySem.Spec PySem.Calls
set_option maxRecDepth 100000
set_option linter.unusedVariables false
namespace Mine
section
variable {prog : Program} {w : World} {A : Around} {E : Value → Shared → Prop} {s : Shared} {a : Addr} {value slice : PySem.Expr} {u : Tok}
theorem kind_V {Q : Value → Shared → Prop} {vs : List Value} {ks : List Nat} {i : Int} (hl : s.heap.IsList a vs.toArray) (hi : IntsAre vs (ks.map fun k : Nat => (k : Int))) (hz : ks.length = 12) (h0 : 0 ≤ i) (h1 : i < 12) (h : ∀ t, Q (.int ((ks.getD i.toNat 0 : Nat) : Int) t) s)
    (hs : subscripted slice false (.ref a) (.int i u) = operate [.ref a, .int i u] (getItem (.ref a) (.int i u))) :
    wpAny (model prog w) A (subscriptTail value slice (.ref a) (.int i u)) Q E s := by
  have hj : i.toNat < ks.length := by omega
  refine ints_V (j := i.toNat) hl hi (by omega) (by simpa using hj) (by omega) (fun t => ?_) hs
  have e : (ks.map fun k : Nat => (k : Int)).getD i.toNat 0 = ((ks.getD i.toNat 0 : Nat) : Int) := by simp [List.getD, hj]
  rw [e]
  exact h t
end
theorem lt12 {k : Int} (h : k < 0 + (((12 - 0 : Int).toNat : Nat) : Int)) : k < 12 := by
  have e : (12 - 0 : Int).toNat = 12 := rfl
  omega
theorem pos_of {n : Nat} (h : 0 < (n : Int)) : 0 < n := by omega
theorem npos_of {n : Nat} (h : ¬ 0 < (n : Int)) : ¬ 0 < n := by omega
theorem news_tail {h₀ h : Heap} {L : Addr} {x : Addr × Obj} {r : List (Addr × Obj)} (N : News h₀ L h (x :: r)) : News h₀ L h r := fun p hp => N p (.tail _ hp)
theorem size_le {ys : List Value} (h : ys.length ≤ (12 - 0 : Int).toNat) : ys.toArray.size ≤ sizeLine := by
  have e : (12 - 0 : Int).toNat = 12 := rfl
  rw [List.size_toArray, sizeLine_eq]
  omega
theorem place_in {ks : List Nat} {k : Int} (hl : ks.length = 12) (h : k ∈ psOf (carsOf 0 ks)) : 0 ≤ k ∧ k < 12 ∧ 0 < ks.getD k.toNat 0 := by
  obtain ⟨h0, h1, h2, h3⟩ := place_at h
  exact ⟨h0, by omega, h3⟩
theorem size_ks {ys : List Value} {ks : List Nat} (h : IntsAre ys (ks.map fun k : Nat => (k : Int))) (hl : ks.length = 12) : ys.toArray.size ≤ sizeLine := by
  have e := h.length
  rw [List.length_map] at e
  rw [List.size_toArray, sizeLine_eq]
  omega
theorem size_rv {c : List Tk} {ks : List Nat} {M : Nat → Nat} (h : c.map (·.1) = ks.map M) (hl : ks.length = 12) : c.length ≤ 1000 := by
  have e := congrArg List.length h
  rw [List.length_map, List.length_map] at e
  omega
theorem kind_lt (ms : List Int) (j : Nat) : (ksOf ms).getD j 0 < 4 := by
  by_cases hj : j < (ksOf ms).length
  · have e : (ksOf ms).getD j 0 = (ksOf ms)[j] := by simp [List.getD, hj]
    rw [e]
    exact ksOf_lt _ (List.getElem_mem _)
  · have e : (ksOf ms).getD j 0 = 0 := by simp [List.getD, hj]
    omega
theorem mem_kinds {ms : List Int} {k : Int} (h : k ∈ (ksOf ms).map fun k : Nat => (k : Int)) : k = (k.toNat : Int) ∧ k.toNat < 4 := by
  obtain ⟨n, hn, rfl⟩ := List.mem_map.mp h
  have := ksOf_lt n hn
  omega
theorem kinds_one (ks : List Nat) (M : Nat → Nat) : ((ks.map fun k : Nat => (k : Int)).map fun k => M k.toNat) = ks.map M := by
  rw [List.map_map]
  apply List.map_congr_left
  intro k _
  show M ((k : Int).toNat) = M k
  rw [Int.toNat_natCast]
theorem place_grows (ks : List Nat) : KPfGrows (fun (l : List Int) k => if 0 < ks.getD k.toNat 0 then l ++ [k] else l) := by
  intro l k
  dsimp only
  split
  · simp
  · omega
end Mine
end
section
open PySem PySem.W PyProof.Rows PySem.Spec PySem.Calls
set_option maxRecDepth 100000
set_option linter.unusedVariables false
namespace Mine
section
variable {prog : Program} {w : World} {A : Around} {E : Value → Shared → Prop} {s : Shared} {env : Env} {h₀ : Heap} {body : List Stmt}
noncomputable abbrev LawT := Nat × Tok × Tok
noncomputable abbrev LawJ (led : List (Addr × Obj)) (x na nb : Str) (m₀ : Str → Option Value) (R1 R2 : Nat → List Nat) := KstS (fun _ : LawT => led) (fun c => [(na, .str (S (R1 c.1)) c.2.1), (nb, .str (S (R2 c.1)) c.2.2)]) (fun _ => True) x [] m₀ (fun pre c => c.1 = pre.length)
theorem law_loop {Q : Flow → Shared → Prop} {x na nb : Str} {r : Addr} {t₀ u₀ v₀ : Tok} {m₀ : Str → Option Value} {led : List (Addr × Obj)} {x1 x2 : Str} {t1 t2 : Tok} (R1 R2 : Nat → List Nat)
    (hh : A.handled = none) (hr : IsRange s.heap r 1 9 1 t₀ u₀ v₀) (F : Fr h₀ env.locals s.heap m₀) (N : News h₀ env.locals s.heap led) (e1 : m₀ na = some (.str x1 t1)) (e2 : m₀ nb = some (.str x2 t2)) (f1 : x1 = S (R1 0)) (f2 : x2 = S (R2 0))
    (turn : ∀ (k : Nat) (pre : List Int) (ta tb : Tok) t h tk own, k < 8 → pre.length = k → (∀ p ∈ own, ∀ q ∈ led, p.1 ≠ q.1) →
      Fr h₀ env.locals h (fun y => if y = x then some (.int ((k + 1 : Nat) : Int) t) else if y = na then some (.str (S (R1 k)) ta) else if y = nb then some (.str (S (R2 k)) tb) else m₀ y) → News h₀ env.locals h (led ++ own) →
      wpAny (model prog w) A (execs body env) (InvPostN h₀ env.locals (LawJ led x na nb m₀ R1 R2 (pre ++ [((k + 1 : Nat) : Int)])) own (led.map (·.1)) { s with heap := h, toks := tk } Q) E { s with heap := h, toks := tk })
    (done : ∀ (ta tb : Tok) (u : Str → Option Value) h tk,
      Fr h₀ env.locals h (fun y => if y = x then u y else if y = na then some (.str (S (R1 8)) ta) else if y = nb then some (.str (S (R2 8)) tb) else m₀ y) → News h₀ env.locals h led → Q .next { s with heap := h, toks := tk }) :
    wpAny (model prog w) A (pyIter (.ref r)) (fun it s₂ => LoopAtV prog w A h₀ env x body Q E it s₂) E s := by
  subst f1
  subst f2
  refine kst_range (n := 8) (fun _ : LawT => led) (fun c => [(na, .str (S (R1 c.1)) c.2.1), (nb, .str (S (R2 c.1)) c.2.2)]) (fun _ => True) [] (fun pre c => c.1 = pre.length) (0, t1, t2) hh hr (by decide) (by decide) F N trivial ?_ rfl ?_ ?_
  · intro p hp
    rcases List.mem_cons.mp hp with rfl | hp
    · exact e1
    · rw [List.mem_singleton.mp hp]; exact e2
  · intro c pre k t u h tk own hk hlt hoff _ hP F' N'
    obtain ⟨i, ta, tb⟩ := c
    have hP' : i = pre.length := hP
    subst hP'
    have e : k = ((pre.length + 1 : Nat) : Int) := by omega
    subst e
    exact turn pre.length pre ta tb t h tk own hlt rfl (fun p hp q hq => hoff p hp q.1 (List.mem_map_of_mem hq)) F' N'
  · intro c u h tk _ hP F' N'
    obtain ⟨i, ta, tb⟩ := c
    rw [rangeKs_length] at hP
    have hP' : i = 8 := hP
    subst hP'
    exact done ta tb u h tk F' N'
theorem law_end {x na nb : Str} {L : Addr} {m₀ m' : Str → Option Value} {R1 R2 : Nat → List Nat} {k : Nat} {pre : List Int} {led own nn : List (Addr × Obj)} {s₁ : Shared} {h' : Heap} {tk : Nat} {y1 y2 : Str} {ta tb : Tok}
    (hpre : pre.length = k) (F : Fr h₀ L h' m') (N : News h₀ L h' nn) (hD : ∀ p ∈ led, p ∈ nn) (ho : ∀ p ∈ own, p ∈ nn) (e1 : m' na = some (.str y1 ta)) (e2 : m' nb = some (.str y2 tb)) (f1 : y1 = S (R1 (k + 1))) (f2 : y2 = S (R2 (k + 1)))
    (hm : ∀ z, z ≠ x → z ≠ na → z ≠ nb → m' z = m₀ z) :
    InvEndN h₀ L (LawJ led x na nb m₀ R1 R2 (pre ++ [((k + 1 : Nat) : Int)])) own (led.map (·.1)) s₁ { s₁ with heap := h', toks := tk } := by
  subst f1
  subst f2
  refine kst_end (k + 1, ta, tb) F N hD ho rfl trivial ?_ (fun z hz hps _ => hm z hz (hps _ (.head _)) (hps _ (.tail _ (.head _)))) (by rw [List.length_append, hpre]; rfl)
  intro p hp
  rcases List.mem_cons.mp hp with rfl | hp
  · exact e1
  · rw [List.mem_singleton.mp hp]; exact e2
end
section
variable {prog : Program} {w : World} {K : Frag} {p : Program} {loose : List Str} {mean : ExcName → Option Value} {mg mb : Str → Option Value} {f : Addr}
theorem call_use {room : Nat} {vs : List Value} {Post : Value → List (Addr × Obj) → Prop}
    {dp un : Nat} {gd : Option (List Code)} {cn : Str} {cs : Scope} {a : Addr} {ccd : Value} {cl : List (Str × Addr)} {outer : List Env} {A₀ : Around} {base h₀ : Heap} {L : Addr} {m : Str → Option Value} {news : List (Addr × Obj)} {s : Shared} {Q E : Value → Shared → Prop}
    (C : Call prog w K p loose mean mg mb f room vs news Post) (B : Below A₀ base outer h₀) (F : Fr h₀ L s.heap m) (X : K.In h₀) (N : News h₀ L s.heap news) (T : Top p loose mean mg mb h₀) (hk : cs.kind = .function) (hd : dp + room < recursionLimit) (hu : un + 8 * room < cLine)
    (hnil : ∀ v tl, Post v tl → tl = [])
    (ret : ∀ v h' tk', Fr h₀ L h' m → News h₀ L h' news → Post v [] → Q v { s with heap := h', toks := tk' }) :
    wpAny (model prog w) (ktrTop dp un gd cn cs L a ccd cl outer) (call (.ref f) vs) Q E s :=
  C dp un gd cn cs a ccd cl outer A₀ base h₀ L m s Q E B F X N T hk hd hu fun v tl h' tk' F' N' _ P => by
    have e := hnil v tl P
    subst e
    exact ret v h' tk' F' N' P
variable {M : Nat → Nat} {cars : List Car} {a b c : Nat} {rk : Nat → Nat}
theorem best_in (hc : CarsOk cars a b c) (T : Nat) (bare : Bool) : ∀ j, j < (psOf cars).length → 0 ≤ bestB (psOf cars) (rsOf rk cars) bare (T : Int) j ∧ bestB (psOf cars) (rsOf rk cars) bare (T : Int) j < 12 := by
  intro j hj
  have hpl : (psOf cars).length = cars.length := by simp [psOf]
  rw [hpl] at hj
  obtain ⟨lo, hv⟩ := Valid.drop j hc.valid
  have hlen := hc.valid.len
  rw [best_eq hj hv (by omega)]
  have h1 : (cars.drop j).length = cars.length - j := List.length_drop ..
  have h2 := Fp_cap 12 rk bare T (cars.drop j) (by omega)
  omega
theorem road_call (C : RoadC prog w K p loose mean mg mb f) (hc : CarsOk cars a b c) {pl rl sl : Addr} {pvs rvs : List Value} {cS : List Tk} {tf tT : Tok} (T : Nat) (bare : Bool)
    (hP : IntsAre pvs (psOf cars)) (hR : IntsAre rvs (rsOf rk cars)) (hS : cS.map (·.1) = cars.map fun p => M p.2) :
    Call0 prog w K p loose mean mg mb f 1 [.ref pl, .ref rl, .ref sl, .str (S [M 0]) tf, .int (T : Int) tT, .bool bare] (fun h => h.IsList pl pvs.toArray ∧ h.IsList rl rvs.toArray ∧ h.IsList sl (rv cS).toArray)
      (fun v => ∃ t, v = .str (S ((road rk bare T cars).map M)) t) := by
  have hpl : (psOf cars).length = cars.length := by simp [psOf]
  have hrl : (rsOf rk cars).length = cars.length := by simp [rsOf]
  have hsl : cS.length = cars.length := by have := congrArg List.length hS; simpa using this
  have hlen := hc.valid.len
  have h := C pl rl sl pvs rvs (psOf cars) (rsOf rk cars) cS (M 0) tf (T : Int) tT bare hP hR (by omega) (by omega) (by omega) (best_in hc T bare)
  rw [hS, road_told M hc] at h
  exact h
theorem bare_call (C : ReplaceC prog w K p loose mean mg mb f) (hM : MarksOk M) (hc : CarsOk cars a b c) (hO : OrdOk a b c) (T : Nat) {news : List (Addr × Obj)} {tx t0 t1 t2 t3 t4 t5 : Tok} :
    Call prog w K p loose mean mg mb f 1 [.str (S ((road (rkOf a b) true T cars).map M)) tx, .str (S [M a, M 0]) t0, .str (S [M 0, M a]) t1, .str (S [M b, M 0]) t2, .str (S [M 0, M b]) t3, .str (S [M c, M 0]) t4, .str (S [M 0, M c]) t5] news
      (fun v tl => tl = [] ∧ ∃ t, v = .str (S ((road (rkOf a b) true (T + 1) cars).map M)) t) := by
  obtain ⟨h1, h2, h3⟩ := bare_all (T := T) hM hc hO.lt (ranks_ok hO)
  have hl := road_len (rk := rkOf a b) (bare := true) (T := T) hc
  have h10 : ∀ x y, (S [x, y]).length ≤ 10 := fun x y => by rw [S_len]; show 2 ≤ 10; decide
  have hne : ∀ x y, ((S [x, y]).length == 0) = false := fun x y => by rw [S_len]; rfl
  have h := C news _ _ _ _ _ (S [M c, M 0]) (S [M 0, M c]) tx t0 t1 t2 t3 t4 t5 (by rw [S_len, List.length_map, hl]; omega) (hne _ _) (hne _ _) (hne _ _) (h10 _ _) (h10 _ _) (h10 _ _) h1 h2
  rw [h3] at h
  exact h
theorem quoteL_len (n : Nat) : (quoteL n).length = 3 := by simp [quoteL]
theorem quoted_call (C : ReplaceC prog w K p loose mean mg mb f) (hM : MarksOk M) (hc : CarsOk cars a b c) (hO : OrdOk a b c) (T : Nat) {news : List (Addr × Obj)} {tx t0 t1 t2 t3 t4 t5 : Tok} :
    Call prog w K p loose mean mg mb f 1 [.str (S ((road rk false T cars).map M)) tx, .str (S [M a, M 0]) t0, .str (S (quoteL (M 0) ++ quoteL (M a))) t1, .str (S [M b, M 0]) t2, .str (S (quoteL (M 0) ++ quoteL (M b))) t3, .str (S [M c, M 0]) t4, .str (S (quoteL (M 0) ++ quoteL (M c))) t5] news
      (fun v tl => tl = [] ∧ ∃ (l : List Mk) (t : Tok), l ≠ [] ∧ l.length ≤ 12 ∧ OkN l ∧ l.map (·.1) = (road rk false (T + 1) cars).map M ∧ v = .str (S (flatN l)) t) := by
  obtain ⟨h1, h2, l, g1, g2, g3, g4, g5⟩ := quoted_all (rk := rk) (T := T) hM hc hO.lt
  have hl := road_len (rk := rk) (bare := false) (T := T) hc
  have hq : ∀ x y, (S (quoteL x ++ quoteL y)).length ≤ 10 := fun x y => by rw [S_len, List.length_append, quoteL_len, quoteL_len]; omega
  have hne : ∀ x y, ((S [x, y]).length == 0) = false := fun x y => by rw [S_len]; rfl
  have h := C news _ _ _ _ _ (S [M c, M 0]) (S (quoteL (M 0) ++ quoteL (M c))) tx t0 t1 t2 t3 t4 t5 (by rw [S_len, List.length_map, hl]; omega) (hne _ _) (hne _ _) (hne _ _) (hq _ _) (hq _ _) (hq _ _) h1 h2
  rw [g4] at h
  intro dp un gd cn cs a ccd cl outer A₀ base h₀ L m s Q E B F X N T hk hd hu ret
  refine h dp un gd cn cs a ccd cl outer A₀ base h₀ L m s Q E B F X N T hk hd hu fun v tl h' tk' F' N' o P => ret v tl h' tk' F' N' o ?_
  obtain ⟨e, t, ev⟩ := P
  exact ⟨e, l, t, g1, g2, g3, g5, ev⟩
theorem decode_call (C : DecodeC prog w K p loose mean mg mb f) {l : List Mk} {r : List Nat} {t : Tok} (g1 : l ≠ []) (g2 : l.length ≤ 12) (g3 : OkN l) (g4 : l.map (·.1) = r) :
    Call0 prog w K p loose mean mg mb f 2 [.str (S (flatN l)) t] (fun _ => True) (fun v => ∃ t, v = .str (S r) t) := by
  have h := C l t g1 g2 g3
  rw [g4] at h
  exact h
end
end Mine
end
open PySem PySem.W PyProof.Rows
section
namespace Mine
set_option maxRecDepth 100000
set_option maxHeartbeats 0
noncomputable abbrev hProg : PySem.Program := ((@PySem.W.OpenRow.toRowW (@PySem.W.OpenLaw.row @PySem.Challenge.rw_tx0009_01))).prog
noncomputable def hView : PySem.Program :=
  (fun (s1 : PySem.Stmt) (_ : (PySem.W.OpenRow.toRowW (PySem.W.OpenLaw.row PySem.Challenge.rw_tx0009_01)).prog.main.body[1]? = some s1) (s2 : PySem.Stmt) (_ : (PySem.W.OpenRow.toRowW (PySem.W.OpenLaw.row PySem.Challenge.rw_tx0009_01)).prog.main.body[2]? = some s2) (s3 : PySem.Stmt) (_ : (PySem.W.OpenRow.toRowW (PySem.W.OpenLaw.row PySem.Challenge.rw_tx0009_01)).prog.main.body[3]? = some s3) (s4 : PySem.Stmt) (_ : (PySem.W.OpenRow.toRowW (PySem.W.OpenLaw.row PySem.Challenge.rw_tx0009_01)).prog.main.body[4]? = some s4) (s5 : PySem.Stmt) (_ : (PySem.W.OpenRow.toRowW (PySem.W.OpenLaw.row PySem.Challenge.rw_tx0009_01)).prog.main.body[5]? = some s5) (s6 : PySem.Stmt) (_ : (PySem.W.OpenRow.toRowW (PySem.W.OpenLaw.row PySem.Challenge.rw_tx0009_01)).prog.main.body[6]? = some s6) (s7 : PySem.Stmt) (_ : (PySem.W.OpenRow.toRowW (PySem.W.OpenLaw.row PySem.Challenge.rw_tx0009_01)).prog.main.body[7]? = some s7) (s8 : PySem.Stmt) (_ : (PySem.W.OpenRow.toRowW (PySem.W.OpenLaw.row PySem.Challenge.rw_tx0009_01)).prog.main.body[8]? = some s8) (s9 : PySem.Stmt) (_ : (PySem.W.OpenRow.toRowW (PySem.W.OpenLaw.row PySem.Challenge.rw_tx0009_01)).prog.main.body[9]? = some s9) (s10 : PySem.Stmt) (_ : (PySem.W.OpenRow.toRowW (PySem.W.OpenLaw.row PySem.Challenge.rw_tx0009_01)).prog.main.body[10]? = some s10) (s15 : PySem.Stmt) (_ : (PySem.W.OpenRow.toRowW (PySem.W.OpenLaw.row PySem.Challenge.rw_tx0009_01)).prog.main.body[15]? = some s15) (s16 : PySem.Stmt) (_ : (PySem.W.OpenRow.toRowW (PySem.W.OpenLaw.row PySem.Challenge.rw_tx0009_01)).prog.main.body[16]? = some s16) (s17 : PySem.Stmt) (_ : (PySem.W.OpenRow.toRowW (PySem.W.OpenLaw.row PySem.Challenge.rw_tx0009_01)).prog.main.body[17]? = some s17) (s22 : PySem.Stmt) (_ : (PySem.W.OpenRow.toRowW (PySem.W.OpenLaw.row PySem.Challenge.rw_tx0009_01)).prog.main.body[22]? = some s22) (s23 : PySem.Stmt) (_ : (PySem.W.OpenRow.toRowW (PySem.W.OpenLaw.row PySem.Challenge.rw_tx0009_01)).prog.main.body[23]? = some s23) (s24 : PySem.Stmt) (_ : (PySem.W.OpenRow.toRowW (PySem.W.OpenLaw.row PySem.Challenge.rw_tx0009_01)).prog.main.body[24]? = some s24) (s25 : PySem.Stmt) (_ : (PySem.W.OpenRow.toRowW (PySem.W.OpenLaw.row PySem.Challenge.rw_tx0009_01)).prog.main.body[25]? = some s25) =>
    ({ (PySem.W.OpenRow.toRowW (PySem.W.OpenLaw.row PySem.Challenge.rw_tx0009_01)).prog with main := { (PySem.W.OpenRow.toRowW (PySem.W.OpenLaw.row PySem.Challenge.rw_tx0009_01)).prog.main with body := [s1, s2, s3, s4, s5, s6, s7, s8, s9, s10, s15, s16, s17, s22, s23, s24, s25] } } : PySem.Program))
    _ (by rfl) _ (by rfl) _ (by rfl) _ (by rfl) _ (by rfl) _ (by rfl) _ (by rfl) _ (by rfl) _ (by rfl) _ (by rfl) _ (by rfl) _ (by rfl) _ (by rfl) _ (by rfl) _ (by rfl) _ (by rfl) _ (by rfl)
noncomputable def hFn (i : Nat) : Option (PySem.Arguments × List PySem.Stmt × PySem.Scope) := match (PySem.W.OpenRow.toRowW (PySem.W.OpenLaw.row PySem.Challenge.rw_tx0009_01)).prog.main.body[i]? with
  | some (.FunctionDef _ a b _ _ _ c _ _ _) => some (a, b, c)
  | _ => none
noncomputable def hFnA (i : Nat) : PySem.Arguments := match hFn i with
  | some (a, _, _) => a
  | none => PySem.Arguments.mk [] [] none [] [] none []
noncomputable def hFnB (i : Nat) : List PySem.Stmt := match hFn i with
  | some (_, b, _) => b
  | none => []
noncomputable def hFnC (i : Nat) : PySem.Scope := match hFn i with
  | some (_, _, c) => c
  | none => { kind := .function, names := [], isGenerator := false, isCoroutine := false }
noncomputable def hHeap (P : PySem.Params) : PySem.W.Frag :=
  (fun (a1 : PySem.Arguments) (b1 : List PySem.Stmt) (c1 : PySem.Scope) (_ : hFn 1 = some (a1, b1, c1)) (a15 : PySem.Arguments) (b15 : List PySem.Stmt) (c15 : PySem.Scope) (_ : hFn 15 = some (a15, b15, c15)) (a16 : PySem.Arguments) (b16 : List PySem.Stmt) (c16 : PySem.Scope) (_ : hFn 16 = some (a16, b16, c16)) (a20 : PySem.Arguments) (b20 : List PySem.Stmt) (c20 : PySem.Scope) (_ : hFn 20 = some (a20, b20, c20)) (a22 : PySem.Arguments) (b22 : List PySem.Stmt) (c22 : PySem.Scope) (_ : hFn 22 = some (a22, b22, c22)) (a23 : PySem.Arguments) (b23 : List PySem.Stmt) (c23 : PySem.Scope) (_ : hFn 23 = some (a23, b23, c23)) (a24 : PySem.Arguments) (b24 : List PySem.Stmt) (c24 : PySem.Scope) (_ : hFn 24 = some (a24, b24, c24)) (a25 : PySem.Arguments) (b25 : List PySem.Stmt) (c25 : PySem.Scope) (_ : hFn 25 = some (a25, b25, c25)) =>
    (((nat_lit 2, (PySem.Obj.mk PySem.Value.none none (PySem.Data.dict #[] 0) #[])) :: (nat_lit 3, (PySem.Obj.mk (PySem.Value.type "dict") none (PySem.Data.dict #[(PySem.DictEntry.mk (PySem.PyData.keyHash P (PySem.Str.ofString "__name__")) (PySem.Value.str (PySem.Str.ofString "__name__") 165) (PySem.Value.str (PySem.Str.ofString "law_tx0009_01") 1776)), (PySem.DictEntry.mk (PySem.PyData.keyHash P (PySem.Str.ofString "__doc__")) (PySem.Value.str (PySem.Str.ofString "__doc__") 166) PySem.Value.none), (PySem.DictEntry.mk (PySem.PyData.keyHash P (PySem.Str.ofString "__package__")) (PySem.Value.str (PySem.Str.ofString "__package__") 167) PySem.Value.none), (PySem.DictEntry.mk (PySem.PyData.keyHash P (PySem.Str.ofString "__loader__")) (PySem.Value.str (PySem.Str.ofString "__loader__") 168) (PySem.Value.builtin "__main__.__loader__#opaque")), (PySem.DictEntry.mk (PySem.PyData.keyHash P (PySem.Str.ofString "__spec__")) (PySem.Value.str (PySem.Str.ofString "__spec__") 169) PySem.Value.none), (PySem.DictEntry.mk (PySem.PyData.keyHash P (PySem.Str.ofString "__annotations__")) (PySem.Value.str (PySem.Str.ofString "__annotations__") 170) (PySem.Value.ref 6)), (PySem.DictEntry.mk (PySem.PyData.keyHash P (PySem.Str.ofString "__builtins__")) (PySem.Value.str (PySem.Str.ofString "__builtins__") 171) (PySem.Value.ref 4)), (PySem.DictEntry.mk (PySem.PyData.keyHash P (PySem.Str.ofString "__file__")) (PySem.Value.str (PySem.Str.ofString "__file__") 173) (PySem.Value.str (PySem.Str.ofString "/claim/cut.py") 172)), (PySem.DictEntry.mk (PySem.PyData.keyHash P (PySem.Str.ofString "__cached__")) (PySem.Value.str (PySem.Str.ofString "__cached__") 174) PySem.Value.none), (PySem.DictEntry.mk (PySem.PyData.keyHash P (PySem.Str.ofString "replace")) (PySem.Value.str (PySem.Str.ofString "replace") 196) (PySem.Value.ref 21)), (PySem.DictEntry.mk (PySem.PyData.keyHash P (PySem.Str.ofString "NL")) (PySem.Value.str (PySem.Str.ofString "NL") 198) (PySem.Value.str (PySem.Str.ofString "\n") 197)), (PySem.DictEntry.mk (PySem.PyData.keyHash P (PySem.Str.ofString "_QUOPRI_MAP")) (PySem.Value.str (PySem.Str.ofString "_QUOPRI_MAP") 1226) (PySem.Value.ref 24)), (PySem.DictEntry.mk (PySem.PyData.keyHash P (PySem.Str.ofString "_QUOPRI_HEADER_MAP")) (PySem.Value.str (PySem.Str.ofString "_QUOPRI_HEADER_MAP") 1227) (PySem.Value.ref 29)), (PySem.DictEntry.mk (PySem.PyData.keyHash P (PySem.Str.ofString "_QUOPRI_BODY_MAP")) (PySem.Value.str (PySem.Str.ofString "_QUOPRI_BODY_MAP") 1228) (PySem.Value.ref 31)), (PySem.DictEntry.mk (PySem.PyData.keyHash P (PySem.Str.ofString "ascii_lowercase")) (PySem.Value.str (PySem.Str.ofString "ascii_lowercase") 1230) (PySem.Value.str (PySem.Str.ofString "abcdefghijklmnopqrstuvwxyz") 1229)), (PySem.DictEntry.mk (PySem.PyData.keyHash P (PySem.Str.ofString "ascii_uppercase")) (PySem.Value.str (PySem.Str.ofString "ascii_uppercase") 1232) (PySem.Value.str (PySem.Str.ofString "ABCDEFGHIJKLMNOPQRSTUVWXYZ") 1231)), (PySem.DictEntry.mk (PySem.PyData.keyHash P (PySem.Str.ofString "ascii_letters")) (PySem.Value.str (PySem.Str.ofString "ascii_letters") 1234) (PySem.Value.str (PySem.Str.ofString "abcdefghijklmnopqrstuvwxyzABCDEFGHIJKLMNOPQRSTUVWXYZ") 1233)), (PySem.DictEntry.mk (PySem.PyData.keyHash P (PySem.Str.ofString "digits")) (PySem.Value.str (PySem.Str.ofString "digits") 1236) (PySem.Value.str (PySem.Str.ofString "0123456789") 1235)), (PySem.DictEntry.mk (PySem.PyData.keyHash P (PySem.Str.ofString "hexdigits")) (PySem.Value.str (PySem.Str.ofString "hexdigits") 1241) (PySem.Value.str (PySem.Str.ofString "0123456789abcdefABCDEF") 1240)), (PySem.DictEntry.mk (PySem.PyData.keyHash P (PySem.Str.ofString "unquote")) (PySem.Value.str (PySem.Str.ofString "unquote") 1747) (PySem.Value.ref 44)), (PySem.DictEntry.mk (PySem.PyData.keyHash P (PySem.Str.ofString "quote")) (PySem.Value.str (PySem.Str.ofString "quote") 1754) (PySem.Value.ref 51)), (PySem.DictEntry.mk (PySem.PyData.keyHash P (PySem.Str.ofString "_QUOPRI_BODY_ENCODE_MAP")) (PySem.Value.str (PySem.Str.ofString "_QUOPRI_BODY_ENCODE_MAP") 1755) (PySem.Value.ref 53)), (PySem.DictEntry.mk (PySem.PyData.keyHash P (PySem.Str.ofString "decode")) (PySem.Value.str (PySem.Str.ofString "decode") 1775) (PySem.Value.ref 64)), (PySem.DictEntry.mk (PySem.PyData.keyHash P (PySem.Str.ofString "_law_numbers")) (PySem.Value.str (PySem.Str.ofString "_law_numbers") 1783) (PySem.Value.ref 69)), (PySem.DictEntry.mk (PySem.PyData.keyHash P (PySem.Str.ofString "_law_order")) (PySem.Value.str (PySem.Str.ofString "_law_order") 1789) (PySem.Value.ref 74)), (PySem.DictEntry.mk (PySem.PyData.keyHash P (PySem.Str.ofString "_law_road")) (PySem.Value.str (PySem.Str.ofString "_law_road") 1806) (PySem.Value.ref 81)), (PySem.DictEntry.mk (PySem.PyData.keyHash P (PySem.Str.ofString "law")) (PySem.Value.str (PySem.Str.ofString "law") 1812) (PySem.Value.ref 86))] 29) #[])) :: (nat_lit 6, (PySem.Obj.mk (PySem.Value.type "dict") none (PySem.Data.dict #[] 0) #[])) :: (nat_lit 15, (PySem.Obj.mk (PySem.Value.type "tuple") none (PySem.Data.seq #[] 0) #[])) :: (nat_lit 17, (PySem.Obj.mk (PySem.Value.type "tuple") none (PySem.Data.seq #[(PySem.Value.str (PySem.Str.ofString "text") 192), (PySem.Value.str (PySem.Str.ofString "pairs") 193)] 0) #[])) :: (nat_lit 18, (PySem.Obj.mk (PySem.Value.type "tuple") none (PySem.Data.seq #[] 0) #[])) :: (nat_lit 20, (PySem.Obj.mk (PySem.Value.type "code") none (PySem.Data.fields #[(PySem.Value.str (PySem.Str.ofString "replace") 189), (PySem.Value.str (PySem.Str.ofString "replace") 190), (PySem.Value.str (PySem.Str.ofString "/claim/cut.py") 191), (PySem.Value.int (@OfNat.ofNat.{0} @Int 2 (@instOfNat 2)) 0), (PySem.Value.int (@OfNat.ofNat.{0} @Int 1 (@instOfNat 1)) 0), (PySem.Value.int (@OfNat.ofNat.{0} @Int 0 (@instOfNat 0)) 0), (PySem.Value.int (@OfNat.ofNat.{0} @Int 0 (@instOfNat 0)) 0), (PySem.Value.int (@OfNat.ofNat.{0} @Int 7 (@instOfNat 7)) 0), (PySem.Value.ref 15), (PySem.Value.bool Bool.true), (PySem.Value.int (@OfNat.ofNat.{0} @Int 181 (@instOfNat 181)) 0), (PySem.Value.ref 16), PySem.Value.none, (PySem.Value.ref 17), (PySem.Value.ref 18), (PySem.Value.ref 19), (PySem.Value.int (@OfNat.ofNat.{0} @Int 194 (@instOfNat 194)) 0), (PySem.Value.int (@OfNat.ofNat.{0} @Int 2 (@instOfNat 2)) 0), (PySem.Value.str (PySem.Str.ofString "/claim/cut.py") 195)]) #[])) :: (nat_lit 21, (PySem.Obj.mk (PySem.Value.type "function") none (PySem.Data.func (PySem.FuncData.mk (PySem.Str.ofString "replace") (PySem.Str.ofString "replace") a1 (PySem.FuncBody.stmts b1) c1 3 [] PySem.Value.none PySem.Value.none PySem.Value.none (PySem.Value.str (PySem.Str.ofString "cpy313.pydoc") 187) none (PySem.Value.ref 20) PySem.Value.none 0)) #[])) :: (nat_lit 24, (PySem.Obj.mk (PySem.Value.type "list") none (PySem.Data.seq (List.toArray ((PySem.Value.str (PySem.Str.ofString "=00") 205) :: (PySem.Value.str (PySem.Str.ofString "=01") 209) :: (PySem.Value.str (PySem.Str.ofString "=02") 213) :: (PySem.Value.str (PySem.Str.ofString "=03") 217) :: (PySem.Value.str (PySem.Str.ofString "=04") 221) :: (PySem.Value.str (PySem.Str.ofString "=05") 225) :: (PySem.Value.str (PySem.Str.ofString "=06") 229) :: (PySem.Value.str (PySem.Str.ofString "=07") 233) :: (PySem.Value.str (PySem.Str.ofString "=08") 237) :: (PySem.Value.str (PySem.Str.ofString "=09") 241) :: (PySem.Value.str (PySem.Str.ofString "=0A") 245) :: (PySem.Value.str (PySem.Str.ofString "=0B") 249) :: (PySem.Value.str (PySem.Str.ofString "=0C") 253) :: (PySem.Value.str (PySem.Str.ofString "=0D") 257) :: (PySem.Value.str (PySem.Str.ofString "=0E") 261) :: (PySem.Value.str (PySem.Str.ofString "=0F") 265) :: (PySem.Value.str (PySem.Str.ofString "=10") 269) :: (PySem.Value.str (PySem.Str.ofString "=11") 273) :: (PySem.Value.str (PySem.Str.ofString "=12") 277) :: (PySem.Value.str (PySem.Str.ofString "=13") 281) :: (PySem.Value.str (PySem.Str.ofString "=14") 285) :: (PySem.Value.str (PySem.Str.ofString "=15") 289) :: (PySem.Value.str (PySem.Str.ofString "=16") 293) :: (PySem.Value.str (PySem.Str.ofString "=17") 297) :: (PySem.Value.str (PySem.Str.ofString "=18") 301) :: (PySem.Value.str (PySem.Str.ofString "=19") 305) :: (PySem.Value.str (PySem.Str.ofString "=1A") 309) :: (PySem.Value.str (PySem.Str.ofString "=1B") 313) :: (PySem.Value.str (PySem.Str.ofString "=1C") 317) :: (PySem.Value.str (PySem.Str.ofString "=1D") 321) :: (PySem.Value.str (PySem.Str.ofString "=1E") 325) :: (PySem.Value.str (PySem.Str.ofString "=1F") 329) :: (PySem.Value.str (PySem.Str.ofString "=20") 333) :: (PySem.Value.str (PySem.Str.ofString "=21") 337) :: (PySem.Value.str (PySem.Str.ofString "=22") 341) :: (PySem.Value.str (PySem.Str.ofString "=23") 345) :: (PySem.Value.str (PySem.Str.ofString "=24") 349) :: (PySem.Value.str (PySem.Str.ofString "=25") 353) :: (PySem.Value.str (PySem.Str.ofString "=26") 357) :: (PySem.Value.str (PySem.Str.ofString "=27") 361) :: (PySem.Value.str (PySem.Str.ofString "=28") 365) :: (PySem.Value.str (PySem.Str.ofString "=29") 369) :: (PySem.Value.str (PySem.Str.ofString "=2A") 373) :: (PySem.Value.str (PySem.Str.ofString "=2B") 377) :: (PySem.Value.str (PySem.Str.ofString "=2C") 381) :: (PySem.Value.str (PySem.Str.ofString "=2D") 385) :: (PySem.Value.str (PySem.Str.ofString "=2E") 389) :: (PySem.Value.str (PySem.Str.ofString "=2F") 393) :: (PySem.Value.str (PySem.Str.ofString "=30") 397) :: (PySem.Value.str (PySem.Str.ofString "=31") 401) :: (PySem.Value.str (PySem.Str.ofString "=32") 405) :: (PySem.Value.str (PySem.Str.ofString "=33") 409) :: (PySem.Value.str (PySem.Str.ofString "=34") 413) :: (PySem.Value.str (PySem.Str.ofString "=35") 417) :: (PySem.Value.str (PySem.Str.ofString "=36") 421) :: (PySem.Value.str (PySem.Str.ofString "=37") 425) :: (PySem.Value.str (PySem.Str.ofString "=38") 429) :: (PySem.Value.str (PySem.Str.ofString "=39") 433) :: (PySem.Value.str (PySem.Str.ofString "=3A") 437) :: (PySem.Value.str (PySem.Str.ofString "=3B") 441) :: (PySem.Value.str (PySem.Str.ofString "=3C") 445) :: (PySem.Value.str (PySem.Str.ofString "=3D") 449) :: (PySem.Value.str (PySem.Str.ofString "=3E") 453) :: (PySem.Value.str (PySem.Str.ofString "=3F") 457) :: (PySem.Value.str (PySem.Str.ofString "=40") 461) :: (PySem.Value.str (PySem.Str.ofString "=41") 465) :: (PySem.Value.str (PySem.Str.ofString "=42") 469) :: (PySem.Value.str (PySem.Str.ofString "=43") 473) :: (PySem.Value.str (PySem.Str.ofString "=44") 477) :: (PySem.Value.str (PySem.Str.ofString "=45") 481) :: (PySem.Value.str (PySem.Str.ofString "=46") 485) :: (PySem.Value.str (PySem.Str.ofString "=47") 489) :: (PySem.Value.str (PySem.Str.ofString "=48") 493) :: (PySem.Value.str (PySem.Str.ofString "=49") 497) :: (PySem.Value.str (PySem.Str.ofString "=4A") 501) :: (PySem.Value.str (PySem.Str.ofString "=4B") 505) :: (PySem.Value.str (PySem.Str.ofString "=4C") 509) :: (PySem.Value.str (PySem.Str.ofString "=4D") 513) :: (PySem.Value.str (PySem.Str.ofString "=4E") 517) :: (PySem.Value.str (PySem.Str.ofString "=4F") 521) :: (PySem.Value.str (PySem.Str.ofString "=50") 525) :: (PySem.Value.str (PySem.Str.ofString "=51") 529) :: (PySem.Value.str (PySem.Str.ofString "=52") 533) :: (PySem.Value.str (PySem.Str.ofString "=53") 537) :: (PySem.Value.str (PySem.Str.ofString "=54") 541) :: (PySem.Value.str (PySem.Str.ofString "=55") 545) :: (PySem.Value.str (PySem.Str.ofString "=56") 549) :: (PySem.Value.str (PySem.Str.ofString "=57") 553) :: (PySem.Value.str (PySem.Str.ofString "=58") 557) :: (PySem.Value.str (PySem.Str.ofString "=59") 561) :: (PySem.Value.str (PySem.Str.ofString "=5A") 565) :: (PySem.Value.str (PySem.Str.ofString "=5B") 569) :: (PySem.Value.str (PySem.Str.ofString "=5C") 573) :: (PySem.Value.str (PySem.Str.ofString "=5D") 577) :: (PySem.Value.str (PySem.Str.ofString "=5E") 581) :: (PySem.Value.str (PySem.Str.ofString "=5F") 585) :: (PySem.Value.str (PySem.Str.ofString "=60") 589) :: (PySem.Value.str (PySem.Str.ofString "=61") 593) :: (PySem.Value.str (PySem.Str.ofString "=62") 597) :: (PySem.Value.str (PySem.Str.ofString "=63") 601) :: (PySem.Value.str (PySem.Str.ofString "=64") 605) :: (PySem.Value.str (PySem.Str.ofString "=65") 609) :: (PySem.Value.str (PySem.Str.ofString "=66") 613) :: (PySem.Value.str (PySem.Str.ofString "=67") 617) :: (PySem.Value.str (PySem.Str.ofString "=68") 621) :: (PySem.Value.str (PySem.Str.ofString "=69") 625) :: (PySem.Value.str (PySem.Str.ofString "=6A") 629) :: (PySem.Value.str (PySem.Str.ofString "=6B") 633) :: (PySem.Value.str (PySem.Str.ofString "=6C") 637) :: (PySem.Value.str (PySem.Str.ofString "=6D") 641) :: (PySem.Value.str (PySem.Str.ofString "=6E") 645) :: (PySem.Value.str (PySem.Str.ofString "=6F") 649) :: (PySem.Value.str (PySem.Str.ofString "=70") 653) :: (PySem.Value.str (PySem.Str.ofString "=71") 657) :: (PySem.Value.str (PySem.Str.ofString "=72") 661) :: (PySem.Value.str (PySem.Str.ofString "=73") 665) :: (PySem.Value.str (PySem.Str.ofString "=74") 669) :: (PySem.Value.str (PySem.Str.ofString "=75") 673) :: (PySem.Value.str (PySem.Str.ofString "=76") 677) :: (PySem.Value.str (PySem.Str.ofString "=77") 681) :: (PySem.Value.str (PySem.Str.ofString "=78") 685) :: (PySem.Value.str (PySem.Str.ofString "=79") 689) :: (PySem.Value.str (PySem.Str.ofString "=7A") 693) :: (PySem.Value.str (PySem.Str.ofString "=7B") 697) :: (PySem.Value.str (PySem.Str.ofString "=7C") 701) :: (PySem.Value.str (PySem.Str.ofString "=7D") 705) :: (PySem.Value.str (PySem.Str.ofString "=7E") 709) :: (PySem.Value.str (PySem.Str.ofString "=7F") 713) :: (PySem.Value.str (PySem.Str.ofString "=80") 717) :: (PySem.Value.str (PySem.Str.ofString "=81") 721) :: (PySem.Value.str (PySem.Str.ofString "=82") 725) :: (PySem.Value.str (PySem.Str.ofString "=83") 729) :: (PySem.Value.str (PySem.Str.ofString "=84") 733) :: (PySem.Value.str (PySem.Str.ofString "=85") 737) :: (PySem.Value.str (PySem.Str.ofString "=86") 741) :: (PySem.Value.str (PySem.Str.ofString "=87") 745) :: (PySem.Value.str (PySem.Str.ofString "=88") 749) :: (PySem.Value.str (PySem.Str.ofString "=89") 753) :: (PySem.Value.str (PySem.Str.ofString "=8A") 757) :: (PySem.Value.str (PySem.Str.ofString "=8B") 761) :: (PySem.Value.str (PySem.Str.ofString "=8C") 765) :: (PySem.Value.str (PySem.Str.ofString "=8D") 769) :: (PySem.Value.str (PySem.Str.ofString "=8E") 773) :: (PySem.Value.str (PySem.Str.ofString "=8F") 777) :: (PySem.Value.str (PySem.Str.ofString "=90") 781) :: (PySem.Value.str (PySem.Str.ofString "=91") 785) :: (PySem.Value.str (PySem.Str.ofString "=92") 789) :: (PySem.Value.str (PySem.Str.ofString "=93") 793) :: (PySem.Value.str (PySem.Str.ofString "=94") 797) :: (PySem.Value.str (PySem.Str.ofString "=95") 801) :: (PySem.Value.str (PySem.Str.ofString "=96") 805) :: (PySem.Value.str (PySem.Str.ofString "=97") 809) :: (PySem.Value.str (PySem.Str.ofString "=98") 813) :: (PySem.Value.str (PySem.Str.ofString "=99") 817) :: (PySem.Value.str (PySem.Str.ofString "=9A") 821) :: (PySem.Value.str (PySem.Str.ofString "=9B") 825) :: (PySem.Value.str (PySem.Str.ofString "=9C") 829) :: (PySem.Value.str (PySem.Str.ofString "=9D") 833) :: (PySem.Value.str (PySem.Str.ofString "=9E") 837) :: (PySem.Value.str (PySem.Str.ofString "=9F") 841) :: (PySem.Value.str (PySem.Str.ofString "=A0") 845) :: (PySem.Value.str (PySem.Str.ofString "=A1") 849) :: (PySem.Value.str (PySem.Str.ofString "=A2") 853) :: (PySem.Value.str (PySem.Str.ofString "=A3") 857) :: (PySem.Value.str (PySem.Str.ofString "=A4") 861) :: (PySem.Value.str (PySem.Str.ofString "=A5") 865) :: (PySem.Value.str (PySem.Str.ofString "=A6") 869) :: (PySem.Value.str (PySem.Str.ofString "=A7") 873) :: (PySem.Value.str (PySem.Str.ofString "=A8") 877) :: (PySem.Value.str (PySem.Str.ofString "=A9") 881) :: (PySem.Value.str (PySem.Str.ofString "=AA") 885) :: (PySem.Value.str (PySem.Str.ofString "=AB") 889) :: (PySem.Value.str (PySem.Str.ofString "=AC") 893) :: (PySem.Value.str (PySem.Str.ofString "=AD") 897) :: (PySem.Value.str (PySem.Str.ofString "=AE") 901) :: (PySem.Value.str (PySem.Str.ofString "=AF") 905) :: (PySem.Value.str (PySem.Str.ofString "=B0") 909) :: (PySem.Value.str (PySem.Str.ofString "=B1") 913) :: (PySem.Value.str (PySem.Str.ofString "=B2") 917) :: (PySem.Value.str (PySem.Str.ofString "=B3") 921) :: (PySem.Value.str (PySem.Str.ofString "=B4") 925) :: (PySem.Value.str (PySem.Str.ofString "=B5") 929) :: (PySem.Value.str (PySem.Str.ofString "=B6") 933) :: (PySem.Value.str (PySem.Str.ofString "=B7") 937) :: (PySem.Value.str (PySem.Str.ofString "=B8") 941) :: (PySem.Value.str (PySem.Str.ofString "=B9") 945) :: (PySem.Value.str (PySem.Str.ofString "=BA") 949) :: (PySem.Value.str (PySem.Str.ofString "=BB") 953) :: (PySem.Value.str (PySem.Str.ofString "=BC") 957) :: (PySem.Value.str (PySem.Str.ofString "=BD") 961) :: (PySem.Value.str (PySem.Str.ofString "=BE") 965) :: (PySem.Value.str (PySem.Str.ofString "=BF") 969) :: (PySem.Value.str (PySem.Str.ofString "=C0") 973) :: (PySem.Value.str (PySem.Str.ofString "=C1") 977) :: (PySem.Value.str (PySem.Str.ofString "=C2") 981) :: (PySem.Value.str (PySem.Str.ofString "=C3") 985) :: (PySem.Value.str (PySem.Str.ofString "=C4") 989) :: (PySem.Value.str (PySem.Str.ofString "=C5") 993) :: (PySem.Value.str (PySem.Str.ofString "=C6") 997) :: (PySem.Value.str (PySem.Str.ofString "=C7") 1001) :: (PySem.Value.str (PySem.Str.ofString "=C8") 1005) :: (PySem.Value.str (PySem.Str.ofString "=C9") 1009) :: (PySem.Value.str (PySem.Str.ofString "=CA") 1013) :: (PySem.Value.str (PySem.Str.ofString "=CB") 1017) :: (PySem.Value.str (PySem.Str.ofString "=CC") 1021) :: (PySem.Value.str (PySem.Str.ofString "=CD") 1025) :: (PySem.Value.str (PySem.Str.ofString "=CE") 1029) :: (PySem.Value.str (PySem.Str.ofString "=CF") 1033) :: (PySem.Value.str (PySem.Str.ofString "=D0") 1037) :: (PySem.Value.str (PySem.Str.ofString "=D1") 1041) :: (PySem.Value.str (PySem.Str.ofString "=D2") 1045) :: (PySem.Value.str (PySem.Str.ofString "=D3") 1049) :: (PySem.Value.str (PySem.Str.ofString "=D4") 1053) :: (PySem.Value.str (PySem.Str.ofString "=D5") 1057) :: (PySem.Value.str (PySem.Str.ofString "=D6") 1061) :: (PySem.Value.str (PySem.Str.ofString "=D7") 1065) :: (PySem.Value.str (PySem.Str.ofString "=D8") 1069) :: (PySem.Value.str (PySem.Str.ofString "=D9") 1073) :: (PySem.Value.str (PySem.Str.ofString "=DA") 1077) :: (PySem.Value.str (PySem.Str.ofString "=DB") 1081) :: (PySem.Value.str (PySem.Str.ofString "=DC") 1085) :: (PySem.Value.str (PySem.Str.ofString "=DD") 1089) :: (PySem.Value.str (PySem.Str.ofString "=DE") 1093) :: (PySem.Value.str (PySem.Str.ofString "=DF") 1097) :: (PySem.Value.str (PySem.Str.ofString "=E0") 1101) :: (PySem.Value.str (PySem.Str.ofString "=E1") 1105) :: (PySem.Value.str (PySem.Str.ofString "=E2") 1109) :: (PySem.Value.str (PySem.Str.ofString "=E3") 1113) :: (PySem.Value.str (PySem.Str.ofString "=E4") 1117) :: (PySem.Value.str (PySem.Str.ofString "=E5") 1121) :: (PySem.Value.str (PySem.Str.ofString "=E6") 1125) :: (PySem.Value.str (PySem.Str.ofString "=E7") 1129) :: (PySem.Value.str (PySem.Str.ofString "=E8") 1133) :: (PySem.Value.str (PySem.Str.ofString "=E9") 1137) :: (PySem.Value.str (PySem.Str.ofString "=EA") 1141) :: (PySem.Value.str (PySem.Str.ofString "=EB") 1145) :: (PySem.Value.str (PySem.Str.ofString "=EC") 1149) :: (PySem.Value.str (PySem.Str.ofString "=ED") 1153) :: (PySem.Value.str (PySem.Str.ofString "=EE") 1157) :: (PySem.Value.str (PySem.Str.ofString "=EF") 1161) :: (PySem.Value.str (PySem.Str.ofString "=F0") 1165) :: (PySem.Value.str (PySem.Str.ofString "=F1") 1169) :: (PySem.Value.str (PySem.Str.ofString "=F2") 1173) :: (PySem.Value.str (PySem.Str.ofString "=F3") 1177) :: (PySem.Value.str (PySem.Str.ofString "=F4") 1181) :: (PySem.Value.str (PySem.Str.ofString "=F5") 1185) :: (PySem.Value.str (PySem.Str.ofString "=F6") 1189) :: (PySem.Value.str (PySem.Str.ofString "=F7") 1193) :: (PySem.Value.str (PySem.Str.ofString "=F8") 1197) :: (PySem.Value.str (PySem.Str.ofString "=F9") 1201) :: (PySem.Value.str (PySem.Str.ofString "=FA") 1205) :: (PySem.Value.str (PySem.Str.ofString "=FB") 1209) :: (PySem.Value.str (PySem.Str.ofString "=FC") 1213) :: (PySem.Value.str (PySem.Str.ofString "=FD") 1217) :: (PySem.Value.str (PySem.Str.ofString "=FE") 1221) :: (PySem.Value.str (PySem.Str.ofString "=FF") 1225) :: [])) 256) #[])) :: (nat_lit 29, (PySem.Obj.mk (PySem.Value.type "list") none (PySem.Data.seq (List.toArray ((PySem.Value.str (PySem.Str.ofString "=00") 205) :: (PySem.Value.str (PySem.Str.ofString "=01") 209) :: (PySem.Value.str (PySem.Str.ofString "=02") 213) :: (PySem.Value.str (PySem.Str.ofString "=03") 217) :: (PySem.Value.str (PySem.Str.ofString "=04") 221) :: (PySem.Value.str (PySem.Str.ofString "=05") 225) :: (PySem.Value.str (PySem.Str.ofString "=06") 229) :: (PySem.Value.str (PySem.Str.ofString "=07") 233) :: (PySem.Value.str (PySem.Str.ofString "=08") 237) :: (PySem.Value.str (PySem.Str.ofString "=09") 241) :: (PySem.Value.str (PySem.Str.ofString "=0A") 245) :: (PySem.Value.str (PySem.Str.ofString "=0B") 249) :: (PySem.Value.str (PySem.Str.ofString "=0C") 253) :: (PySem.Value.str (PySem.Str.ofString "=0D") 257) :: (PySem.Value.str (PySem.Str.ofString "=0E") 261) :: (PySem.Value.str (PySem.Str.ofString "=0F") 265) :: (PySem.Value.str (PySem.Str.ofString "=10") 269) :: (PySem.Value.str (PySem.Str.ofString "=11") 273) :: (PySem.Value.str (PySem.Str.ofString "=12") 277) :: (PySem.Value.str (PySem.Str.ofString "=13") 281) :: (PySem.Value.str (PySem.Str.ofString "=14") 285) :: (PySem.Value.str (PySem.Str.ofString "=15") 289) :: (PySem.Value.str (PySem.Str.ofString "=16") 293) :: (PySem.Value.str (PySem.Str.ofString "=17") 297) :: (PySem.Value.str (PySem.Str.ofString "=18") 301) :: (PySem.Value.str (PySem.Str.ofString "=19") 305) :: (PySem.Value.str (PySem.Str.ofString "=1A") 309) :: (PySem.Value.str (PySem.Str.ofString "=1B") 313) :: (PySem.Value.str (PySem.Str.ofString "=1C") 317) :: (PySem.Value.str (PySem.Str.ofString "=1D") 321) :: (PySem.Value.str (PySem.Str.ofString "=1E") 325) :: (PySem.Value.str (PySem.Str.ofString "=1F") 329) :: (PySem.Value.str (PySem.Str.ofString "_") 1452) :: (PySem.Value.str (PySem.Str.ofString "!") 1256) :: (PySem.Value.str (PySem.Str.ofString "=22") 341) :: (PySem.Value.str (PySem.Str.ofString "=23") 345) :: (PySem.Value.str (PySem.Str.ofString "=24") 349) :: (PySem.Value.str (PySem.Str.ofString "=25") 353) :: (PySem.Value.str (PySem.Str.ofString "=26") 357) :: (PySem.Value.str (PySem.Str.ofString "=27") 361) :: (PySem.Value.str (PySem.Str.ofString "=28") 365) :: (PySem.Value.str (PySem.Str.ofString "=29") 369) :: (PySem.Value.str (PySem.Str.ofString "*") 1259) :: (PySem.Value.str (PySem.Str.ofString "+") 1262) :: (PySem.Value.str (PySem.Str.ofString "=2C") 381) :: (PySem.Value.str (PySem.Str.ofString "-") 1253) :: (PySem.Value.str (PySem.Str.ofString "=2E") 389) :: (PySem.Value.str (PySem.Str.ofString "/") 1265) :: (PySem.Value.str (PySem.Str.ofString "0") 1424) :: (PySem.Value.str (PySem.Str.ofString "1") 1427) :: (PySem.Value.str (PySem.Str.ofString "2") 1430) :: (PySem.Value.str (PySem.Str.ofString "3") 1433) :: (PySem.Value.str (PySem.Str.ofString "4") 1436) :: (PySem.Value.str (PySem.Str.ofString "5") 1439) :: (PySem.Value.str (PySem.Str.ofString "6") 1442) :: (PySem.Value.str (PySem.Str.ofString "7") 1445) :: (PySem.Value.str (PySem.Str.ofString "8") 1448) :: (PySem.Value.str (PySem.Str.ofString "9") 1451) :: (PySem.Value.str (PySem.Str.ofString "=3A") 437) :: (PySem.Value.str (PySem.Str.ofString "=3B") 441) :: (PySem.Value.str (PySem.Str.ofString "=3C") 445) :: (PySem.Value.str (PySem.Str.ofString "=3D") 449) :: (PySem.Value.str (PySem.Str.ofString "=3E") 453) :: (PySem.Value.str (PySem.Str.ofString "=3F") 457) :: (PySem.Value.str (PySem.Str.ofString "=40") 461) :: (PySem.Value.str (PySem.Str.ofString "A") 1346) :: (PySem.Value.str (PySem.Str.ofString "B") 1349) :: (PySem.Value.str (PySem.Str.ofString "C") 1352) :: (PySem.Value.str (PySem.Str.ofString "D") 1355) :: (PySem.Value.str (PySem.Str.ofString "E") 1358) :: (PySem.Value.str (PySem.Str.ofString "F") 1361) :: (PySem.Value.str (PySem.Str.ofString "G") 1364) :: (PySem.Value.str (PySem.Str.ofString "H") 1367) :: (PySem.Value.str (PySem.Str.ofString "I") 1370) :: (PySem.Value.str (PySem.Str.ofString "J") 1373) :: (PySem.Value.str (PySem.Str.ofString "K") 1376) :: (PySem.Value.str (PySem.Str.ofString "L") 1379) :: (PySem.Value.str (PySem.Str.ofString "M") 1382) :: (PySem.Value.str (PySem.Str.ofString "N") 1385) :: (PySem.Value.str (PySem.Str.ofString "O") 1388) :: (PySem.Value.str (PySem.Str.ofString "P") 1391) :: (PySem.Value.str (PySem.Str.ofString "Q") 1394) :: (PySem.Value.str (PySem.Str.ofString "R") 1397) :: (PySem.Value.str (PySem.Str.ofString "S") 1400) :: (PySem.Value.str (PySem.Str.ofString "T") 1403) :: (PySem.Value.str (PySem.Str.ofString "U") 1406) :: (PySem.Value.str (PySem.Str.ofString "V") 1409) :: (PySem.Value.str (PySem.Str.ofString "W") 1412) :: (PySem.Value.str (PySem.Str.ofString "X") 1415) :: (PySem.Value.str (PySem.Str.ofString "Y") 1418) :: (PySem.Value.str (PySem.Str.ofString "Z") 1421) :: (PySem.Value.str (PySem.Str.ofString "=5B") 569) :: (PySem.Value.str (PySem.Str.ofString "=5C") 573) :: (PySem.Value.str (PySem.Str.ofString "=5D") 577) :: (PySem.Value.str (PySem.Str.ofString "=5E") 581) :: (PySem.Value.str (PySem.Str.ofString "=5F") 585) :: (PySem.Value.str (PySem.Str.ofString "=60") 589) :: (PySem.Value.str (PySem.Str.ofString "a") 1268) :: (PySem.Value.str (PySem.Str.ofString "b") 1271) :: (PySem.Value.str (PySem.Str.ofString "c") 1274) :: (PySem.Value.str (PySem.Str.ofString "d") 1277) :: (PySem.Value.str (PySem.Str.ofString "e") 1280) :: (PySem.Value.str (PySem.Str.ofString "f") 1283) :: (PySem.Value.str (PySem.Str.ofString "g") 1286) :: (PySem.Value.str (PySem.Str.ofString "h") 1289) :: (PySem.Value.str (PySem.Str.ofString "i") 1292) :: (PySem.Value.str (PySem.Str.ofString "j") 1295) :: (PySem.Value.str (PySem.Str.ofString "k") 1298) :: (PySem.Value.str (PySem.Str.ofString "l") 1301) :: (PySem.Value.str (PySem.Str.ofString "m") 1304) :: (PySem.Value.str (PySem.Str.ofString "n") 1307) :: (PySem.Value.str (PySem.Str.ofString "o") 1310) :: (PySem.Value.str (PySem.Str.ofString "p") 1313) :: (PySem.Value.str (PySem.Str.ofString "q") 1316) :: (PySem.Value.str (PySem.Str.ofString "r") 1319) :: (PySem.Value.str (PySem.Str.ofString "s") 1322) :: (PySem.Value.str (PySem.Str.ofString "t") 1325) :: (PySem.Value.str (PySem.Str.ofString "u") 1328) :: (PySem.Value.str (PySem.Str.ofString "v") 1331) :: (PySem.Value.str (PySem.Str.ofString "w") 1334) :: (PySem.Value.str (PySem.Str.ofString "x") 1337) :: (PySem.Value.str (PySem.Str.ofString "y") 1340) :: (PySem.Value.str (PySem.Str.ofString "z") 1343) :: (PySem.Value.str (PySem.Str.ofString "=7B") 697) :: (PySem.Value.str (PySem.Str.ofString "=7C") 701) :: (PySem.Value.str (PySem.Str.ofString "=7D") 705) :: (PySem.Value.str (PySem.Str.ofString "=7E") 709) :: (PySem.Value.str (PySem.Str.ofString "=7F") 713) :: (PySem.Value.str (PySem.Str.ofString "=80") 717) :: (PySem.Value.str (PySem.Str.ofString "=81") 721) :: (PySem.Value.str (PySem.Str.ofString "=82") 725) :: (PySem.Value.str (PySem.Str.ofString "=83") 729) :: (PySem.Value.str (PySem.Str.ofString "=84") 733) :: (PySem.Value.str (PySem.Str.ofString "=85") 737) :: (PySem.Value.str (PySem.Str.ofString "=86") 741) :: (PySem.Value.str (PySem.Str.ofString "=87") 745) :: (PySem.Value.str (PySem.Str.ofString "=88") 749) :: (PySem.Value.str (PySem.Str.ofString "=89") 753) :: (PySem.Value.str (PySem.Str.ofString "=8A") 757) :: (PySem.Value.str (PySem.Str.ofString "=8B") 761) :: (PySem.Value.str (PySem.Str.ofString "=8C") 765) :: (PySem.Value.str (PySem.Str.ofString "=8D") 769) :: (PySem.Value.str (PySem.Str.ofString "=8E") 773) :: (PySem.Value.str (PySem.Str.ofString "=8F") 777) :: (PySem.Value.str (PySem.Str.ofString "=90") 781) :: (PySem.Value.str (PySem.Str.ofString "=91") 785) :: (PySem.Value.str (PySem.Str.ofString "=92") 789) :: (PySem.Value.str (PySem.Str.ofString "=93") 793) :: (PySem.Value.str (PySem.Str.ofString "=94") 797) :: (PySem.Value.str (PySem.Str.ofString "=95") 801) :: (PySem.Value.str (PySem.Str.ofString "=96") 805) :: (PySem.Value.str (PySem.Str.ofString "=97") 809) :: (PySem.Value.str (PySem.Str.ofString "=98") 813) :: (PySem.Value.str (PySem.Str.ofString "=99") 817) :: (PySem.Value.str (PySem.Str.ofString "=9A") 821) :: (PySem.Value.str (PySem.Str.ofString "=9B") 825) :: (PySem.Value.str (PySem.Str.ofString "=9C") 829) :: (PySem.Value.str (PySem.Str.ofString "=9D") 833) :: (PySem.Value.str (PySem.Str.ofString "=9E") 837) :: (PySem.Value.str (PySem.Str.ofString "=9F") 841) :: (PySem.Value.str (PySem.Str.ofString "=A0") 845) :: (PySem.Value.str (PySem.Str.ofString "=A1") 849) :: (PySem.Value.str (PySem.Str.ofString "=A2") 853) :: (PySem.Value.str (PySem.Str.ofString "=A3") 857) :: (PySem.Value.str (PySem.Str.ofString "=A4") 861) :: (PySem.Value.str (PySem.Str.ofString "=A5") 865) :: (PySem.Value.str (PySem.Str.ofString "=A6") 869) :: (PySem.Value.str (PySem.Str.ofString "=A7") 873) :: (PySem.Value.str (PySem.Str.ofString "=A8") 877) :: (PySem.Value.str (PySem.Str.ofString "=A9") 881) :: (PySem.Value.str (PySem.Str.ofString "=AA") 885) :: (PySem.Value.str (PySem.Str.ofString "=AB") 889) :: (PySem.Value.str (PySem.Str.ofString "=AC") 893) :: (PySem.Value.str (PySem.Str.ofString "=AD") 897) :: (PySem.Value.str (PySem.Str.ofString "=AE") 901) :: (PySem.Value.str (PySem.Str.ofString "=AF") 905) :: (PySem.Value.str (PySem.Str.ofString "=B0") 909) :: (PySem.Value.str (PySem.Str.ofString "=B1") 913) :: (PySem.Value.str (PySem.Str.ofString "=B2") 917) :: (PySem.Value.str (PySem.Str.ofString "=B3") 921) :: (PySem.Value.str (PySem.Str.ofString "=B4") 925) :: (PySem.Value.str (PySem.Str.ofString "=B5") 929) :: (PySem.Value.str (PySem.Str.ofString "=B6") 933) :: (PySem.Value.str (PySem.Str.ofString "=B7") 937) :: (PySem.Value.str (PySem.Str.ofString "=B8") 941) :: (PySem.Value.str (PySem.Str.ofString "=B9") 945) :: (PySem.Value.str (PySem.Str.ofString "=BA") 949) :: (PySem.Value.str (PySem.Str.ofString "=BB") 953) :: (PySem.Value.str (PySem.Str.ofString "=BC") 957) :: (PySem.Value.str (PySem.Str.ofString "=BD") 961) :: (PySem.Value.str (PySem.Str.ofString "=BE") 965) :: (PySem.Value.str (PySem.Str.ofString "=BF") 969) :: (PySem.Value.str (PySem.Str.ofString "=C0") 973) :: (PySem.Value.str (PySem.Str.ofString "=C1") 977) :: (PySem.Value.str (PySem.Str.ofString "=C2") 981) :: (PySem.Value.str (PySem.Str.ofString "=C3") 985) :: (PySem.Value.str (PySem.Str.ofString "=C4") 989) :: (PySem.Value.str (PySem.Str.ofString "=C5") 993) :: (PySem.Value.str (PySem.Str.ofString "=C6") 997) :: (PySem.Value.str (PySem.Str.ofString "=C7") 1001) :: (PySem.Value.str (PySem.Str.ofString "=C8") 1005) :: (PySem.Value.str (PySem.Str.ofString "=C9") 1009) :: (PySem.Value.str (PySem.Str.ofString "=CA") 1013) :: (PySem.Value.str (PySem.Str.ofString "=CB") 1017) :: (PySem.Value.str (PySem.Str.ofString "=CC") 1021) :: (PySem.Value.str (PySem.Str.ofString "=CD") 1025) :: (PySem.Value.str (PySem.Str.ofString "=CE") 1029) :: (PySem.Value.str (PySem.Str.ofString "=CF") 1033) :: (PySem.Value.str (PySem.Str.ofString "=D0") 1037) :: (PySem.Value.str (PySem.Str.ofString "=D1") 1041) :: (PySem.Value.str (PySem.Str.ofString "=D2") 1045) :: (PySem.Value.str (PySem.Str.ofString "=D3") 1049) :: (PySem.Value.str (PySem.Str.ofString "=D4") 1053) :: (PySem.Value.str (PySem.Str.ofString "=D5") 1057) :: (PySem.Value.str (PySem.Str.ofString "=D6") 1061) :: (PySem.Value.str (PySem.Str.ofString "=D7") 1065) :: (PySem.Value.str (PySem.Str.ofString "=D8") 1069) :: (PySem.Value.str (PySem.Str.ofString "=D9") 1073) :: (PySem.Value.str (PySem.Str.ofString "=DA") 1077) :: (PySem.Value.str (PySem.Str.ofString "=DB") 1081) :: (PySem.Value.str (PySem.Str.ofString "=DC") 1085) :: (PySem.Value.str (PySem.Str.ofString "=DD") 1089) :: (PySem.Value.str (PySem.Str.ofString "=DE") 1093) :: (PySem.Value.str (PySem.Str.ofString "=DF") 1097) :: (PySem.Value.str (PySem.Str.ofString "=E0") 1101) :: (PySem.Value.str (PySem.Str.ofString "=E1") 1105) :: (PySem.Value.str (PySem.Str.ofString "=E2") 1109) :: (PySem.Value.str (PySem.Str.ofString "=E3") 1113) :: (PySem.Value.str (PySem.Str.ofString "=E4") 1117) :: (PySem.Value.str (PySem.Str.ofString "=E5") 1121) :: (PySem.Value.str (PySem.Str.ofString "=E6") 1125) :: (PySem.Value.str (PySem.Str.ofString "=E7") 1129) :: (PySem.Value.str (PySem.Str.ofString "=E8") 1133) :: (PySem.Value.str (PySem.Str.ofString "=E9") 1137) :: (PySem.Value.str (PySem.Str.ofString "=EA") 1141) :: (PySem.Value.str (PySem.Str.ofString "=EB") 1145) :: (PySem.Value.str (PySem.Str.ofString "=EC") 1149) :: (PySem.Value.str (PySem.Str.ofString "=ED") 1153) :: (PySem.Value.str (PySem.Str.ofString "=EE") 1157) :: (PySem.Value.str (PySem.Str.ofString "=EF") 1161) :: (PySem.Value.str (PySem.Str.ofString "=F0") 1165) :: (PySem.Value.str (PySem.Str.ofString "=F1") 1169) :: (PySem.Value.str (PySem.Str.ofString "=F2") 1173) :: (PySem.Value.str (PySem.Str.ofString "=F3") 1177) :: (PySem.Value.str (PySem.Str.ofString "=F4") 1181) :: (PySem.Value.str (PySem.Str.ofString "=F5") 1185) :: (PySem.Value.str (PySem.Str.ofString "=F6") 1189) :: (PySem.Value.str (PySem.Str.ofString "=F7") 1193) :: (PySem.Value.str (PySem.Str.ofString "=F8") 1197) :: (PySem.Value.str (PySem.Str.ofString "=F9") 1201) :: (PySem.Value.str (PySem.Str.ofString "=FA") 1205) :: (PySem.Value.str (PySem.Str.ofString "=FB") 1209) :: (PySem.Value.str (PySem.Str.ofString "=FC") 1213) :: (PySem.Value.str (PySem.Str.ofString "=FD") 1217) :: (PySem.Value.str (PySem.Str.ofString "=FE") 1221) :: (PySem.Value.str (PySem.Str.ofString "=FF") 1225) :: [])) 0) #[])) :: (nat_lit 31, (PySem.Obj.mk (PySem.Value.type "list") none (PySem.Data.seq (List.toArray ((PySem.Value.str (PySem.Str.ofString "=00") 205) :: (PySem.Value.str (PySem.Str.ofString "=01") 209) :: (PySem.Value.str (PySem.Str.ofString "=02") 213) :: (PySem.Value.str (PySem.Str.ofString "=03") 217) :: (PySem.Value.str (PySem.Str.ofString "=04") 221) :: (PySem.Value.str (PySem.Str.ofString "=05") 225) :: (PySem.Value.str (PySem.Str.ofString "=06") 229) :: (PySem.Value.str (PySem.Str.ofString "=07") 233) :: (PySem.Value.str (PySem.Str.ofString "=08") 237) :: (PySem.Value.str (PySem.Str.ofString "\t") 1740) :: (PySem.Value.str (PySem.Str.ofString "=0A") 245) :: (PySem.Value.str (PySem.Str.ofString "=0B") 249) :: (PySem.Value.str (PySem.Str.ofString "=0C") 253) :: (PySem.Value.str (PySem.Str.ofString "=0D") 257) :: (PySem.Value.str (PySem.Str.ofString "=0E") 261) :: (PySem.Value.str (PySem.Str.ofString "=0F") 265) :: (PySem.Value.str (PySem.Str.ofString "=10") 269) :: (PySem.Value.str (PySem.Str.ofString "=11") 273) :: (PySem.Value.str (PySem.Str.ofString "=12") 277) :: (PySem.Value.str (PySem.Str.ofString "=13") 281) :: (PySem.Value.str (PySem.Str.ofString "=14") 285) :: (PySem.Value.str (PySem.Str.ofString "=15") 289) :: (PySem.Value.str (PySem.Str.ofString "=16") 293) :: (PySem.Value.str (PySem.Str.ofString "=17") 297) :: (PySem.Value.str (PySem.Str.ofString "=18") 301) :: (PySem.Value.str (PySem.Str.ofString "=19") 305) :: (PySem.Value.str (PySem.Str.ofString "=1A") 309) :: (PySem.Value.str (PySem.Str.ofString "=1B") 313) :: (PySem.Value.str (PySem.Str.ofString "=1C") 317) :: (PySem.Value.str (PySem.Str.ofString "=1D") 321) :: (PySem.Value.str (PySem.Str.ofString "=1E") 325) :: (PySem.Value.str (PySem.Str.ofString "=1F") 329) :: (PySem.Value.str (PySem.Str.ofString " ") 1458) :: (PySem.Value.str (PySem.Str.ofString "!") 1461) :: (PySem.Value.str (PySem.Str.ofString "\"") 1464) :: (PySem.Value.str (PySem.Str.ofString "#") 1467) :: (PySem.Value.str (PySem.Str.ofString "$") 1470) :: (PySem.Value.str (PySem.Str.ofString "%") 1473) :: (PySem.Value.str (PySem.Str.ofString "&") 1476) :: (PySem.Value.str (PySem.Str.ofString "'") 1479) :: (PySem.Value.str (PySem.Str.ofString "(") 1482) :: (PySem.Value.str (PySem.Str.ofString ")") 1485) :: (PySem.Value.str (PySem.Str.ofString "*") 1488) :: (PySem.Value.str (PySem.Str.ofString "+") 1491) :: (PySem.Value.str (PySem.Str.ofString ",") 1494) :: (PySem.Value.str (PySem.Str.ofString "-") 1497) :: (PySem.Value.str (PySem.Str.ofString ".") 1500) :: (PySem.Value.str (PySem.Str.ofString "/") 1503) :: (PySem.Value.str (PySem.Str.ofString "0") 1506) :: (PySem.Value.str (PySem.Str.ofString "1") 1509) :: (PySem.Value.str (PySem.Str.ofString "2") 1512) :: (PySem.Value.str (PySem.Str.ofString "3") 1515) :: (PySem.Value.str (PySem.Str.ofString "4") 1518) :: (PySem.Value.str (PySem.Str.ofString "5") 1521) :: (PySem.Value.str (PySem.Str.ofString "6") 1524) :: (PySem.Value.str (PySem.Str.ofString "7") 1527) :: (PySem.Value.str (PySem.Str.ofString "8") 1530) :: (PySem.Value.str (PySem.Str.ofString "9") 1533) :: (PySem.Value.str (PySem.Str.ofString ":") 1536) :: (PySem.Value.str (PySem.Str.ofString ";") 1539) :: (PySem.Value.str (PySem.Str.ofString "<") 1542) :: (PySem.Value.str (PySem.Str.ofString "=3D") 449) :: (PySem.Value.str (PySem.Str.ofString ">") 1545) :: (PySem.Value.str (PySem.Str.ofString "?") 1548) :: (PySem.Value.str (PySem.Str.ofString "@") 1551) :: (PySem.Value.str (PySem.Str.ofString "A") 1554) :: (PySem.Value.str (PySem.Str.ofString "B") 1557) :: (PySem.Value.str (PySem.Str.ofString "C") 1560) :: (PySem.Value.str (PySem.Str.ofString "D") 1563) :: (PySem.Value.str (PySem.Str.ofString "E") 1566) :: (PySem.Value.str (PySem.Str.ofString "F") 1569) :: (PySem.Value.str (PySem.Str.ofString "G") 1572) :: (PySem.Value.str (PySem.Str.ofString "H") 1575) :: (PySem.Value.str (PySem.Str.ofString "I") 1578) :: (PySem.Value.str (PySem.Str.ofString "J") 1581) :: (PySem.Value.str (PySem.Str.ofString "K") 1584) :: (PySem.Value.str (PySem.Str.ofString "L") 1587) :: (PySem.Value.str (PySem.Str.ofString "M") 1590) :: (PySem.Value.str (PySem.Str.ofString "N") 1593) :: (PySem.Value.str (PySem.Str.ofString "O") 1596) :: (PySem.Value.str (PySem.Str.ofString "P") 1599) :: (PySem.Value.str (PySem.Str.ofString "Q") 1602) :: (PySem.Value.str (PySem.Str.ofString "R") 1605) :: (PySem.Value.str (PySem.Str.ofString "S") 1608) :: (PySem.Value.str (PySem.Str.ofString "T") 1611) :: (PySem.Value.str (PySem.Str.ofString "U") 1614) :: (PySem.Value.str (PySem.Str.ofString "V") 1617) :: (PySem.Value.str (PySem.Str.ofString "W") 1620) :: (PySem.Value.str (PySem.Str.ofString "X") 1623) :: (PySem.Value.str (PySem.Str.ofString "Y") 1626) :: (PySem.Value.str (PySem.Str.ofString "Z") 1629) :: (PySem.Value.str (PySem.Str.ofString "[") 1632) :: (PySem.Value.str (PySem.Str.ofString "\\") 1635) :: (PySem.Value.str (PySem.Str.ofString "]") 1638) :: (PySem.Value.str (PySem.Str.ofString "^") 1641) :: (PySem.Value.str (PySem.Str.ofString "_") 1644) :: (PySem.Value.str (PySem.Str.ofString "`") 1647) :: (PySem.Value.str (PySem.Str.ofString "a") 1650) :: (PySem.Value.str (PySem.Str.ofString "b") 1653) :: (PySem.Value.str (PySem.Str.ofString "c") 1656) :: (PySem.Value.str (PySem.Str.ofString "d") 1659) :: (PySem.Value.str (PySem.Str.ofString "e") 1662) :: (PySem.Value.str (PySem.Str.ofString "f") 1665) :: (PySem.Value.str (PySem.Str.ofString "g") 1668) :: (PySem.Value.str (PySem.Str.ofString "h") 1671) :: (PySem.Value.str (PySem.Str.ofString "i") 1674) :: (PySem.Value.str (PySem.Str.ofString "j") 1677) :: (PySem.Value.str (PySem.Str.ofString "k") 1680) :: (PySem.Value.str (PySem.Str.ofString "l") 1683) :: (PySem.Value.str (PySem.Str.ofString "m") 1686) :: (PySem.Value.str (PySem.Str.ofString "n") 1689) :: (PySem.Value.str (PySem.Str.ofString "o") 1692) :: (PySem.Value.str (PySem.Str.ofString "p") 1695) :: (PySem.Value.str (PySem.Str.ofString "q") 1698) :: (PySem.Value.str (PySem.Str.ofString "r") 1701) :: (PySem.Value.str (PySem.Str.ofString "s") 1704) :: (PySem.Value.str (PySem.Str.ofString "t") 1707) :: (PySem.Value.str (PySem.Str.ofString "u") 1710) :: (PySem.Value.str (PySem.Str.ofString "v") 1713) :: (PySem.Value.str (PySem.Str.ofString "w") 1716) :: (PySem.Value.str (PySem.Str.ofString "x") 1719) :: (PySem.Value.str (PySem.Str.ofString "y") 1722) :: (PySem.Value.str (PySem.Str.ofString "z") 1725) :: (PySem.Value.str (PySem.Str.ofString "{") 1728) :: (PySem.Value.str (PySem.Str.ofString "|") 1731) :: (PySem.Value.str (PySem.Str.ofString "}") 1734) :: (PySem.Value.str (PySem.Str.ofString "~") 1737) :: (PySem.Value.str (PySem.Str.ofString "=7F") 713) :: (PySem.Value.str (PySem.Str.ofString "=80") 717) :: (PySem.Value.str (PySem.Str.ofString "=81") 721) :: (PySem.Value.str (PySem.Str.ofString "=82") 725) :: (PySem.Value.str (PySem.Str.ofString "=83") 729) :: (PySem.Value.str (PySem.Str.ofString "=84") 733) :: (PySem.Value.str (PySem.Str.ofString "=85") 737) :: (PySem.Value.str (PySem.Str.ofString "=86") 741) :: (PySem.Value.str (PySem.Str.ofString "=87") 745) :: (PySem.Value.str (PySem.Str.ofString "=88") 749) :: (PySem.Value.str (PySem.Str.ofString "=89") 753) :: (PySem.Value.str (PySem.Str.ofString "=8A") 757) :: (PySem.Value.str (PySem.Str.ofString "=8B") 761) :: (PySem.Value.str (PySem.Str.ofString "=8C") 765) :: (PySem.Value.str (PySem.Str.ofString "=8D") 769) :: (PySem.Value.str (PySem.Str.ofString "=8E") 773) :: (PySem.Value.str (PySem.Str.ofString "=8F") 777) :: (PySem.Value.str (PySem.Str.ofString "=90") 781) :: (PySem.Value.str (PySem.Str.ofString "=91") 785) :: (PySem.Value.str (PySem.Str.ofString "=92") 789) :: (PySem.Value.str (PySem.Str.ofString "=93") 793) :: (PySem.Value.str (PySem.Str.ofString "=94") 797) :: (PySem.Value.str (PySem.Str.ofString "=95") 801) :: (PySem.Value.str (PySem.Str.ofString "=96") 805) :: (PySem.Value.str (PySem.Str.ofString "=97") 809) :: (PySem.Value.str (PySem.Str.ofString "=98") 813) :: (PySem.Value.str (PySem.Str.ofString "=99") 817) :: (PySem.Value.str (PySem.Str.ofString "=9A") 821) :: (PySem.Value.str (PySem.Str.ofString "=9B") 825) :: (PySem.Value.str (PySem.Str.ofString "=9C") 829) :: (PySem.Value.str (PySem.Str.ofString "=9D") 833) :: (PySem.Value.str (PySem.Str.ofString "=9E") 837) :: (PySem.Value.str (PySem.Str.ofString "=9F") 841) :: (PySem.Value.str (PySem.Str.ofString "=A0") 845) :: (PySem.Value.str (PySem.Str.ofString "=A1") 849) :: (PySem.Value.str (PySem.Str.ofString "=A2") 853) :: (PySem.Value.str (PySem.Str.ofString "=A3") 857) :: (PySem.Value.str (PySem.Str.ofString "=A4") 861) :: (PySem.Value.str (PySem.Str.ofString "=A5") 865) :: (PySem.Value.str (PySem.Str.ofString "=A6") 869) :: (PySem.Value.str (PySem.Str.ofString "=A7") 873) :: (PySem.Value.str (PySem.Str.ofString "=A8") 877) :: (PySem.Value.str (PySem.Str.ofString "=A9") 881) :: (PySem.Value.str (PySem.Str.ofString "=AA") 885) :: (PySem.Value.str (PySem.Str.ofString "=AB") 889) :: (PySem.Value.str (PySem.Str.ofString "=AC") 893) :: (PySem.Value.str (PySem.Str.ofString "=AD") 897) :: (PySem.Value.str (PySem.Str.ofString "=AE") 901) :: (PySem.Value.str (PySem.Str.ofString "=AF") 905) :: (PySem.Value.str (PySem.Str.ofString "=B0") 909) :: (PySem.Value.str (PySem.Str.ofString "=B1") 913) :: (PySem.Value.str (PySem.Str.ofString "=B2") 917) :: (PySem.Value.str (PySem.Str.ofString "=B3") 921) :: (PySem.Value.str (PySem.Str.ofString "=B4") 925) :: (PySem.Value.str (PySem.Str.ofString "=B5") 929) :: (PySem.Value.str (PySem.Str.ofString "=B6") 933) :: (PySem.Value.str (PySem.Str.ofString "=B7") 937) :: (PySem.Value.str (PySem.Str.ofString "=B8") 941) :: (PySem.Value.str (PySem.Str.ofString "=B9") 945) :: (PySem.Value.str (PySem.Str.ofString "=BA") 949) :: (PySem.Value.str (PySem.Str.ofString "=BB") 953) :: (PySem.Value.str (PySem.Str.ofString "=BC") 957) :: (PySem.Value.str (PySem.Str.ofString "=BD") 961) :: (PySem.Value.str (PySem.Str.ofString "=BE") 965) :: (PySem.Value.str (PySem.Str.ofString "=BF") 969) :: (PySem.Value.str (PySem.Str.ofString "=C0") 973) :: (PySem.Value.str (PySem.Str.ofString "=C1") 977) :: (PySem.Value.str (PySem.Str.ofString "=C2") 981) :: (PySem.Value.str (PySem.Str.ofString "=C3") 985) :: (PySem.Value.str (PySem.Str.ofString "=C4") 989) :: (PySem.Value.str (PySem.Str.ofString "=C5") 993) :: (PySem.Value.str (PySem.Str.ofString "=C6") 997) :: (PySem.Value.str (PySem.Str.ofString "=C7") 1001) :: (PySem.Value.str (PySem.Str.ofString "=C8") 1005) :: (PySem.Value.str (PySem.Str.ofString "=C9") 1009) :: (PySem.Value.str (PySem.Str.ofString "=CA") 1013) :: (PySem.Value.str (PySem.Str.ofString "=CB") 1017) :: (PySem.Value.str (PySem.Str.ofString "=CC") 1021) :: (PySem.Value.str (PySem.Str.ofString "=CD") 1025) :: (PySem.Value.str (PySem.Str.ofString "=CE") 1029) :: (PySem.Value.str (PySem.Str.ofString "=CF") 1033) :: (PySem.Value.str (PySem.Str.ofString "=D0") 1037) :: (PySem.Value.str (PySem.Str.ofString "=D1") 1041) :: (PySem.Value.str (PySem.Str.ofString "=D2") 1045) :: (PySem.Value.str (PySem.Str.ofString "=D3") 1049) :: (PySem.Value.str (PySem.Str.ofString "=D4") 1053) :: (PySem.Value.str (PySem.Str.ofString "=D5") 1057) :: (PySem.Value.str (PySem.Str.ofString "=D6") 1061) :: (PySem.Value.str (PySem.Str.ofString "=D7") 1065) :: (PySem.Value.str (PySem.Str.ofString "=D8") 1069) :: (PySem.Value.str (PySem.Str.ofString "=D9") 1073) :: (PySem.Value.str (PySem.Str.ofString "=DA") 1077) :: (PySem.Value.str (PySem.Str.ofString "=DB") 1081) :: (PySem.Value.str (PySem.Str.ofString "=DC") 1085) :: (PySem.Value.str (PySem.Str.ofString "=DD") 1089) :: (PySem.Value.str (PySem.Str.ofString "=DE") 1093) :: (PySem.Value.str (PySem.Str.ofString "=DF") 1097) :: (PySem.Value.str (PySem.Str.ofString "=E0") 1101) :: (PySem.Value.str (PySem.Str.ofString "=E1") 1105) :: (PySem.Value.str (PySem.Str.ofString "=E2") 1109) :: (PySem.Value.str (PySem.Str.ofString "=E3") 1113) :: (PySem.Value.str (PySem.Str.ofString "=E4") 1117) :: (PySem.Value.str (PySem.Str.ofString "=E5") 1121) :: (PySem.Value.str (PySem.Str.ofString "=E6") 1125) :: (PySem.Value.str (PySem.Str.ofString "=E7") 1129) :: (PySem.Value.str (PySem.Str.ofString "=E8") 1133) :: (PySem.Value.str (PySem.Str.ofString "=E9") 1137) :: (PySem.Value.str (PySem.Str.ofString "=EA") 1141) :: (PySem.Value.str (PySem.Str.ofString "=EB") 1145) :: (PySem.Value.str (PySem.Str.ofString "=EC") 1149) :: (PySem.Value.str (PySem.Str.ofString "=ED") 1153) :: (PySem.Value.str (PySem.Str.ofString "=EE") 1157) :: (PySem.Value.str (PySem.Str.ofString "=EF") 1161) :: (PySem.Value.str (PySem.Str.ofString "=F0") 1165) :: (PySem.Value.str (PySem.Str.ofString "=F1") 1169) :: (PySem.Value.str (PySem.Str.ofString "=F2") 1173) :: (PySem.Value.str (PySem.Str.ofString "=F3") 1177) :: (PySem.Value.str (PySem.Str.ofString "=F4") 1181) :: (PySem.Value.str (PySem.Str.ofString "=F5") 1185) :: (PySem.Value.str (PySem.Str.ofString "=F6") 1189) :: (PySem.Value.str (PySem.Str.ofString "=F7") 1193) :: (PySem.Value.str (PySem.Str.ofString "=F8") 1197) :: (PySem.Value.str (PySem.Str.ofString "=F9") 1201) :: (PySem.Value.str (PySem.Str.ofString "=FA") 1205) :: (PySem.Value.str (PySem.Str.ofString "=FB") 1209) :: (PySem.Value.str (PySem.Str.ofString "=FC") 1213) :: (PySem.Value.str (PySem.Str.ofString "=FD") 1217) :: (PySem.Value.str (PySem.Str.ofString "=FE") 1221) :: (PySem.Value.str (PySem.Str.ofString "=FF") 1225) :: [])) 0) #[])) :: (nat_lit 38, (PySem.Obj.mk (PySem.Value.type "tuple") none (PySem.Data.seq #[] 0) #[])) :: (nat_lit 40, (PySem.Obj.mk (PySem.Value.type "tuple") none (PySem.Data.seq #[(PySem.Value.str (PySem.Str.ofString "s") 1744)] 0) #[])) :: (nat_lit 41, (PySem.Obj.mk (PySem.Value.type "tuple") none (PySem.Data.seq #[] 0) #[])) :: (nat_lit 43, (PySem.Obj.mk (PySem.Value.type "code") none (PySem.Data.fields #[(PySem.Value.str (PySem.Str.ofString "unquote") 1741), (PySem.Value.str (PySem.Str.ofString "unquote") 1742), (PySem.Value.str (PySem.Str.ofString "/claim/cut.py") 1743), (PySem.Value.int (@OfNat.ofNat.{0} @Int 22 (@instOfNat 22)) 0), (PySem.Value.int (@OfNat.ofNat.{0} @Int 1 (@instOfNat 1)) 0), (PySem.Value.int (@OfNat.ofNat.{0} @Int 0 (@instOfNat 0)) 0), (PySem.Value.int (@OfNat.ofNat.{0} @Int 0 (@instOfNat 0)) 0), (PySem.Value.int (@OfNat.ofNat.{0} @Int 3 (@instOfNat 3)) 0), (PySem.Value.ref 38), (PySem.Value.bool Bool.true), (PySem.Value.int (@OfNat.ofNat.{0} @Int 181 (@instOfNat 181)) 0), (PySem.Value.ref 39), PySem.Value.none, (PySem.Value.ref 40), (PySem.Value.ref 41), (PySem.Value.ref 42), (PySem.Value.int (@OfNat.ofNat.{0} @Int 1745 (@instOfNat 1745)) 0), (PySem.Value.int (@OfNat.ofNat.{0} @Int 22 (@instOfNat 22)) 0), (PySem.Value.str (PySem.Str.ofString "/claim/cut.py") 1746)]) #[])) :: (nat_lit 44, (PySem.Obj.mk (PySem.Value.type "function") none (PySem.Data.func (PySem.FuncData.mk (PySem.Str.ofString "unquote") (PySem.Str.ofString "unquote") a15 (PySem.FuncBody.stmts b15) c15 3 [] PySem.Value.none PySem.Value.none PySem.Value.none (PySem.Value.str (PySem.Str.ofString "cpy313.email.quoprimime") 1242) none (PySem.Value.ref 43) PySem.Value.none 0)) #[])) :: (nat_lit 45, (PySem.Obj.mk (PySem.Value.type "tuple") none (PySem.Data.seq #[] 0) #[])) :: (nat_lit 47, (PySem.Obj.mk (PySem.Value.type "tuple") none (PySem.Data.seq #[(PySem.Value.str (PySem.Str.ofString "c") 1751)] 0) #[])) :: (nat_lit 48, (PySem.Obj.mk (PySem.Value.type "tuple") none (PySem.Data.seq #[] 0) #[])) :: (nat_lit 50, (PySem.Obj.mk (PySem.Value.type "code") none (PySem.Data.fields #[(PySem.Value.str (PySem.Str.ofString "quote") 1748), (PySem.Value.str (PySem.Str.ofString "quote") 1749), (PySem.Value.str (PySem.Str.ofString "/claim/cut.py") 1750), (PySem.Value.int (@OfNat.ofNat.{0} @Int 24 (@instOfNat 24)) 0), (PySem.Value.int (@OfNat.ofNat.{0} @Int 1 (@instOfNat 1)) 0), (PySem.Value.int (@OfNat.ofNat.{0} @Int 0 (@instOfNat 0)) 0), (PySem.Value.int (@OfNat.ofNat.{0} @Int 0 (@instOfNat 0)) 0), (PySem.Value.int (@OfNat.ofNat.{0} @Int 3 (@instOfNat 3)) 0), (PySem.Value.ref 45), (PySem.Value.bool Bool.true), (PySem.Value.int (@OfNat.ofNat.{0} @Int 181 (@instOfNat 181)) 0), (PySem.Value.ref 46), PySem.Value.none, (PySem.Value.ref 47), (PySem.Value.ref 48), (PySem.Value.ref 49), (PySem.Value.int (@OfNat.ofNat.{0} @Int 1752 (@instOfNat 1752)) 0), (PySem.Value.int (@OfNat.ofNat.{0} @Int 24 (@instOfNat 24)) 0), (PySem.Value.str (PySem.Str.ofString "/claim/cut.py") 1753)]) #[])) :: (nat_lit 51, (PySem.Obj.mk (PySem.Value.type "function") none (PySem.Data.func (PySem.FuncData.mk (PySem.Str.ofString "quote") (PySem.Str.ofString "quote") a16 (PySem.FuncBody.stmts b16) c16 3 [] PySem.Value.none PySem.Value.none PySem.Value.none (PySem.Value.str (PySem.Str.ofString "cpy313.email.quoprimime") 1242) none (PySem.Value.ref 50) PySem.Value.none 0)) #[])) :: (nat_lit 53, (PySem.Obj.mk (PySem.Value.type "list") none (PySem.Data.seq (List.toArray ((PySem.Value.str (PySem.Str.ofString "=00") 205) :: (PySem.Value.str (PySem.Str.ofString "=01") 209) :: (PySem.Value.str (PySem.Str.ofString "=02") 213) :: (PySem.Value.str (PySem.Str.ofString "=03") 217) :: (PySem.Value.str (PySem.Str.ofString "=04") 221) :: (PySem.Value.str (PySem.Str.ofString "=05") 225) :: (PySem.Value.str (PySem.Str.ofString "=06") 229) :: (PySem.Value.str (PySem.Str.ofString "=07") 233) :: (PySem.Value.str (PySem.Str.ofString "=08") 237) :: (PySem.Value.str (PySem.Str.ofString "\t") 1740) :: (PySem.Value.str (PySem.Str.ofString "\n") 1762) :: (PySem.Value.str (PySem.Str.ofString "=0B") 249) :: (PySem.Value.str (PySem.Str.ofString "=0C") 253) :: (PySem.Value.str (PySem.Str.ofString "\x0d") 1759) :: (PySem.Value.str (PySem.Str.ofString "=0E") 261) :: (PySem.Value.str (PySem.Str.ofString "=0F") 265) :: (PySem.Value.str (PySem.Str.ofString "=10") 269) :: (PySem.Value.str (PySem.Str.ofString "=11") 273) :: (PySem.Value.str (PySem.Str.ofString "=12") 277) :: (PySem.Value.str (PySem.Str.ofString "=13") 281) :: (PySem.Value.str (PySem.Str.ofString "=14") 285) :: (PySem.Value.str (PySem.Str.ofString "=15") 289) :: (PySem.Value.str (PySem.Str.ofString "=16") 293) :: (PySem.Value.str (PySem.Str.ofString "=17") 297) :: (PySem.Value.str (PySem.Str.ofString "=18") 301) :: (PySem.Value.str (PySem.Str.ofString "=19") 305) :: (PySem.Value.str (PySem.Str.ofString "=1A") 309) :: (PySem.Value.str (PySem.Str.ofString "=1B") 313) :: (PySem.Value.str (PySem.Str.ofString "=1C") 317) :: (PySem.Value.str (PySem.Str.ofString "=1D") 321) :: (PySem.Value.str (PySem.Str.ofString "=1E") 325) :: (PySem.Value.str (PySem.Str.ofString "=1F") 329) :: (PySem.Value.str (PySem.Str.ofString " ") 1458) :: (PySem.Value.str (PySem.Str.ofString "!") 1461) :: (PySem.Value.str (PySem.Str.ofString "\"") 1464) :: (PySem.Value.str (PySem.Str.ofString "#") 1467) :: (PySem.Value.str (PySem.Str.ofString "$") 1470) :: (PySem.Value.str (PySem.Str.ofString "%") 1473) :: (PySem.Value.str (PySem.Str.ofString "&") 1476) :: (PySem.Value.str (PySem.Str.ofString "'") 1479) :: (PySem.Value.str (PySem.Str.ofString "(") 1482) :: (PySem.Value.str (PySem.Str.ofString ")") 1485) :: (PySem.Value.str (PySem.Str.ofString "*") 1488) :: (PySem.Value.str (PySem.Str.ofString "+") 1491) :: (PySem.Value.str (PySem.Str.ofString ",") 1494) :: (PySem.Value.str (PySem.Str.ofString "-") 1497) :: (PySem.Value.str (PySem.Str.ofString ".") 1500) :: (PySem.Value.str (PySem.Str.ofString "/") 1503) :: (PySem.Value.str (PySem.Str.ofString "0") 1506) :: (PySem.Value.str (PySem.Str.ofString "1") 1509) :: (PySem.Value.str (PySem.Str.ofString "2") 1512) :: (PySem.Value.str (PySem.Str.ofString "3") 1515) :: (PySem.Value.str (PySem.Str.ofString "4") 1518) :: (PySem.Value.str (PySem.Str.ofString "5") 1521) :: (PySem.Value.str (PySem.Str.ofString "6") 1524) :: (PySem.Value.str (PySem.Str.ofString "7") 1527) :: (PySem.Value.str (PySem.Str.ofString "8") 1530) :: (PySem.Value.str (PySem.Str.ofString "9") 1533) :: (PySem.Value.str (PySem.Str.ofString ":") 1536) :: (PySem.Value.str (PySem.Str.ofString ";") 1539) :: (PySem.Value.str (PySem.Str.ofString "<") 1542) :: (PySem.Value.str (PySem.Str.ofString "=3D") 449) :: (PySem.Value.str (PySem.Str.ofString ">") 1545) :: (PySem.Value.str (PySem.Str.ofString "?") 1548) :: (PySem.Value.str (PySem.Str.ofString "@") 1551) :: (PySem.Value.str (PySem.Str.ofString "A") 1554) :: (PySem.Value.str (PySem.Str.ofString "B") 1557) :: (PySem.Value.str (PySem.Str.ofString "C") 1560) :: (PySem.Value.str (PySem.Str.ofString "D") 1563) :: (PySem.Value.str (PySem.Str.ofString "E") 1566) :: (PySem.Value.str (PySem.Str.ofString "F") 1569) :: (PySem.Value.str (PySem.Str.ofString "G") 1572) :: (PySem.Value.str (PySem.Str.ofString "H") 1575) :: (PySem.Value.str (PySem.Str.ofString "I") 1578) :: (PySem.Value.str (PySem.Str.ofString "J") 1581) :: (PySem.Value.str (PySem.Str.ofString "K") 1584) :: (PySem.Value.str (PySem.Str.ofString "L") 1587) :: (PySem.Value.str (PySem.Str.ofString "M") 1590) :: (PySem.Value.str (PySem.Str.ofString "N") 1593) :: (PySem.Value.str (PySem.Str.ofString "O") 1596) :: (PySem.Value.str (PySem.Str.ofString "P") 1599) :: (PySem.Value.str (PySem.Str.ofString "Q") 1602) :: (PySem.Value.str (PySem.Str.ofString "R") 1605) :: (PySem.Value.str (PySem.Str.ofString "S") 1608) :: (PySem.Value.str (PySem.Str.ofString "T") 1611) :: (PySem.Value.str (PySem.Str.ofString "U") 1614) :: (PySem.Value.str (PySem.Str.ofString "V") 1617) :: (PySem.Value.str (PySem.Str.ofString "W") 1620) :: (PySem.Value.str (PySem.Str.ofString "X") 1623) :: (PySem.Value.str (PySem.Str.ofString "Y") 1626) :: (PySem.Value.str (PySem.Str.ofString "Z") 1629) :: (PySem.Value.str (PySem.Str.ofString "[") 1632) :: (PySem.Value.str (PySem.Str.ofString "\\") 1635) :: (PySem.Value.str (PySem.Str.ofString "]") 1638) :: (PySem.Value.str (PySem.Str.ofString "^") 1641) :: (PySem.Value.str (PySem.Str.ofString "_") 1644) :: (PySem.Value.str (PySem.Str.ofString "`") 1647) :: (PySem.Value.str (PySem.Str.ofString "a") 1650) :: (PySem.Value.str (PySem.Str.ofString "b") 1653) :: (PySem.Value.str (PySem.Str.ofString "c") 1656) :: (PySem.Value.str (PySem.Str.ofString "d") 1659) :: (PySem.Value.str (PySem.Str.ofString "e") 1662) :: (PySem.Value.str (PySem.Str.ofString "f") 1665) :: (PySem.Value.str (PySem.Str.ofString "g") 1668) :: (PySem.Value.str (PySem.Str.ofString "h") 1671) :: (PySem.Value.str (PySem.Str.ofString "i") 1674) :: (PySem.Value.str (PySem.Str.ofString "j") 1677) :: (PySem.Value.str (PySem.Str.ofString "k") 1680) :: (PySem.Value.str (PySem.Str.ofString "l") 1683) :: (PySem.Value.str (PySem.Str.ofString "m") 1686) :: (PySem.Value.str (PySem.Str.ofString "n") 1689) :: (PySem.Value.str (PySem.Str.ofString "o") 1692) :: (PySem.Value.str (PySem.Str.ofString "p") 1695) :: (PySem.Value.str (PySem.Str.ofString "q") 1698) :: (PySem.Value.str (PySem.Str.ofString "r") 1701) :: (PySem.Value.str (PySem.Str.ofString "s") 1704) :: (PySem.Value.str (PySem.Str.ofString "t") 1707) :: (PySem.Value.str (PySem.Str.ofString "u") 1710) :: (PySem.Value.str (PySem.Str.ofString "v") 1713) :: (PySem.Value.str (PySem.Str.ofString "w") 1716) :: (PySem.Value.str (PySem.Str.ofString "x") 1719) :: (PySem.Value.str (PySem.Str.ofString "y") 1722) :: (PySem.Value.str (PySem.Str.ofString "z") 1725) :: (PySem.Value.str (PySem.Str.ofString "{") 1728) :: (PySem.Value.str (PySem.Str.ofString "|") 1731) :: (PySem.Value.str (PySem.Str.ofString "}") 1734) :: (PySem.Value.str (PySem.Str.ofString "~") 1737) :: (PySem.Value.str (PySem.Str.ofString "=7F") 713) :: (PySem.Value.str (PySem.Str.ofString "=80") 717) :: (PySem.Value.str (PySem.Str.ofString "=81") 721) :: (PySem.Value.str (PySem.Str.ofString "=82") 725) :: (PySem.Value.str (PySem.Str.ofString "=83") 729) :: (PySem.Value.str (PySem.Str.ofString "=84") 733) :: (PySem.Value.str (PySem.Str.ofString "=85") 737) :: (PySem.Value.str (PySem.Str.ofString "=86") 741) :: (PySem.Value.str (PySem.Str.ofString "=87") 745) :: (PySem.Value.str (PySem.Str.ofString "=88") 749) :: (PySem.Value.str (PySem.Str.ofString "=89") 753) :: (PySem.Value.str (PySem.Str.ofString "=8A") 757) :: (PySem.Value.str (PySem.Str.ofString "=8B") 761) :: (PySem.Value.str (PySem.Str.ofString "=8C") 765) :: (PySem.Value.str (PySem.Str.ofString "=8D") 769) :: (PySem.Value.str (PySem.Str.ofString "=8E") 773) :: (PySem.Value.str (PySem.Str.ofString "=8F") 777) :: (PySem.Value.str (PySem.Str.ofString "=90") 781) :: (PySem.Value.str (PySem.Str.ofString "=91") 785) :: (PySem.Value.str (PySem.Str.ofString "=92") 789) :: (PySem.Value.str (PySem.Str.ofString "=93") 793) :: (PySem.Value.str (PySem.Str.ofString "=94") 797) :: (PySem.Value.str (PySem.Str.ofString "=95") 801) :: (PySem.Value.str (PySem.Str.ofString "=96") 805) :: (PySem.Value.str (PySem.Str.ofString "=97") 809) :: (PySem.Value.str (PySem.Str.ofString "=98") 813) :: (PySem.Value.str (PySem.Str.ofString "=99") 817) :: (PySem.Value.str (PySem.Str.ofString "=9A") 821) :: (PySem.Value.str (PySem.Str.ofString "=9B") 825) :: (PySem.Value.str (PySem.Str.ofString "=9C") 829) :: (PySem.Value.str (PySem.Str.ofString "=9D") 833) :: (PySem.Value.str (PySem.Str.ofString "=9E") 837) :: (PySem.Value.str (PySem.Str.ofString "=9F") 841) :: (PySem.Value.str (PySem.Str.ofString "=A0") 845) :: (PySem.Value.str (PySem.Str.ofString "=A1") 849) :: (PySem.Value.str (PySem.Str.ofString "=A2") 853) :: (PySem.Value.str (PySem.Str.ofString "=A3") 857) :: (PySem.Value.str (PySem.Str.ofString "=A4") 861) :: (PySem.Value.str (PySem.Str.ofString "=A5") 865) :: (PySem.Value.str (PySem.Str.ofString "=A6") 869) :: (PySem.Value.str (PySem.Str.ofString "=A7") 873) :: (PySem.Value.str (PySem.Str.ofString "=A8") 877) :: (PySem.Value.str (PySem.Str.ofString "=A9") 881) :: (PySem.Value.str (PySem.Str.ofString "=AA") 885) :: (PySem.Value.str (PySem.Str.ofString "=AB") 889) :: (PySem.Value.str (PySem.Str.ofString "=AC") 893) :: (PySem.Value.str (PySem.Str.ofString "=AD") 897) :: (PySem.Value.str (PySem.Str.ofString "=AE") 901) :: (PySem.Value.str (PySem.Str.ofString "=AF") 905) :: (PySem.Value.str (PySem.Str.ofString "=B0") 909) :: (PySem.Value.str (PySem.Str.ofString "=B1") 913) :: (PySem.Value.str (PySem.Str.ofString "=B2") 917) :: (PySem.Value.str (PySem.Str.ofString "=B3") 921) :: (PySem.Value.str (PySem.Str.ofString "=B4") 925) :: (PySem.Value.str (PySem.Str.ofString "=B5") 929) :: (PySem.Value.str (PySem.Str.ofString "=B6") 933) :: (PySem.Value.str (PySem.Str.ofString "=B7") 937) :: (PySem.Value.str (PySem.Str.ofString "=B8") 941) :: (PySem.Value.str (PySem.Str.ofString "=B9") 945) :: (PySem.Value.str (PySem.Str.ofString "=BA") 949) :: (PySem.Value.str (PySem.Str.ofString "=BB") 953) :: (PySem.Value.str (PySem.Str.ofString "=BC") 957) :: (PySem.Value.str (PySem.Str.ofString "=BD") 961) :: (PySem.Value.str (PySem.Str.ofString "=BE") 965) :: (PySem.Value.str (PySem.Str.ofString "=BF") 969) :: (PySem.Value.str (PySem.Str.ofString "=C0") 973) :: (PySem.Value.str (PySem.Str.ofString "=C1") 977) :: (PySem.Value.str (PySem.Str.ofString "=C2") 981) :: (PySem.Value.str (PySem.Str.ofString "=C3") 985) :: (PySem.Value.str (PySem.Str.ofString "=C4") 989) :: (PySem.Value.str (PySem.Str.ofString "=C5") 993) :: (PySem.Value.str (PySem.Str.ofString "=C6") 997) :: (PySem.Value.str (PySem.Str.ofString "=C7") 1001) :: (PySem.Value.str (PySem.Str.ofString "=C8") 1005) :: (PySem.Value.str (PySem.Str.ofString "=C9") 1009) :: (PySem.Value.str (PySem.Str.ofString "=CA") 1013) :: (PySem.Value.str (PySem.Str.ofString "=CB") 1017) :: (PySem.Value.str (PySem.Str.ofString "=CC") 1021) :: (PySem.Value.str (PySem.Str.ofString "=CD") 1025) :: (PySem.Value.str (PySem.Str.ofString "=CE") 1029) :: (PySem.Value.str (PySem.Str.ofString "=CF") 1033) :: (PySem.Value.str (PySem.Str.ofString "=D0") 1037) :: (PySem.Value.str (PySem.Str.ofString "=D1") 1041) :: (PySem.Value.str (PySem.Str.ofString "=D2") 1045) :: (PySem.Value.str (PySem.Str.ofString "=D3") 1049) :: (PySem.Value.str (PySem.Str.ofString "=D4") 1053) :: (PySem.Value.str (PySem.Str.ofString "=D5") 1057) :: (PySem.Value.str (PySem.Str.ofString "=D6") 1061) :: (PySem.Value.str (PySem.Str.ofString "=D7") 1065) :: (PySem.Value.str (PySem.Str.ofString "=D8") 1069) :: (PySem.Value.str (PySem.Str.ofString "=D9") 1073) :: (PySem.Value.str (PySem.Str.ofString "=DA") 1077) :: (PySem.Value.str (PySem.Str.ofString "=DB") 1081) :: (PySem.Value.str (PySem.Str.ofString "=DC") 1085) :: (PySem.Value.str (PySem.Str.ofString "=DD") 1089) :: (PySem.Value.str (PySem.Str.ofString "=DE") 1093) :: (PySem.Value.str (PySem.Str.ofString "=DF") 1097) :: (PySem.Value.str (PySem.Str.ofString "=E0") 1101) :: (PySem.Value.str (PySem.Str.ofString "=E1") 1105) :: (PySem.Value.str (PySem.Str.ofString "=E2") 1109) :: (PySem.Value.str (PySem.Str.ofString "=E3") 1113) :: (PySem.Value.str (PySem.Str.ofString "=E4") 1117) :: (PySem.Value.str (PySem.Str.ofString "=E5") 1121) :: (PySem.Value.str (PySem.Str.ofString "=E6") 1125) :: (PySem.Value.str (PySem.Str.ofString "=E7") 1129) :: (PySem.Value.str (PySem.Str.ofString "=E8") 1133) :: (PySem.Value.str (PySem.Str.ofString "=E9") 1137) :: (PySem.Value.str (PySem.Str.ofString "=EA") 1141) :: (PySem.Value.str (PySem.Str.ofString "=EB") 1145) :: (PySem.Value.str (PySem.Str.ofString "=EC") 1149) :: (PySem.Value.str (PySem.Str.ofString "=ED") 1153) :: (PySem.Value.str (PySem.Str.ofString "=EE") 1157) :: (PySem.Value.str (PySem.Str.ofString "=EF") 1161) :: (PySem.Value.str (PySem.Str.ofString "=F0") 1165) :: (PySem.Value.str (PySem.Str.ofString "=F1") 1169) :: (PySem.Value.str (PySem.Str.ofString "=F2") 1173) :: (PySem.Value.str (PySem.Str.ofString "=F3") 1177) :: (PySem.Value.str (PySem.Str.ofString "=F4") 1181) :: (PySem.Value.str (PySem.Str.ofString "=F5") 1185) :: (PySem.Value.str (PySem.Str.ofString "=F6") 1189) :: (PySem.Value.str (PySem.Str.ofString "=F7") 1193) :: (PySem.Value.str (PySem.Str.ofString "=F8") 1197) :: (PySem.Value.str (PySem.Str.ofString "=F9") 1201) :: (PySem.Value.str (PySem.Str.ofString "=FA") 1205) :: (PySem.Value.str (PySem.Str.ofString "=FB") 1209) :: (PySem.Value.str (PySem.Str.ofString "=FC") 1213) :: (PySem.Value.str (PySem.Str.ofString "=FD") 1217) :: (PySem.Value.str (PySem.Str.ofString "=FE") 1221) :: (PySem.Value.str (PySem.Str.ofString "=FF") 1225) :: [])) 0) #[])) :: (nat_lit 57, (PySem.Obj.mk (PySem.Value.type "tuple") none (PySem.Data.seq #[(PySem.Value.str (PySem.Str.ofString "\n") 197)] 0) #[])) :: (nat_lit 58, (PySem.Obj.mk (PySem.Value.type "tuple") none (PySem.Data.seq #[] 0) #[])) :: (nat_lit 60, (PySem.Obj.mk (PySem.Value.type "tuple") none (PySem.Data.seq #[(PySem.Value.str (PySem.Str.ofString "encoded") 1766), (PySem.Value.str (PySem.Str.ofString "eol") 1767), (PySem.Value.str (PySem.Str.ofString "decoded") 1768), (PySem.Value.str (PySem.Str.ofString "line") 1769), (PySem.Value.str (PySem.Str.ofString "i") 1770), (PySem.Value.str (PySem.Str.ofString "n") 1771), (PySem.Value.str (PySem.Str.ofString "c") 1772)] 0) #[])) :: (nat_lit 61, (PySem.Obj.mk (PySem.Value.type "tuple") none (PySem.Data.seq #[] 0) #[])) :: (nat_lit 63, (PySem.Obj.mk (PySem.Value.type "code") none (PySem.Data.fields #[(PySem.Value.str (PySem.Str.ofString "decode") 1763), (PySem.Value.str (PySem.Str.ofString "decode") 1764), (PySem.Value.str (PySem.Str.ofString "/claim/cut.py") 1765), (PySem.Value.int (@OfNat.ofNat.{0} @Int 30 (@instOfNat 30)) 0), (PySem.Value.int (@OfNat.ofNat.{0} @Int 2 (@instOfNat 2)) 0), (PySem.Value.int (@OfNat.ofNat.{0} @Int 0 (@instOfNat 0)) 0), (PySem.Value.int (@OfNat.ofNat.{0} @Int 0 (@instOfNat 0)) 0), (PySem.Value.int (@OfNat.ofNat.{0} @Int 3 (@instOfNat 3)) 0), (PySem.Value.ref 58), (PySem.Value.bool Bool.true), (PySem.Value.int (@OfNat.ofNat.{0} @Int 181 (@instOfNat 181)) 0), (PySem.Value.ref 59), PySem.Value.none, (PySem.Value.ref 60), (PySem.Value.ref 61), (PySem.Value.ref 62), (PySem.Value.int (@OfNat.ofNat.{0} @Int 1773 (@instOfNat 1773)) 0), (PySem.Value.int (@OfNat.ofNat.{0} @Int 30 (@instOfNat 30)) 0), (PySem.Value.str (PySem.Str.ofString "/claim/cut.py") 1774)]) #[])) :: (nat_lit 64, (PySem.Obj.mk (PySem.Value.type "function") none (PySem.Data.func (PySem.FuncData.mk (PySem.Str.ofString "decode") (PySem.Str.ofString "decode") a20 (PySem.FuncBody.stmts b20) c20 3 [] (PySem.Value.ref 57) PySem.Value.none PySem.Value.none (PySem.Value.str (PySem.Str.ofString "cpy313.email.quoprimime") 1242) none (PySem.Value.ref 63) PySem.Value.none 0)) #[])) :: (nat_lit 65, (PySem.Obj.mk (PySem.Value.type "tuple") none (PySem.Data.seq #[] 0) #[])) :: (nat_lit 68, (PySem.Obj.mk (PySem.Value.type "code") none (PySem.Data.fields #[(PySem.Value.str (PySem.Str.ofString "_law_numbers") 1778), (PySem.Value.str (PySem.Str.ofString "_law_numbers") 1779), (PySem.Value.str (PySem.Str.ofString "/claim/cut.py") 1780), (PySem.Value.int (@OfNat.ofNat.{0} @Int 61 (@instOfNat 61)) 0), (PySem.Value.int (@OfNat.ofNat.{0} @Int 1 (@instOfNat 1)) 0), (PySem.Value.int (@OfNat.ofNat.{0} @Int 0 (@instOfNat 0)) 0), (PySem.Value.int (@OfNat.ofNat.{0} @Int 0 (@instOfNat 0)) 0), (PySem.Value.int (@OfNat.ofNat.{0} @Int 3 (@instOfNat 3)) 0), (PySem.Value.ref 65), (PySem.Value.bool Bool.true), (PySem.Value.int (@OfNat.ofNat.{0} @Int 181 (@instOfNat 181)) 0), (PySem.Value.ref 66), PySem.Value.none, PySem.Value.none, PySem.Value.none, (PySem.Value.ref 67), (PySem.Value.int (@OfNat.ofNat.{0} @Int 1781 (@instOfNat 1781)) 0), (PySem.Value.int (@OfNat.ofNat.{0} @Int 61 (@instOfNat 61)) 0), (PySem.Value.str (PySem.Str.ofString "/claim/cut.py") 1782)]) #[])) :: (nat_lit 69, (PySem.Obj.mk (PySem.Value.type "function") none (PySem.Data.func (PySem.FuncData.mk (PySem.Str.ofString "_law_numbers") (PySem.Str.ofString "_law_numbers") a22 (PySem.FuncBody.stmts b22) c22 3 [] PySem.Value.none PySem.Value.none PySem.Value.none (PySem.Value.str (PySem.Str.ofString "law_tx0009_01") 1776) none (PySem.Value.ref 68) PySem.Value.none 0)) #[])) :: (nat_lit 70, (PySem.Obj.mk (PySem.Value.type "tuple") none (PySem.Data.seq #[] 0) #[])) :: (nat_lit 73, (PySem.Obj.mk (PySem.Value.type "code") none (PySem.Data.fields #[(PySem.Value.str (PySem.Str.ofString "_law_order") 1784), (PySem.Value.str (PySem.Str.ofString "_law_order") 1785), (PySem.Value.str (PySem.Str.ofString "/claim/cut.py") 1786), (PySem.Value.int (@OfNat.ofNat.{0} @Int 65 (@instOfNat 65)) 0), (PySem.Value.int (@OfNat.ofNat.{0} @Int 1 (@instOfNat 1)) 0), (PySem.Value.int (@OfNat.ofNat.{0} @Int 0 (@instOfNat 0)) 0), (PySem.Value.int (@OfNat.ofNat.{0} @Int 0 (@instOfNat 0)) 0), (PySem.Value.int (@OfNat.ofNat.{0} @Int 3 (@instOfNat 3)) 0), (PySem.Value.ref 70), (PySem.Value.bool Bool.true), (PySem.Value.int (@OfNat.ofNat.{0} @Int 181 (@instOfNat 181)) 0), (PySem.Value.ref 71), PySem.Value.none, PySem.Value.none, PySem.Value.none, (PySem.Value.ref 72), (PySem.Value.int (@OfNat.ofNat.{0} @Int 1787 (@instOfNat 1787)) 0), (PySem.Value.int (@OfNat.ofNat.{0} @Int 65 (@instOfNat 65)) 0), (PySem.Value.str (PySem.Str.ofString "/claim/cut.py") 1788)]) #[])) :: (nat_lit 74, (PySem.Obj.mk (PySem.Value.type "function") none (PySem.Data.func (PySem.FuncData.mk (PySem.Str.ofString "_law_order") (PySem.Str.ofString "_law_order") a23 (PySem.FuncBody.stmts b23) c23 3 [] PySem.Value.none PySem.Value.none PySem.Value.none (PySem.Value.str (PySem.Str.ofString "law_tx0009_01") 1776) none (PySem.Value.ref 73) PySem.Value.none 0)) #[])) :: (nat_lit 75, (PySem.Obj.mk (PySem.Value.type "tuple") none (PySem.Data.seq #[] 0) #[])) :: (nat_lit 77, (PySem.Obj.mk (PySem.Value.type "tuple") none (PySem.Data.seq #[(PySem.Value.str (PySem.Str.ofString "places") 1793), (PySem.Value.str (PySem.Str.ofString "ranks") 1794), (PySem.Value.str (PySem.Str.ofString "signs") 1795), (PySem.Value.str (PySem.Str.ofString "free") 1796), (PySem.Value.str (PySem.Str.ofString "rounds") 1797), (PySem.Value.str (PySem.Str.ofString "bare") 1798), (PySem.Value.str (PySem.Str.ofString "road") 1799), (PySem.Value.str (PySem.Str.ofString "j") 1800), (PySem.Value.str (PySem.Str.ofString "best") 1801), (PySem.Value.str (PySem.Str.ofString "late") 1802), (PySem.Value.str (PySem.Str.ofString "i") 1803)] 0) #[])) :: (nat_lit 78, (PySem.Obj.mk (PySem.Value.type "tuple") none (PySem.Data.seq #[] 0) #[])) :: (nat_lit 80, (PySem.Obj.mk (PySem.Value.type "code") none (PySem.Data.fields #[(PySem.Value.str (PySem.Str.ofString "_law_road") 1790), (PySem.Value.str (PySem.Str.ofString "_law_road") 1791), (PySem.Value.str (PySem.Str.ofString "/claim/cut.py") 1792), (PySem.Value.int (@OfNat.ofNat.{0} @Int 71 (@instOfNat 71)) 0), (PySem.Value.int (@OfNat.ofNat.{0} @Int 6 (@instOfNat 6)) 0), (PySem.Value.int (@OfNat.ofNat.{0} @Int 0 (@instOfNat 0)) 0), (PySem.Value.int (@OfNat.ofNat.{0} @Int 0 (@instOfNat 0)) 0), (PySem.Value.int (@OfNat.ofNat.{0} @Int 3 (@instOfNat 3)) 0), (PySem.Value.ref 75), (PySem.Value.bool Bool.true), (PySem.Value.int (@OfNat.ofNat.{0} @Int 181 (@instOfNat 181)) 0), (PySem.Value.ref 76), PySem.Value.none, (PySem.Value.ref 77), (PySem.Value.ref 78), (PySem.Value.ref 79), (PySem.Value.int (@OfNat.ofNat.{0} @Int 1804 (@instOfNat 1804)) 0), (PySem.Value.int (@OfNat.ofNat.{0} @Int 71 (@instOfNat 71)) 0), (PySem.Value.str (PySem.Str.ofString "/claim/cut.py") 1805)]) #[])) :: (nat_lit 81, (PySem.Obj.mk (PySem.Value.type "function") none (PySem.Data.func (PySem.FuncData.mk (PySem.Str.ofString "_law_road") (PySem.Str.ofString "_law_road") a24 (PySem.FuncBody.stmts b24) c24 3 [] PySem.Value.none PySem.Value.none PySem.Value.none (PySem.Value.str (PySem.Str.ofString "law_tx0009_01") 1776) none (PySem.Value.ref 80) PySem.Value.none 0)) #[])) :: (nat_lit 82, (PySem.Obj.mk (PySem.Value.type "tuple") none (PySem.Data.seq #[] 0) #[])) :: (nat_lit 85, (PySem.Obj.mk (PySem.Value.type "code") none (PySem.Data.fields #[(PySem.Value.str (PySem.Str.ofString "law") 1807), (PySem.Value.str (PySem.Str.ofString "law") 1808), (PySem.Value.str (PySem.Str.ofString "/claim/cut.py") 1809), (PySem.Value.int (@OfNat.ofNat.{0} @Int 84 (@instOfNat 84)) 0), (PySem.Value.int (@OfNat.ofNat.{0} @Int 1 (@instOfNat 1)) 0), (PySem.Value.int (@OfNat.ofNat.{0} @Int 0 (@instOfNat 0)) 0), (PySem.Value.int (@OfNat.ofNat.{0} @Int 0 (@instOfNat 0)) 0), (PySem.Value.int (@OfNat.ofNat.{0} @Int 3 (@instOfNat 3)) 0), (PySem.Value.ref 82), (PySem.Value.bool Bool.true), (PySem.Value.int (@OfNat.ofNat.{0} @Int 181 (@instOfNat 181)) 0), (PySem.Value.ref 83), PySem.Value.none, PySem.Value.none, PySem.Value.none, (PySem.Value.ref 84), (PySem.Value.int (@OfNat.ofNat.{0} @Int 1810 (@instOfNat 1810)) 0), (PySem.Value.int (@OfNat.ofNat.{0} @Int 84 (@instOfNat 84)) 0), (PySem.Value.str (PySem.Str.ofString "/claim/cut.py") 1811)]) #[])) :: (nat_lit 86, (PySem.Obj.mk (PySem.Value.type "function") none (PySem.Data.func (PySem.FuncData.mk (PySem.Str.ofString "law") (PySem.Str.ofString "law") a25 (PySem.FuncBody.stmts b25) c25 3 [] PySem.Value.none PySem.Value.none PySem.Value.none (PySem.Value.str (PySem.Str.ofString "law_tx0009_01") 1776) none (PySem.Value.ref 85) PySem.Value.none 0)) #[])) :: []) : PySem.W.Frag))
    _ _ _ (by rfl) _ _ _ (by rfl) _ _ _ (by rfl) _ _ _ (by rfl) _ _ _ (by rfl) _ _ _ (by rfl) _ _ _ (by rfl) _ _ _ (by rfl)
noncomputable abbrev hAs : List PySem.Addr := [nat_lit 2, nat_lit 3, nat_lit 6, nat_lit 15, nat_lit 17, nat_lit 18, nat_lit 20, nat_lit 21, nat_lit 24, nat_lit 29, nat_lit 31, nat_lit 38, nat_lit 40, nat_lit 41, nat_lit 43, nat_lit 44, nat_lit 45, nat_lit 47, nat_lit 48, nat_lit 50, nat_lit 51, nat_lit 53, nat_lit 57, nat_lit 58, nat_lit 60, nat_lit 61, nat_lit 63, nat_lit 64, nat_lit 65, nat_lit 68, nat_lit 69, nat_lit 70, nat_lit 73, nat_lit 74, nat_lit 75, nat_lit 77, nat_lit 78, nat_lit 80, nat_lit 81, nat_lit 82, nat_lit 85, nat_lit 86]
theorem hAsOk : ∀ P, hAs = (hHeap P).map (·.1) := fun _ => by kernel_rfl
noncomputable abbrev hEnv : PySem.Env := (PySem.Env.mk (@PySem.Module.scope (@PySem.Program.main @Mine.hProg)) @PySem.mainNs @PySem.mainNs [] @PySem.Str.empty none (PySem.Value.ref 13) (some (@OfNat.ofNat.{0} @PySem.Addr 14 (@instOfNatNat 14))) (@OfNat.ofNat.{0} @PySem.Addr 0 (@instOfNatNat 0)))
noncomputable abbrev hO6 (P : PySem.Params) : PySem.Obj := (PySem.Obj.mk (PySem.Value.type "tuple") none (PySem.Data.seq #[] 0) #[])
noncomputable abbrev hO7 (P : PySem.Params) : PySem.Obj := (PySem.Obj.mk PySem.Value.none none (PySem.Data.fields #[]) #[])
noncomputable abbrev hO8 (P : PySem.Params) : PySem.Obj := (PySem.Obj.mk (PySem.Value.type "code") none (PySem.Data.fields #[(PySem.Value.str (PySem.Str.ofString "<module>") 182), (PySem.Value.str (PySem.Str.ofString "<module>") 183), (PySem.Value.str (PySem.Str.ofString "/claim/cut.py") 184), (PySem.Value.int (@OfNat.ofNat.{0} @Int 1 (@instOfNat 1)) 0), (PySem.Value.int (@OfNat.ofNat.{0} @Int 0 (@instOfNat 0)) 0), (PySem.Value.int (@OfNat.ofNat.{0} @Int 0 (@instOfNat 0)) 0), (PySem.Value.int (@OfNat.ofNat.{0} @Int 0 (@instOfNat 0)) 0), (PySem.Value.int (@OfNat.ofNat.{0} @Int 0 (@instOfNat 0)) 0), (PySem.Value.ref 11), (PySem.Value.bool Bool.false), (PySem.Value.int (@OfNat.ofNat.{0} @Int 181 (@instOfNat 181)) 0), (PySem.Value.ref 12), PySem.Value.none, PySem.Value.none, PySem.Value.none, PySem.Value.none, (PySem.Value.int (@OfNat.ofNat.{0} @Int 185 (@instOfNat 185)) 0), (PySem.Value.int (@OfNat.ofNat.{0} @Int 1 (@instOfNat 1)) 0), (PySem.Value.str (PySem.Str.ofString "/claim/cut.py") 186)]) #[])
noncomputable abbrev hO9 (P : PySem.Params) : PySem.Obj := (PySem.Obj.mk (PySem.Value.type "frame") none PySem.Data.plain #[(some (PySem.Value.ref 13)), (some (PySem.Value.ref 3)), (some (PySem.Value.ref 3)), none, (some (PySem.Value.str (PySem.Str.ofString "__main__") 164)), none, (some (PySem.Value.ref 0))])
noncomputable abbrev hH10 (P : PySem.Params) : PySem.Heap := (PySem.Heap.mk (Array.mk [(@PySem.W.boot_o_0 P), (@PySem.W.boot_o_1 P), (@PySem.W.boot_o_2 P), (@PySem.W.boot_o_3 P), (@PySem.W.boot_o_4 P), (@PySem.W.boot_o_5 P), (@PySem.W.boot_o_6 P), (@PySem.W.boot_o_7 P), (@PySem.W.boot_o_8 P), (@PySem.W.boot_o_9 P), (@PySem.W.boot_o_10 P), (@Mine.hO6 P), (@Mine.hO7 P), (@Mine.hO8 P), (@Mine.hO9 P)]) (PySem.Life.mk [] [] [] 0 [] [] Bool.false #[] [] 0 Bool.false Bool.false Bool.false (@OfNat.ofNat.{0} @Int 0 (@instOfNat 0)) [(@OfNat.ofNat.{0} @Int 2000 (@instOfNat 2000)), (@OfNat.ofNat.{0} @Int 10 (@instOfNat 10)), (@OfNat.ofNat.{0} @Int 10 (@instOfNat 10))] Bool.false 0 Bool.true [] [] 0 Bool.false))
theorem hPreq (w : PySem.World) : (@Eq.{1} (∀ (x0 : @PySem.OsState), (@Option.{0} (@Prod.{0, 0} @PySem.Shared @PySem.Thread))) (fun (x0 : @PySem.OsState) => (@PySem.W.Fast.tw15667345088766844465 @PySem.W.Fast.tw14364793385576792824 @Mine.hProg w 11 (some (PySem.Value.ref 6)) 12 (PySem.Shared.mk (@PySem.W.boot_heap (@PySem.World.params w)) (Array.mk []) @PySem.W.boot_drawn @PySem.W.boot_toks x0) (@PySem.W.topStub @Mine.hProg))) (fun (x0 : @PySem.OsState) => (some ((PySem.Shared.mk (@Mine.hH10 (@PySem.World.params w)) (Array.mk []) (PySem.Drawn.mk 0 0 0 0) 187 x0), (PySem.Thread.mk (@PySem.W.Fast.tw11892475500146522536 @PySem.W.Fast.tw14364793385576792824 (PySem.Code.body (@PySem.W.behindTheImports @Mine.hProg) @Mine.hEnv)) (PySem.Code.body (@PySem.W.behindTheImports @Mine.hProg) @Mine.hEnv) (PySem.Pos.mk 0 0 0 0) [(@PySem.W.topFrame (PySem.Pos.mk 0 0 0 0))]))))) := by kernel_rfl
theorem hPre (w : PySem.World) : (@Eq.{1} (∀ (x0 : @PySem.OsState), (@Option.{0} (@Prod.{0, 0} @PySem.Shared @PySem.Thread))) (fun (x0 : @PySem.OsState) => (@PySem.W.topGo @PySem.treeTable @Mine.hProg w 11 (some (PySem.Value.ref 6)) 12 (PySem.Shared.mk (@PySem.W.boot_heap (@PySem.World.params w)) (Array.mk []) @PySem.W.boot_drawn @PySem.W.boot_toks x0) (@PySem.W.topStub @Mine.hProg))) (fun (x0 : @PySem.OsState) => (some ((PySem.Shared.mk (@Mine.hH10 (@PySem.World.params w)) (Array.mk []) (PySem.Drawn.mk 0 0 0 0) 187 x0), (PySem.Thread.mk (@PySem.denote @PySem.treeTable (PySem.Code.body (@PySem.W.behindTheImports @Mine.hProg) @Mine.hEnv)) (PySem.Code.body (@PySem.W.behindTheImports @Mine.hProg) @Mine.hEnv) (PySem.Pos.mk 0 0 0 0) [(@PySem.W.topFrame (PySem.Pos.mk 0 0 0 0))]))))) := by
  rw [PySem.W.Fast.te15667345088766844465, PySem.W.Fast.te14364793385576792824, PySem.W.Fast.te11892475500146522536]
  exact hPreq w
noncomputable abbrev hT11 (P : PySem.Params) : PySem.W.BT := (PySem.W.BT.node (@PySem.W.boot_o_0 P) (PySem.W.BT.node (@PySem.W.boot_o_1 P) (PySem.W.BT.node (@PySem.W.boot_o_3 P) (PySem.W.BT.node (@PySem.W.boot_o_7 P) PySem.W.BT.nil PySem.W.BT.nil) (PySem.W.BT.node (@Mine.hO6 P) PySem.W.BT.nil PySem.W.BT.nil)) (PySem.W.BT.node (@PySem.W.boot_o_5 P) (PySem.W.BT.node (@PySem.W.boot_o_9 P) PySem.W.BT.nil PySem.W.BT.nil) (PySem.W.BT.node (@Mine.hO8 P) PySem.W.BT.nil PySem.W.BT.nil))) (PySem.W.BT.node (@PySem.W.boot_o_2 P) (PySem.W.BT.node (@PySem.W.boot_o_4 P) (PySem.W.BT.node (@PySem.W.boot_o_8 P) PySem.W.BT.nil PySem.W.BT.nil) (PySem.W.BT.node (@Mine.hO7 P) PySem.W.BT.nil PySem.W.BT.nil)) (PySem.W.BT.node (@PySem.W.boot_o_6 P) (PySem.W.BT.node (@PySem.W.boot_o_10 P) PySem.W.BT.nil PySem.W.BT.nil) (PySem.W.BT.node (@Mine.hO9 P) PySem.W.BT.nil PySem.W.BT.nil))))
theorem hBlockq (w : PySem.World) : (@Eq.{1} (∀ (x0 : @PySem.OsState), (@Option.{0} (@Prod.{0, 0} @PySem.Flow (@Prod.{0, 0} @PySem.Shared (@Prod.{0, 0} @PySem.Code @PySem.Pos))))) (fun (x0 : @PySem.OsState) => (@PySem.W.Fast.tw14374325043358763698 @PySem.W.Fast.tw14364793385576792824 @Mine.hProg w 11 (some (PySem.Value.ref 6)) 1 1 (PySem.Shared.mk (@Mine.hH10 (@PySem.World.params w)) (Array.mk []) (PySem.Drawn.mk 0 0 0 0) 187 x0) (@PySem.W.blockOf (@PySem.W.behindTheImports @Mine.hProg) @Mine.hEnv (PySem.Code.body (@PySem.W.behindTheImports @Mine.hProg) @Mine.hEnv) (PySem.Pos.mk 0 0 0 0) [(@PySem.W.topFrame (PySem.Pos.mk 0 0 0 0))]))) (fun (x0 : @PySem.OsState) => (some (PySem.Flow.next, ((@PySem.W.SharedT.abs (PySem.W.SharedT.mk (@Mine.hT11 (@PySem.World.params w)) 15 (PySem.Life.mk [] [] [] 0 [] [] Bool.false #[] [] 0 Bool.false Bool.false Bool.false (@OfNat.ofNat.{0} @Int 0 (@instOfNat 0)) [(@OfNat.ofNat.{0} @Int 2000 (@instOfNat 2000)), (@OfNat.ofNat.{0} @Int 10 (@instOfNat 10)), (@OfNat.ofNat.{0} @Int 10 (@instOfNat 10))] Bool.false 0 Bool.true [] [] 0 Bool.false) (Array.mk []) (PySem.Drawn.mk 0 0 0 0) 187 x0)), ((PySem.Code.body (@PySem.W.behindTheImports @Mine.hProg) @Mine.hEnv), (PySem.Pos.mk 0 0 0 0))))))) := by kernel_rfl
theorem hBlock (w : PySem.World) : (@Eq.{1} (∀ (x0 : @PySem.OsState), (@Option.{0} (@Prod.{0, 0} @PySem.Flow (@Prod.{0, 0} @PySem.Shared (@Prod.{0, 0} @PySem.Code @PySem.Pos))))) (fun (x0 : @PySem.OsState) => (@PySem.W.segRun @PySem.treeTable @Mine.hProg w 11 (some (PySem.Value.ref 6)) 1 1 (PySem.Shared.mk (@Mine.hH10 (@PySem.World.params w)) (Array.mk []) (PySem.Drawn.mk 0 0 0 0) 187 x0) (@PySem.W.blockOf (@PySem.W.behindTheImports @Mine.hProg) @Mine.hEnv (PySem.Code.body (@PySem.W.behindTheImports @Mine.hProg) @Mine.hEnv) (PySem.Pos.mk 0 0 0 0) [(@PySem.W.topFrame (PySem.Pos.mk 0 0 0 0))]))) (fun (x0 : @PySem.OsState) => (some (PySem.Flow.next, ((@PySem.W.SharedT.abs (PySem.W.SharedT.mk (@Mine.hT11 (@PySem.World.params w)) 15 (PySem.Life.mk [] [] [] 0 [] [] Bool.false #[] [] 0 Bool.false Bool.false Bool.false (@OfNat.ofNat.{0} @Int 0 (@instOfNat 0)) [(@OfNat.ofNat.{0} @Int 2000 (@instOfNat 2000)), (@OfNat.ofNat.{0} @Int 10 (@instOfNat 10)), (@OfNat.ofNat.{0} @Int 10 (@instOfNat 10))] Bool.false 0 Bool.true [] [] 0 Bool.false) (Array.mk []) (PySem.Drawn.mk 0 0 0 0) 187 x0)), ((PySem.Code.body (@PySem.W.behindTheImports @Mine.hProg) @Mine.hEnv), (PySem.Pos.mk 0 0 0 0))))))) := by
  rw [PySem.W.Fast.te14374325043358763698, PySem.W.Fast.te14364793385576792824]
  exact hBlockq w
noncomputable abbrev hS (T : PySem.W.BT) (n k : Nat) (os : PySem.OsState) : PySem.W.SharedT := PySem.W.SharedT.mk T n (PySem.Life.mk [] [] [] 0 [] [] Bool.false #[] [] 0 Bool.false Bool.false Bool.false (@OfNat.ofNat.{0} @Int 0 (@instOfNat 0)) [(@OfNat.ofNat.{0} @Int 2000 (@instOfNat 2000)), (@OfNat.ofNat.{0} @Int 10 (@instOfNat 10)), (@OfNat.ofNat.{0} @Int 10 (@instOfNat 10))] Bool.false 0 Bool.true [] [] 0 Bool.false) (Array.mk []) (PySem.Drawn.mk 0 0 0 0) k os
noncomputable abbrev hG (W : PySem.World) (n : Nat) (S : PySem.W.SharedT) (t : PySem.Thread) := (@PySem.W.Fast.tw10295753902157049106 @PySem.W.Fast.tw14364793385576792824) hProg W 11 (some (PySem.Value.ref 6)) 1 n S t
noncomputable abbrev hR (W : PySem.World) (n : Nat) (S : PySem.W.SharedT) (t : PySem.Thread) := (@PySem.W.Fast.tw10110043849684766642 @PySem.W.Fast.tw14364793385576792824) hProg W 11 (some (PySem.Value.ref 6)) 1 n S t
theorem hGo {W : PySem.World} {n : Nat} {S S' : PySem.W.SharedT} {t t' : PySem.Thread} (h : hG W n S t = some (S', t')) : PySem.W.segGo PySem.treeTable hProg W 11 (some (PySem.Value.ref 6)) 1 n S.abs t = some (S'.abs, t') := by
  refine PySem.W.segGo_of ?_
  rw [PySem.W.Fast.te10295753902157049106, PySem.W.Fast.te14364793385576792824]
  exact h
theorem hRu {W : PySem.World} {n : Nat} {S S' : PySem.W.SharedT} {t : PySem.Thread} {f : PySem.Flow} {c : PySem.Code} {q : PySem.Pos} (h : hR W n S t = some (f, S', c, q)) : PySem.W.segRun PySem.treeTable hProg W 11 (some (PySem.Value.ref 6)) 1 n S.abs t = some (f, S'.abs, c, q) := by
  refine PySem.W.segRun_of ?_
  rw [PySem.W.Fast.te10110043849684766642, PySem.W.Fast.te14364793385576792824]
  exact h
noncomputable abbrev hSts0 : List PySem.Stmt := (@List.take.{0} @PySem.Stmt 3 (@List.drop.{0} @PySem.Stmt 0 (@PySem.W.behindTheImports @Mine.hProg)))
noncomputable abbrev hO13 (P : PySem.Params) : PySem.Obj := (PySem.Obj.mk (PySem.Value.type "dict") none (PySem.Data.dict #[(PySem.DictEntry.mk (PySem.PyData.keyHash P (PySem.Str.ofString "__name__")) (PySem.Value.str (PySem.Str.ofString "__name__") 165) (PySem.Value.str (PySem.Str.ofString "cpy313.pydoc") 187)), (PySem.DictEntry.mk (PySem.PyData.keyHash P (PySem.Str.ofString "__doc__")) (PySem.Value.str (PySem.Str.ofString "__doc__") 166) PySem.Value.none), (PySem.DictEntry.mk (PySem.PyData.keyHash P (PySem.Str.ofString "__package__")) (PySem.Value.str (PySem.Str.ofString "__package__") 167) PySem.Value.none), (PySem.DictEntry.mk (PySem.PyData.keyHash P (PySem.Str.ofString "__loader__")) (PySem.Value.str (PySem.Str.ofString "__loader__") 168) (PySem.Value.builtin "__main__.__loader__#opaque")), (PySem.DictEntry.mk (PySem.PyData.keyHash P (PySem.Str.ofString "__spec__")) (PySem.Value.str (PySem.Str.ofString "__spec__") 169) PySem.Value.none), (PySem.DictEntry.mk (PySem.PyData.keyHash P (PySem.Str.ofString "__annotations__")) (PySem.Value.str (PySem.Str.ofString "__annotations__") 170) (PySem.Value.ref 6)), (PySem.DictEntry.mk (PySem.PyData.keyHash P (PySem.Str.ofString "__builtins__")) (PySem.Value.str (PySem.Str.ofString "__builtins__") 171) (PySem.Value.ref 4)), (PySem.DictEntry.mk (PySem.PyData.keyHash P (PySem.Str.ofString "__file__")) (PySem.Value.str (PySem.Str.ofString "__file__") 173) (PySem.Value.str (PySem.Str.ofString "/claim/cut.py") 172)), (PySem.DictEntry.mk (PySem.PyData.keyHash P (PySem.Str.ofString "__cached__")) (PySem.Value.str (PySem.Str.ofString "__cached__") 174) PySem.Value.none), (PySem.DictEntry.mk (PySem.PyData.keyHash P (PySem.Str.ofString "replace")) (PySem.Value.str (PySem.Str.ofString "replace") 196) (PySem.Value.ref 21)), (PySem.DictEntry.mk (PySem.PyData.keyHash P (PySem.Str.ofString "NL")) (PySem.Value.str (PySem.Str.ofString "NL") 198) (PySem.Value.str (PySem.Str.ofString "\n") 197))] 11) #[])
noncomputable abbrev hO14 (P : PySem.Params) : PySem.Obj := (PySem.Obj.mk PySem.Value.none none (PySem.Data.fields #[(PySem.Value.int (@OfNat.ofNat.{0} @Int 2 (@instOfNat 2)) 0), (PySem.Value.int (@OfNat.ofNat.{0} @Int 0 (@instOfNat 0)) 0), (PySem.Value.ref 20)]) #[])
noncomputable abbrev hO15 (P : PySem.Params) : PySem.Obj := (PySem.Obj.mk (PySem.Value.type "tuple") none (PySem.Data.seq #[] 0) #[])
noncomputable abbrev hO16 (P : PySem.Params) : PySem.Obj := (PySem.Obj.mk PySem.Value.none none (PySem.Data.fields #[]) #[])
noncomputable abbrev hO17 (P : PySem.Params) : PySem.Obj := (PySem.Obj.mk (PySem.Value.type "tuple") none (PySem.Data.seq #[(PySem.Value.str (PySem.Str.ofString "text") 192), (PySem.Value.str (PySem.Str.ofString "pairs") 193)] 0) #[])
noncomputable abbrev hO18 (P : PySem.Params) : PySem.Obj := (PySem.Obj.mk (PySem.Value.type "tuple") none (PySem.Data.seq #[] 0) #[])
noncomputable abbrev hO19 (P : PySem.Params) : PySem.Obj := (PySem.Obj.mk PySem.Value.none none (PySem.Data.func (PySem.FuncData.mk (PySem.Str.ofString "replace") (PySem.Str.ofString "replace") (Mine.hFnA 1) (PySem.FuncBody.stmts (Mine.hFnB 1)) (Mine.hFnC 1) 0 [] PySem.Value.none PySem.Value.none PySem.Value.none PySem.Value.none none PySem.Value.none PySem.Value.none 0)) #[])
noncomputable abbrev hO20 (P : PySem.Params) : PySem.Obj := (PySem.Obj.mk (PySem.Value.type "code") none (PySem.Data.fields #[(PySem.Value.str (PySem.Str.ofString "replace") 189), (PySem.Value.str (PySem.Str.ofString "replace") 190), (PySem.Value.str (PySem.Str.ofString "/claim/cut.py") 191), (PySem.Value.int (@OfNat.ofNat.{0} @Int 2 (@instOfNat 2)) 0), (PySem.Value.int (@OfNat.ofNat.{0} @Int 1 (@instOfNat 1)) 0), (PySem.Value.int (@OfNat.ofNat.{0} @Int 0 (@instOfNat 0)) 0), (PySem.Value.int (@OfNat.ofNat.{0} @Int 0 (@instOfNat 0)) 0), (PySem.Value.int (@OfNat.ofNat.{0} @Int 7 (@instOfNat 7)) 0), (PySem.Value.ref 15), (PySem.Value.bool Bool.true), (PySem.Value.int (@OfNat.ofNat.{0} @Int 181 (@instOfNat 181)) 0), (PySem.Value.ref 16), PySem.Value.none, (PySem.Value.ref 17), (PySem.Value.ref 18), (PySem.Value.ref 19), (PySem.Value.int (@OfNat.ofNat.{0} @Int 194 (@instOfNat 194)) 0), (PySem.Value.int (@OfNat.ofNat.{0} @Int 2 (@instOfNat 2)) 0), (PySem.Value.str (PySem.Str.ofString "/claim/cut.py") 195)]) #[])
noncomputable abbrev hO21 (P : PySem.Params) : PySem.Obj := (PySem.Obj.mk (PySem.Value.type "function") none (PySem.Data.func (PySem.FuncData.mk (PySem.Str.ofString "replace") (PySem.Str.ofString "replace") (Mine.hFnA 1) (PySem.FuncBody.stmts (Mine.hFnB 1)) (Mine.hFnC 1) 3 [] PySem.Value.none PySem.Value.none PySem.Value.none (PySem.Value.str (PySem.Str.ofString "cpy313.pydoc") 187) none (PySem.Value.ref 20) PySem.Value.none 0)) #[])
noncomputable abbrev hT22 (P : PySem.Params) : PySem.W.BT := (PySem.W.BT.node (@PySem.W.boot_o_0 P) (PySem.W.BT.node (@PySem.W.boot_o_1 P) (PySem.W.BT.node (@Mine.hO13 P) (PySem.W.BT.node (@PySem.W.boot_o_7 P) (PySem.W.BT.node (@Mine.hO15 P) PySem.W.BT.nil PySem.W.BT.nil) PySem.W.BT.nil) (PySem.W.BT.node (@Mine.hO6 P) (PySem.W.BT.node (@Mine.hO19 P) PySem.W.BT.nil PySem.W.BT.nil) PySem.W.BT.nil)) (PySem.W.BT.node (@PySem.W.boot_o_5 P) (PySem.W.BT.node (@PySem.W.boot_o_9 P) (PySem.W.BT.node (@Mine.hO17 P) PySem.W.BT.nil PySem.W.BT.nil) PySem.W.BT.nil) (PySem.W.BT.node (@Mine.hO8 P) (PySem.W.BT.node (@Mine.hO21 P) PySem.W.BT.nil PySem.W.BT.nil) PySem.W.BT.nil))) (PySem.W.BT.node (@PySem.W.boot_o_2 P) (PySem.W.BT.node (@PySem.W.boot_o_4 P) (PySem.W.BT.node (@PySem.W.boot_o_8 P) (PySem.W.BT.node (@Mine.hO16 P) PySem.W.BT.nil PySem.W.BT.nil) PySem.W.BT.nil) (PySem.W.BT.node (@Mine.hO14 P) (PySem.W.BT.node (@Mine.hO20 P) PySem.W.BT.nil PySem.W.BT.nil) PySem.W.BT.nil)) (PySem.W.BT.node (@PySem.W.boot_o_6 P) (PySem.W.BT.node (@PySem.W.boot_o_10 P) (PySem.W.BT.node (@Mine.hO18 P) PySem.W.BT.nil PySem.W.BT.nil) PySem.W.BT.nil) (PySem.W.BT.node (@Mine.hO9 P) PySem.W.BT.nil PySem.W.BT.nil))))
theorem hRun0q (w : PySem.World) : (@Eq.{1} (∀ (x0 : @PySem.OsState), (@Option.{0} (@Prod.{0, 0} @PySem.Flow (@Prod.{0, 0} @PySem.W.SharedT (@Prod.{0, 0} @PySem.Code @PySem.Pos))))) (fun (x0 : @PySem.OsState) => (@PySem.W.Fast.tw10110043849684766642 @PySem.W.Fast.tw14364793385576792824 @Mine.hProg w 11 (some (PySem.Value.ref 6)) 1 68 (PySem.W.SharedT.mk (@Mine.hT11 (@PySem.World.params w)) 15 (PySem.Life.mk [] [] [] 0 [] [] Bool.false #[] [] 0 Bool.false Bool.false Bool.false (@OfNat.ofNat.{0} @Int 0 (@instOfNat 0)) [(@OfNat.ofNat.{0} @Int 2000 (@instOfNat 2000)), (@OfNat.ofNat.{0} @Int 10 (@instOfNat 10)), (@OfNat.ofNat.{0} @Int 10 (@instOfNat 10))] Bool.false 0 Bool.true [] [] 0 Bool.false) (Array.mk []) (PySem.Drawn.mk 0 0 0 0) 187 x0) (@PySem.W.piecesOf @Mine.hSts0 @Mine.hEnv (PySem.Code.body (@PySem.W.behindTheImports @Mine.hProg) @Mine.hEnv) (PySem.Pos.mk 0 0 0 0) [(@PySem.W.topFrame (PySem.Pos.mk 0 0 0 0))]))) (fun (x0 : @PySem.OsState) => (some (PySem.Flow.next, ((PySem.W.SharedT.mk (@Mine.hT22 (@PySem.World.params w)) 22 (PySem.Life.mk [] [] [] 0 [] [] Bool.false #[] [] 0 Bool.false Bool.false Bool.false (@OfNat.ofNat.{0} @Int 0 (@instOfNat 0)) [(@OfNat.ofNat.{0} @Int 2000 (@instOfNat 2000)), (@OfNat.ofNat.{0} @Int 10 (@instOfNat 10)), (@OfNat.ofNat.{0} @Int 10 (@instOfNat 10))] Bool.false 0 Bool.true [] [] 0 Bool.false) (Array.mk []) (PySem.Drawn.mk 0 0 0 0) 199 x0), ((PySem.Code.body (@PySem.W.behindTheImports @Mine.hProg) @Mine.hEnv), (PySem.Pos.mk 7 0 7 2))))))) := by kernel_rfl
theorem hRun0 (w : PySem.World) : (@Eq.{1} (∀ (x0 : @PySem.OsState), (@Option.{0} (@Prod.{0, 0} @PySem.Flow (@Prod.{0, 0} @PySem.W.SharedT (@Prod.{0, 0} @PySem.Code @PySem.Pos))))) (fun (x0 : @PySem.OsState) => (@PySem.W.segRunT @PySem.treeTable @Mine.hProg w 11 (some (PySem.Value.ref 6)) 1 68 (PySem.W.SharedT.mk (@Mine.hT11 (@PySem.World.params w)) 15 (PySem.Life.mk [] [] [] 0 [] [] Bool.false #[] [] 0 Bool.false Bool.false Bool.false (@OfNat.ofNat.{0} @Int 0 (@instOfNat 0)) [(@OfNat.ofNat.{0} @Int 2000 (@instOfNat 2000)), (@OfNat.ofNat.{0} @Int 10 (@instOfNat 10)), (@OfNat.ofNat.{0} @Int 10 (@instOfNat 10))] Bool.false 0 Bool.true [] [] 0 Bool.false) (Array.mk []) (PySem.Drawn.mk 0 0 0 0) 187 x0) (@PySem.W.piecesOf @Mine.hSts0 @Mine.hEnv (PySem.Code.body (@PySem.W.behindTheImports @Mine.hProg) @Mine.hEnv) (PySem.Pos.mk 0 0 0 0) [(@PySem.W.topFrame (PySem.Pos.mk 0 0 0 0))]))) (fun (x0 : @PySem.OsState) => (some (PySem.Flow.next, ((PySem.W.SharedT.mk (@Mine.hT22 (@PySem.World.params w)) 22 (PySem.Life.mk [] [] [] 0 [] [] Bool.false #[] [] 0 Bool.false Bool.false Bool.false (@OfNat.ofNat.{0} @Int 0 (@instOfNat 0)) [(@OfNat.ofNat.{0} @Int 2000 (@instOfNat 2000)), (@OfNat.ofNat.{0} @Int 10 (@instOfNat 10)), (@OfNat.ofNat.{0} @Int 10 (@instOfNat 10))] Bool.false 0 Bool.true [] [] 0 Bool.false) (Array.mk []) (PySem.Drawn.mk 0 0 0 0) 199 x0), ((PySem.Code.body (@PySem.W.behindTheImports @Mine.hProg) @Mine.hEnv), (PySem.Pos.mk 7 0 7 2))))))) := by
  rw [PySem.W.Fast.te10110043849684766642, PySem.W.Fast.te14364793385576792824]
  exact hRun0q w
noncomputable abbrev hSts1 : List PySem.Stmt := (@List.take.{0} @PySem.Stmt 1 (@List.drop.{0} @PySem.Stmt 3 (@PySem.W.behindTheImports @Mine.hProg)))
noncomputable abbrev hO24 (P : PySem.Params) : PySem.Obj := (PySem.Obj.mk (PySem.Value.type "range") none (PySem.Data.fields #[(PySem.Value.int (@OfNat.ofNat.{0} @Int 0 (@instOfNat 0)) 200), (PySem.Value.int (@OfNat.ofNat.{0} @Int 256 (@instOfNat 256)) 199), (PySem.Value.int (@OfNat.ofNat.{0} @Int 1 (@instOfNat 1)) 201)]) #[])
noncomputable abbrev hO25 (P : PySem.Params) : PySem.Obj := (PySem.Obj.mk (PySem.Value.type "range_iterator") none (PySem.Data.fields #[(PySem.Value.int (@OfNat.ofNat.{0} @Int 1 (@instOfNat 1)) 0), (PySem.Value.int (@OfNat.ofNat.{0} @Int 255 (@instOfNat 255)) 0), (PySem.Value.int (@OfNat.ofNat.{0} @Int 1 (@instOfNat 1)) 0)]) #[])
noncomputable abbrev hO26 (P : PySem.Params) : PySem.Obj := (PySem.Obj.mk (PySem.Value.type "list") none (PySem.Data.seq #[(PySem.Value.str (PySem.Str.ofString "=00") 205)] 1) #[])
noncomputable abbrev hO27 (P : PySem.Params) : PySem.Obj := (PySem.Obj.mk (PySem.Value.type "dict") none (PySem.Data.dict #[(PySem.DictEntry.mk (PySem.PyData.keyHash P (PySem.Str.ofString "c")) (PySem.Value.str (PySem.Str.ofString "c") 203) (PySem.Value.int (@OfNat.ofNat.{0} @Int 0 (@instOfNat 0)) 202))] 1) #[])
noncomputable abbrev hT28 (P : PySem.Params) : PySem.W.BT := (PySem.W.BT.node (@PySem.W.boot_o_0 P) (PySem.W.BT.node (@PySem.W.boot_o_1 P) (PySem.W.BT.node (@Mine.hO13 P) (PySem.W.BT.node (@PySem.W.boot_o_7 P) (PySem.W.BT.node (@Mine.hO15 P) PySem.W.BT.nil PySem.W.BT.nil) (PySem.W.BT.node (@Mine.hO25 P) PySem.W.BT.nil PySem.W.BT.nil)) (PySem.W.BT.node (@Mine.hO6 P) (PySem.W.BT.node (@Mine.hO19 P) PySem.W.BT.nil PySem.W.BT.nil) PySem.W.BT.nil)) (PySem.W.BT.node (@PySem.W.boot_o_5 P) (PySem.W.BT.node (@PySem.W.boot_o_9 P) (PySem.W.BT.node (@Mine.hO17 P) PySem.W.BT.nil PySem.W.BT.nil) (PySem.W.BT.node (@Mine.hO27 P) PySem.W.BT.nil PySem.W.BT.nil)) (PySem.W.BT.node (@Mine.hO8 P) (PySem.W.BT.node (@Mine.hO21 P) PySem.W.BT.nil PySem.W.BT.nil) PySem.W.BT.nil))) (PySem.W.BT.node (@PySem.W.boot_o_2 P) (PySem.W.BT.node (@PySem.W.boot_o_4 P) (PySem.W.BT.node (@PySem.W.boot_o_8 P) (PySem.W.BT.node (@Mine.hO16 P) PySem.W.BT.nil PySem.W.BT.nil) (PySem.W.BT.node (@Mine.hO26 P) PySem.W.BT.nil PySem.W.BT.nil)) (PySem.W.BT.node (@Mine.hO14 P) (PySem.W.BT.node (@Mine.hO20 P) PySem.W.BT.nil PySem.W.BT.nil) PySem.W.BT.nil)) (PySem.W.BT.node (@PySem.W.boot_o_6 P) (PySem.W.BT.node (@PySem.W.boot_o_10 P) (PySem.W.BT.node (@Mine.hO18 P) PySem.W.BT.nil PySem.W.BT.nil) PySem.W.BT.nil) (PySem.W.BT.node (@Mine.hO9 P) (PySem.W.BT.node (@Mine.hO24 P) PySem.W.BT.nil PySem.W.BT.nil) PySem.W.BT.nil))))
noncomputable abbrev hO29 (P : PySem.Params) : PySem.Obj := (PySem.Obj.mk (PySem.Value.type "range_iterator") none (PySem.Data.fields #[(PySem.Value.int (@OfNat.ofNat.{0} @Int 55 (@instOfNat 55)) 0), (PySem.Value.int (@OfNat.ofNat.{0} @Int 201 (@instOfNat 201)) 0), (PySem.Value.int (@OfNat.ofNat.{0} @Int 1 (@instOfNat 1)) 0)]) #[])
noncomputable abbrev hO30 (P : PySem.Params) : PySem.Obj := (PySem.Obj.mk (PySem.Value.type "list") none (PySem.Data.seq (List.toArray ((PySem.Value.str (PySem.Str.ofString "=00") 205) :: (PySem.Value.str (PySem.Str.ofString "=01") 209) :: (PySem.Value.str (PySem.Str.ofString "=02") 213) :: (PySem.Value.str (PySem.Str.ofString "=03") 217) :: (PySem.Value.str (PySem.Str.ofString "=04") 221) :: (PySem.Value.str (PySem.Str.ofString "=05") 225) :: (PySem.Value.str (PySem.Str.ofString "=06") 229) :: (PySem.Value.str (PySem.Str.ofString "=07") 233) :: (PySem.Value.str (PySem.Str.ofString "=08") 237) :: (PySem.Value.str (PySem.Str.ofString "=09") 241) :: (PySem.Value.str (PySem.Str.ofString "=0A") 245) :: (PySem.Value.str (PySem.Str.ofString "=0B") 249) :: (PySem.Value.str (PySem.Str.ofString "=0C") 253) :: (PySem.Value.str (PySem.Str.ofString "=0D") 257) :: (PySem.Value.str (PySem.Str.ofString "=0E") 261) :: (PySem.Value.str (PySem.Str.ofString "=0F") 265) :: (PySem.Value.str (PySem.Str.ofString "=10") 269) :: (PySem.Value.str (PySem.Str.ofString "=11") 273) :: (PySem.Value.str (PySem.Str.ofString "=12") 277) :: (PySem.Value.str (PySem.Str.ofString "=13") 281) :: (PySem.Value.str (PySem.Str.ofString "=14") 285) :: (PySem.Value.str (PySem.Str.ofString "=15") 289) :: (PySem.Value.str (PySem.Str.ofString "=16") 293) :: (PySem.Value.str (PySem.Str.ofString "=17") 297) :: (PySem.Value.str (PySem.Str.ofString "=18") 301) :: (PySem.Value.str (PySem.Str.ofString "=19") 305) :: (PySem.Value.str (PySem.Str.ofString "=1A") 309) :: (PySem.Value.str (PySem.Str.ofString "=1B") 313) :: (PySem.Value.str (PySem.Str.ofString "=1C") 317) :: (PySem.Value.str (PySem.Str.ofString "=1D") 321) :: (PySem.Value.str (PySem.Str.ofString "=1E") 325) :: (PySem.Value.str (PySem.Str.ofString "=1F") 329) :: (PySem.Value.str (PySem.Str.ofString "=20") 333) :: (PySem.Value.str (PySem.Str.ofString "=21") 337) :: (PySem.Value.str (PySem.Str.ofString "=22") 341) :: (PySem.Value.str (PySem.Str.ofString "=23") 345) :: (PySem.Value.str (PySem.Str.ofString "=24") 349) :: (PySem.Value.str (PySem.Str.ofString "=25") 353) :: (PySem.Value.str (PySem.Str.ofString "=26") 357) :: (PySem.Value.str (PySem.Str.ofString "=27") 361) :: (PySem.Value.str (PySem.Str.ofString "=28") 365) :: (PySem.Value.str (PySem.Str.ofString "=29") 369) :: (PySem.Value.str (PySem.Str.ofString "=2A") 373) :: (PySem.Value.str (PySem.Str.ofString "=2B") 377) :: (PySem.Value.str (PySem.Str.ofString "=2C") 381) :: (PySem.Value.str (PySem.Str.ofString "=2D") 385) :: (PySem.Value.str (PySem.Str.ofString "=2E") 389) :: (PySem.Value.str (PySem.Str.ofString "=2F") 393) :: (PySem.Value.str (PySem.Str.ofString "=30") 397) :: (PySem.Value.str (PySem.Str.ofString "=31") 401) :: (PySem.Value.str (PySem.Str.ofString "=32") 405) :: (PySem.Value.str (PySem.Str.ofString "=33") 409) :: (PySem.Value.str (PySem.Str.ofString "=34") 413) :: (PySem.Value.str (PySem.Str.ofString "=35") 417) :: (PySem.Value.str (PySem.Str.ofString "=36") 421) :: [])) 55) #[])
noncomputable abbrev hO31 (P : PySem.Params) : PySem.Obj := (PySem.Obj.mk (PySem.Value.type "dict") none (PySem.Data.dict #[(PySem.DictEntry.mk (PySem.PyData.keyHash P (PySem.Str.ofString "c")) (PySem.Value.str (PySem.Str.ofString "c") 203) (PySem.Value.int (@OfNat.ofNat.{0} @Int 54 (@instOfNat 54)) 418))] 1) #[])
noncomputable abbrev hT32 (P : PySem.Params) : PySem.W.BT := (PySem.W.BT.node (@PySem.W.boot_o_0 P) (PySem.W.BT.node (@PySem.W.boot_o_1 P) (PySem.W.BT.node (@Mine.hO13 P) (PySem.W.BT.node (@PySem.W.boot_o_7 P) (PySem.W.BT.node (@Mine.hO15 P) PySem.W.BT.nil PySem.W.BT.nil) (PySem.W.BT.node (@Mine.hO29 P) PySem.W.BT.nil PySem.W.BT.nil)) (PySem.W.BT.node (@Mine.hO6 P) (PySem.W.BT.node (@Mine.hO19 P) PySem.W.BT.nil PySem.W.BT.nil) PySem.W.BT.nil)) (PySem.W.BT.node (@PySem.W.boot_o_5 P) (PySem.W.BT.node (@PySem.W.boot_o_9 P) (PySem.W.BT.node (@Mine.hO17 P) PySem.W.BT.nil PySem.W.BT.nil) (PySem.W.BT.node (@Mine.hO31 P) PySem.W.BT.nil PySem.W.BT.nil)) (PySem.W.BT.node (@Mine.hO8 P) (PySem.W.BT.node (@Mine.hO21 P) PySem.W.BT.nil PySem.W.BT.nil) PySem.W.BT.nil))) (PySem.W.BT.node (@PySem.W.boot_o_2 P) (PySem.W.BT.node (@PySem.W.boot_o_4 P) (PySem.W.BT.node (@PySem.W.boot_o_8 P) (PySem.W.BT.node (@Mine.hO16 P) PySem.W.BT.nil PySem.W.BT.nil) (PySem.W.BT.node (@Mine.hO30 P) PySem.W.BT.nil PySem.W.BT.nil)) (PySem.W.BT.node (@Mine.hO14 P) (PySem.W.BT.node (@Mine.hO20 P) PySem.W.BT.nil PySem.W.BT.nil) PySem.W.BT.nil)) (PySem.W.BT.node (@PySem.W.boot_o_6 P) (PySem.W.BT.node (@PySem.W.boot_o_10 P) (PySem.W.BT.node (@Mine.hO18 P) PySem.W.BT.nil PySem.W.BT.nil) PySem.W.BT.nil) (PySem.W.BT.node (@Mine.hO9 P) (PySem.W.BT.node (@Mine.hO24 P) PySem.W.BT.nil PySem.W.BT.nil) PySem.W.BT.nil))))
noncomputable abbrev hO33 (P : PySem.Params) : PySem.Obj := (PySem.Obj.mk (PySem.Value.type "range_iterator") none (PySem.Data.fields #[(PySem.Value.int (@OfNat.ofNat.{0} @Int 109 (@instOfNat 109)) 0), (PySem.Value.int (@OfNat.ofNat.{0} @Int 147 (@instOfNat 147)) 0), (PySem.Value.int (@OfNat.ofNat.{0} @Int 1 (@instOfNat 1)) 0)]) #[])
noncomputable abbrev hO34 (P : PySem.Params) : PySem.Obj := (PySem.Obj.mk (PySem.Value.type "list") none (PySem.Data.seq (List.toArray ((PySem.Value.str (PySem.Str.ofString "=00") 205) :: (PySem.Value.str (PySem.Str.ofString "=01") 209) :: (PySem.Value.str (PySem.Str.ofString "=02") 213) :: (PySem.Value.str (PySem.Str.ofString "=03") 217) :: (PySem.Value.str (PySem.Str.ofString "=04") 221) :: (PySem.Value.str (PySem.Str.ofString "=05") 225) :: (PySem.Value.str (PySem.Str.ofString "=06") 229) :: (PySem.Value.str (PySem.Str.ofString "=07") 233) :: (PySem.Value.str (PySem.Str.ofString "=08") 237) :: (PySem.Value.str (PySem.Str.ofString "=09") 241) :: (PySem.Value.str (PySem.Str.ofString "=0A") 245) :: (PySem.Value.str (PySem.Str.ofString "=0B") 249) :: (PySem.Value.str (PySem.Str.ofString "=0C") 253) :: (PySem.Value.str (PySem.Str.ofString "=0D") 257) :: (PySem.Value.str (PySem.Str.ofString "=0E") 261) :: (PySem.Value.str (PySem.Str.ofString "=0F") 265) :: (PySem.Value.str (PySem.Str.ofString "=10") 269) :: (PySem.Value.str (PySem.Str.ofString "=11") 273) :: (PySem.Value.str (PySem.Str.ofString "=12") 277) :: (PySem.Value.str (PySem.Str.ofString "=13") 281) :: (PySem.Value.str (PySem.Str.ofString "=14") 285) :: (PySem.Value.str (PySem.Str.ofString "=15") 289) :: (PySem.Value.str (PySem.Str.ofString "=16") 293) :: (PySem.Value.str (PySem.Str.ofString "=17") 297) :: (PySem.Value.str (PySem.Str.ofString "=18") 301) :: (PySem.Value.str (PySem.Str.ofString "=19") 305) :: (PySem.Value.str (PySem.Str.ofString "=1A") 309) :: (PySem.Value.str (PySem.Str.ofString "=1B") 313) :: (PySem.Value.str (PySem.Str.ofString "=1C") 317) :: (PySem.Value.str (PySem.Str.ofString "=1D") 321) :: (PySem.Value.str (PySem.Str.ofString "=1E") 325) :: (PySem.Value.str (PySem.Str.ofString "=1F") 329) :: (PySem.Value.str (PySem.Str.ofString "=20") 333) :: (PySem.Value.str (PySem.Str.ofString "=21") 337) :: (PySem.Value.str (PySem.Str.ofString "=22") 341) :: (PySem.Value.str (PySem.Str.ofString "=23") 345) :: (PySem.Value.str (PySem.Str.ofString "=24") 349) :: (PySem.Value.str (PySem.Str.ofString "=25") 353) :: (PySem.Value.str (PySem.Str.ofString "=26") 357) :: (PySem.Value.str (PySem.Str.ofString "=27") 361) :: (PySem.Value.str (PySem.Str.ofString "=28") 365) :: (PySem.Value.str (PySem.Str.ofString "=29") 369) :: (PySem.Value.str (PySem.Str.ofString "=2A") 373) :: (PySem.Value.str (PySem.Str.ofString "=2B") 377) :: (PySem.Value.str (PySem.Str.ofString "=2C") 381) :: (PySem.Value.str (PySem.Str.ofString "=2D") 385) :: (PySem.Value.str (PySem.Str.ofString "=2E") 389) :: (PySem.Value.str (PySem.Str.ofString "=2F") 393) :: (PySem.Value.str (PySem.Str.ofString "=30") 397) :: (PySem.Value.str (PySem.Str.ofString "=31") 401) :: (PySem.Value.str (PySem.Str.ofString "=32") 405) :: (PySem.Value.str (PySem.Str.ofString "=33") 409) :: (PySem.Value.str (PySem.Str.ofString "=34") 413) :: (PySem.Value.str (PySem.Str.ofString "=35") 417) :: (PySem.Value.str (PySem.Str.ofString "=36") 421) :: (PySem.Value.str (PySem.Str.ofString "=37") 425) :: (PySem.Value.str (PySem.Str.ofString "=38") 429) :: (PySem.Value.str (PySem.Str.ofString "=39") 433) :: (PySem.Value.str (PySem.Str.ofString "=3A") 437) :: (PySem.Value.str (PySem.Str.ofString "=3B") 441) :: (PySem.Value.str (PySem.Str.ofString "=3C") 445) :: (PySem.Value.str (PySem.Str.ofString "=3D") 449) :: (PySem.Value.str (PySem.Str.ofString "=3E") 453) :: (PySem.Value.str (PySem.Str.ofString "=3F") 457) :: (PySem.Value.str (PySem.Str.ofString "=40") 461) :: (PySem.Value.str (PySem.Str.ofString "=41") 465) :: (PySem.Value.str (PySem.Str.ofString "=42") 469) :: (PySem.Value.str (PySem.Str.ofString "=43") 473) :: (PySem.Value.str (PySem.Str.ofString "=44") 477) :: (PySem.Value.str (PySem.Str.ofString "=45") 481) :: (PySem.Value.str (PySem.Str.ofString "=46") 485) :: (PySem.Value.str (PySem.Str.ofString "=47") 489) :: (PySem.Value.str (PySem.Str.ofString "=48") 493) :: (PySem.Value.str (PySem.Str.ofString "=49") 497) :: (PySem.Value.str (PySem.Str.ofString "=4A") 501) :: (PySem.Value.str (PySem.Str.ofString "=4B") 505) :: (PySem.Value.str (PySem.Str.ofString "=4C") 509) :: (PySem.Value.str (PySem.Str.ofString "=4D") 513) :: (PySem.Value.str (PySem.Str.ofString "=4E") 517) :: (PySem.Value.str (PySem.Str.ofString "=4F") 521) :: (PySem.Value.str (PySem.Str.ofString "=50") 525) :: (PySem.Value.str (PySem.Str.ofString "=51") 529) :: (PySem.Value.str (PySem.Str.ofString "=52") 533) :: (PySem.Value.str (PySem.Str.ofString "=53") 537) :: (PySem.Value.str (PySem.Str.ofString "=54") 541) :: (PySem.Value.str (PySem.Str.ofString "=55") 545) :: (PySem.Value.str (PySem.Str.ofString "=56") 549) :: (PySem.Value.str (PySem.Str.ofString "=57") 553) :: (PySem.Value.str (PySem.Str.ofString "=58") 557) :: (PySem.Value.str (PySem.Str.ofString "=59") 561) :: (PySem.Value.str (PySem.Str.ofString "=5A") 565) :: (PySem.Value.str (PySem.Str.ofString "=5B") 569) :: (PySem.Value.str (PySem.Str.ofString "=5C") 573) :: (PySem.Value.str (PySem.Str.ofString "=5D") 577) :: (PySem.Value.str (PySem.Str.ofString "=5E") 581) :: (PySem.Value.str (PySem.Str.ofString "=5F") 585) :: (PySem.Value.str (PySem.Str.ofString "=60") 589) :: (PySem.Value.str (PySem.Str.ofString "=61") 593) :: (PySem.Value.str (PySem.Str.ofString "=62") 597) :: (PySem.Value.str (PySem.Str.ofString "=63") 601) :: (PySem.Value.str (PySem.Str.ofString "=64") 605) :: (PySem.Value.str (PySem.Str.ofString "=65") 609) :: (PySem.Value.str (PySem.Str.ofString "=66") 613) :: (PySem.Value.str (PySem.Str.ofString "=67") 617) :: (PySem.Value.str (PySem.Str.ofString "=68") 621) :: (PySem.Value.str (PySem.Str.ofString "=69") 625) :: (PySem.Value.str (PySem.Str.ofString "=6A") 629) :: (PySem.Value.str (PySem.Str.ofString "=6B") 633) :: (PySem.Value.str (PySem.Str.ofString "=6C") 637) :: [])) 109) #[])
noncomputable abbrev hO35 (P : PySem.Params) : PySem.Obj := (PySem.Obj.mk (PySem.Value.type "dict") none (PySem.Data.dict #[(PySem.DictEntry.mk (PySem.PyData.keyHash P (PySem.Str.ofString "c")) (PySem.Value.str (PySem.Str.ofString "c") 203) (PySem.Value.int (@OfNat.ofNat.{0} @Int 108 (@instOfNat 108)) 634))] 1) #[])
noncomputable abbrev hT36 (P : PySem.Params) : PySem.W.BT := (PySem.W.BT.node (@PySem.W.boot_o_0 P) (PySem.W.BT.node (@PySem.W.boot_o_1 P) (PySem.W.BT.node (@Mine.hO13 P) (PySem.W.BT.node (@PySem.W.boot_o_7 P) (PySem.W.BT.node (@Mine.hO15 P) PySem.W.BT.nil PySem.W.BT.nil) (PySem.W.BT.node (@Mine.hO33 P) PySem.W.BT.nil PySem.W.BT.nil)) (PySem.W.BT.node (@Mine.hO6 P) (PySem.W.BT.node (@Mine.hO19 P) PySem.W.BT.nil PySem.W.BT.nil) PySem.W.BT.nil)) (PySem.W.BT.node (@PySem.W.boot_o_5 P) (PySem.W.BT.node (@PySem.W.boot_o_9 P) (PySem.W.BT.node (@Mine.hO17 P) PySem.W.BT.nil PySem.W.BT.nil) (PySem.W.BT.node (@Mine.hO35 P) PySem.W.BT.nil PySem.W.BT.nil)) (PySem.W.BT.node (@Mine.hO8 P) (PySem.W.BT.node (@Mine.hO21 P) PySem.W.BT.nil PySem.W.BT.nil) PySem.W.BT.nil))) (PySem.W.BT.node (@PySem.W.boot_o_2 P) (PySem.W.BT.node (@PySem.W.boot_o_4 P) (PySem.W.BT.node (@PySem.W.boot_o_8 P) (PySem.W.BT.node (@Mine.hO16 P) PySem.W.BT.nil PySem.W.BT.nil) (PySem.W.BT.node (@Mine.hO34 P) PySem.W.BT.nil PySem.W.BT.nil)) (PySem.W.BT.node (@Mine.hO14 P) (PySem.W.BT.node (@Mine.hO20 P) PySem.W.BT.nil PySem.W.BT.nil) PySem.W.BT.nil)) (PySem.W.BT.node (@PySem.W.boot_o_6 P) (PySem.W.BT.node (@PySem.W.boot_o_10 P) (PySem.W.BT.node (@Mine.hO18 P) PySem.W.BT.nil PySem.W.BT.nil) PySem.W.BT.nil) (PySem.W.BT.node (@Mine.hO9 P) (PySem.W.BT.node (@Mine.hO24 P) PySem.W.BT.nil PySem.W.BT.nil) PySem.W.BT.nil))))
noncomputable abbrev hO37 (P : PySem.Params) : PySem.Obj := (PySem.Obj.mk (PySem.Value.type "range_iterator") none (PySem.Data.fields #[(PySem.Value.int (@OfNat.ofNat.{0} @Int 163 (@instOfNat 163)) 0), (PySem.Value.int (@OfNat.ofNat.{0} @Int 93 (@instOfNat 93)) 0), (PySem.Value.int (@OfNat.ofNat.{0} @Int 1 (@instOfNat 1)) 0)]) #[])
noncomputable abbrev hO38 (P : PySem.Params) : PySem.Obj := (PySem.Obj.mk (PySem.Value.type "list") none (PySem.Data.seq (List.toArray ((PySem.Value.str (PySem.Str.ofString "=00") 205) :: (PySem.Value.str (PySem.Str.ofString "=01") 209) :: (PySem.Value.str (PySem.Str.ofString "=02") 213) :: (PySem.Value.str (PySem.Str.ofString "=03") 217) :: (PySem.Value.str (PySem.Str.ofString "=04") 221) :: (PySem.Value.str (PySem.Str.ofString "=05") 225) :: (PySem.Value.str (PySem.Str.ofString "=06") 229) :: (PySem.Value.str (PySem.Str.ofString "=07") 233) :: (PySem.Value.str (PySem.Str.ofString "=08") 237) :: (PySem.Value.str (PySem.Str.ofString "=09") 241) :: (PySem.Value.str (PySem.Str.ofString "=0A") 245) :: (PySem.Value.str (PySem.Str.ofString "=0B") 249) :: (PySem.Value.str (PySem.Str.ofString "=0C") 253) :: (PySem.Value.str (PySem.Str.ofString "=0D") 257) :: (PySem.Value.str (PySem.Str.ofString "=0E") 261) :: (PySem.Value.str (PySem.Str.ofString "=0F") 265) :: (PySem.Value.str (PySem.Str.ofString "=10") 269) :: (PySem.Value.str (PySem.Str.ofString "=11") 273) :: (PySem.Value.str (PySem.Str.ofString "=12") 277) :: (PySem.Value.str (PySem.Str.ofString "=13") 281) :: (PySem.Value.str (PySem.Str.ofString "=14") 285) :: (PySem.Value.str (PySem.Str.ofString "=15") 289) :: (PySem.Value.str (PySem.Str.ofString "=16") 293) :: (PySem.Value.str (PySem.Str.ofString "=17") 297) :: (PySem.Value.str (PySem.Str.ofString "=18") 301) :: (PySem.Value.str (PySem.Str.ofString "=19") 305) :: (PySem.Value.str (PySem.Str.ofString "=1A") 309) :: (PySem.Value.str (PySem.Str.ofString "=1B") 313) :: (PySem.Value.str (PySem.Str.ofString "=1C") 317) :: (PySem.Value.str (PySem.Str.ofString "=1D") 321) :: (PySem.Value.str (PySem.Str.ofString "=1E") 325) :: (PySem.Value.str (PySem.Str.ofString "=1F") 329) :: (PySem.Value.str (PySem.Str.ofString "=20") 333) :: (PySem.Value.str (PySem.Str.ofString "=21") 337) :: (PySem.Value.str (PySem.Str.ofString "=22") 341) :: (PySem.Value.str (PySem.Str.ofString "=23") 345) :: (PySem.Value.str (PySem.Str.ofString "=24") 349) :: (PySem.Value.str (PySem.Str.ofString "=25") 353) :: (PySem.Value.str (PySem.Str.ofString "=26") 357) :: (PySem.Value.str (PySem.Str.ofString "=27") 361) :: (PySem.Value.str (PySem.Str.ofString "=28") 365) :: (PySem.Value.str (PySem.Str.ofString "=29") 369) :: (PySem.Value.str (PySem.Str.ofString "=2A") 373) :: (PySem.Value.str (PySem.Str.ofString "=2B") 377) :: (PySem.Value.str (PySem.Str.ofString "=2C") 381) :: (PySem.Value.str (PySem.Str.ofString "=2D") 385) :: (PySem.Value.str (PySem.Str.ofString "=2E") 389) :: (PySem.Value.str (PySem.Str.ofString "=2F") 393) :: (PySem.Value.str (PySem.Str.ofString "=30") 397) :: (PySem.Value.str (PySem.Str.ofString "=31") 401) :: (PySem.Value.str (PySem.Str.ofString "=32") 405) :: (PySem.Value.str (PySem.Str.ofString "=33") 409) :: (PySem.Value.str (PySem.Str.ofString "=34") 413) :: (PySem.Value.str (PySem.Str.ofString "=35") 417) :: (PySem.Value.str (PySem.Str.ofString "=36") 421) :: (PySem.Value.str (PySem.Str.ofString "=37") 425) :: (PySem.Value.str (PySem.Str.ofString "=38") 429) :: (PySem.Value.str (PySem.Str.ofString "=39") 433) :: (PySem.Value.str (PySem.Str.ofString "=3A") 437) :: (PySem.Value.str (PySem.Str.ofString "=3B") 441) :: (PySem.Value.str (PySem.Str.ofString "=3C") 445) :: (PySem.Value.str (PySem.Str.ofString "=3D") 449) :: (PySem.Value.str (PySem.Str.ofString "=3E") 453) :: (PySem.Value.str (PySem.Str.ofString "=3F") 457) :: (PySem.Value.str (PySem.Str.ofString "=40") 461) :: (PySem.Value.str (PySem.Str.ofString "=41") 465) :: (PySem.Value.str (PySem.Str.ofString "=42") 469) :: (PySem.Value.str (PySem.Str.ofString "=43") 473) :: (PySem.Value.str (PySem.Str.ofString "=44") 477) :: (PySem.Value.str (PySem.Str.ofString "=45") 481) :: (PySem.Value.str (PySem.Str.ofString "=46") 485) :: (PySem.Value.str (PySem.Str.ofString "=47") 489) :: (PySem.Value.str (PySem.Str.ofString "=48") 493) :: (PySem.Value.str (PySem.Str.ofString "=49") 497) :: (PySem.Value.str (PySem.Str.ofString "=4A") 501) :: (PySem.Value.str (PySem.Str.ofString "=4B") 505) :: (PySem.Value.str (PySem.Str.ofString "=4C") 509) :: (PySem.Value.str (PySem.Str.ofString "=4D") 513) :: (PySem.Value.str (PySem.Str.ofString "=4E") 517) :: (PySem.Value.str (PySem.Str.ofString "=4F") 521) :: (PySem.Value.str (PySem.Str.ofString "=50") 525) :: (PySem.Value.str (PySem.Str.ofString "=51") 529) :: (PySem.Value.str (PySem.Str.ofString "=52") 533) :: (PySem.Value.str (PySem.Str.ofString "=53") 537) :: (PySem.Value.str (PySem.Str.ofString "=54") 541) :: (PySem.Value.str (PySem.Str.ofString "=55") 545) :: (PySem.Value.str (PySem.Str.ofString "=56") 549) :: (PySem.Value.str (PySem.Str.ofString "=57") 553) :: (PySem.Value.str (PySem.Str.ofString "=58") 557) :: (PySem.Value.str (PySem.Str.ofString "=59") 561) :: (PySem.Value.str (PySem.Str.ofString "=5A") 565) :: (PySem.Value.str (PySem.Str.ofString "=5B") 569) :: (PySem.Value.str (PySem.Str.ofString "=5C") 573) :: (PySem.Value.str (PySem.Str.ofString "=5D") 577) :: (PySem.Value.str (PySem.Str.ofString "=5E") 581) :: (PySem.Value.str (PySem.Str.ofString "=5F") 585) :: (PySem.Value.str (PySem.Str.ofString "=60") 589) :: (PySem.Value.str (PySem.Str.ofString "=61") 593) :: (PySem.Value.str (PySem.Str.ofString "=62") 597) :: (PySem.Value.str (PySem.Str.ofString "=63") 601) :: (PySem.Value.str (PySem.Str.ofString "=64") 605) :: (PySem.Value.str (PySem.Str.ofString "=65") 609) :: (PySem.Value.str (PySem.Str.ofString "=66") 613) :: (PySem.Value.str (PySem.Str.ofString "=67") 617) :: (PySem.Value.str (PySem.Str.ofString "=68") 621) :: (PySem.Value.str (PySem.Str.ofString "=69") 625) :: (PySem.Value.str (PySem.Str.ofString "=6A") 629) :: (PySem.Value.str (PySem.Str.ofString "=6B") 633) :: (PySem.Value.str (PySem.Str.ofString "=6C") 637) :: (PySem.Value.str (PySem.Str.ofString "=6D") 641) :: (PySem.Value.str (PySem.Str.ofString "=6E") 645) :: (PySem.Value.str (PySem.Str.ofString "=6F") 649) :: (PySem.Value.str (PySem.Str.ofString "=70") 653) :: (PySem.Value.str (PySem.Str.ofString "=71") 657) :: (PySem.Value.str (PySem.Str.ofString "=72") 661) :: (PySem.Value.str (PySem.Str.ofString "=73") 665) :: (PySem.Value.str (PySem.Str.ofString "=74") 669) :: (PySem.Value.str (PySem.Str.ofString "=75") 673) :: (PySem.Value.str (PySem.Str.ofString "=76") 677) :: (PySem.Value.str (PySem.Str.ofString "=77") 681) :: (PySem.Value.str (PySem.Str.ofString "=78") 685) :: (PySem.Value.str (PySem.Str.ofString "=79") 689) :: (PySem.Value.str (PySem.Str.ofString "=7A") 693) :: (PySem.Value.str (PySem.Str.ofString "=7B") 697) :: (PySem.Value.str (PySem.Str.ofString "=7C") 701) :: (PySem.Value.str (PySem.Str.ofString "=7D") 705) :: (PySem.Value.str (PySem.Str.ofString "=7E") 709) :: (PySem.Value.str (PySem.Str.ofString "=7F") 713) :: (PySem.Value.str (PySem.Str.ofString "=80") 717) :: (PySem.Value.str (PySem.Str.ofString "=81") 721) :: (PySem.Value.str (PySem.Str.ofString "=82") 725) :: (PySem.Value.str (PySem.Str.ofString "=83") 729) :: (PySem.Value.str (PySem.Str.ofString "=84") 733) :: (PySem.Value.str (PySem.Str.ofString "=85") 737) :: (PySem.Value.str (PySem.Str.ofString "=86") 741) :: (PySem.Value.str (PySem.Str.ofString "=87") 745) :: (PySem.Value.str (PySem.Str.ofString "=88") 749) :: (PySem.Value.str (PySem.Str.ofString "=89") 753) :: (PySem.Value.str (PySem.Str.ofString "=8A") 757) :: (PySem.Value.str (PySem.Str.ofString "=8B") 761) :: (PySem.Value.str (PySem.Str.ofString "=8C") 765) :: (PySem.Value.str (PySem.Str.ofString "=8D") 769) :: (PySem.Value.str (PySem.Str.ofString "=8E") 773) :: (PySem.Value.str (PySem.Str.ofString "=8F") 777) :: (PySem.Value.str (PySem.Str.ofString "=90") 781) :: (PySem.Value.str (PySem.Str.ofString "=91") 785) :: (PySem.Value.str (PySem.Str.ofString "=92") 789) :: (PySem.Value.str (PySem.Str.ofString "=93") 793) :: (PySem.Value.str (PySem.Str.ofString "=94") 797) :: (PySem.Value.str (PySem.Str.ofString "=95") 801) :: (PySem.Value.str (PySem.Str.ofString "=96") 805) :: (PySem.Value.str (PySem.Str.ofString "=97") 809) :: (PySem.Value.str (PySem.Str.ofString "=98") 813) :: (PySem.Value.str (PySem.Str.ofString "=99") 817) :: (PySem.Value.str (PySem.Str.ofString "=9A") 821) :: (PySem.Value.str (PySem.Str.ofString "=9B") 825) :: (PySem.Value.str (PySem.Str.ofString "=9C") 829) :: (PySem.Value.str (PySem.Str.ofString "=9D") 833) :: (PySem.Value.str (PySem.Str.ofString "=9E") 837) :: (PySem.Value.str (PySem.Str.ofString "=9F") 841) :: (PySem.Value.str (PySem.Str.ofString "=A0") 845) :: (PySem.Value.str (PySem.Str.ofString "=A1") 849) :: (PySem.Value.str (PySem.Str.ofString "=A2") 853) :: [])) 163) #[])
noncomputable abbrev hO39 (P : PySem.Params) : PySem.Obj := (PySem.Obj.mk (PySem.Value.type "dict") none (PySem.Data.dict #[(PySem.DictEntry.mk (PySem.PyData.keyHash P (PySem.Str.ofString "c")) (PySem.Value.str (PySem.Str.ofString "c") 203) (PySem.Value.int (@OfNat.ofNat.{0} @Int 162 (@instOfNat 162)) 850))] 1) #[])
noncomputable abbrev hT40 (P : PySem.Params) : PySem.W.BT := (PySem.W.BT.node (@PySem.W.boot_o_0 P) (PySem.W.BT.node (@PySem.W.boot_o_1 P) (PySem.W.BT.node (@Mine.hO13 P) (PySem.W.BT.node (@PySem.W.boot_o_7 P) (PySem.W.BT.node (@Mine.hO15 P) PySem.W.BT.nil PySem.W.BT.nil) (PySem.W.BT.node (@Mine.hO37 P) PySem.W.BT.nil PySem.W.BT.nil)) (PySem.W.BT.node (@Mine.hO6 P) (PySem.W.BT.node (@Mine.hO19 P) PySem.W.BT.nil PySem.W.BT.nil) PySem.W.BT.nil)) (PySem.W.BT.node (@PySem.W.boot_o_5 P) (PySem.W.BT.node (@PySem.W.boot_o_9 P) (PySem.W.BT.node (@Mine.hO17 P) PySem.W.BT.nil PySem.W.BT.nil) (PySem.W.BT.node (@Mine.hO39 P) PySem.W.BT.nil PySem.W.BT.nil)) (PySem.W.BT.node (@Mine.hO8 P) (PySem.W.BT.node (@Mine.hO21 P) PySem.W.BT.nil PySem.W.BT.nil) PySem.W.BT.nil))) (PySem.W.BT.node (@PySem.W.boot_o_2 P) (PySem.W.BT.node (@PySem.W.boot_o_4 P) (PySem.W.BT.node (@PySem.W.boot_o_8 P) (PySem.W.BT.node (@Mine.hO16 P) PySem.W.BT.nil PySem.W.BT.nil) (PySem.W.BT.node (@Mine.hO38 P) PySem.W.BT.nil PySem.W.BT.nil)) (PySem.W.BT.node (@Mine.hO14 P) (PySem.W.BT.node (@Mine.hO20 P) PySem.W.BT.nil PySem.W.BT.nil) PySem.W.BT.nil)) (PySem.W.BT.node (@PySem.W.boot_o_6 P) (PySem.W.BT.node (@PySem.W.boot_o_10 P) (PySem.W.BT.node (@Mine.hO18 P) PySem.W.BT.nil PySem.W.BT.nil) PySem.W.BT.nil) (PySem.W.BT.node (@Mine.hO9 P) (PySem.W.BT.node (@Mine.hO24 P) PySem.W.BT.nil PySem.W.BT.nil) PySem.W.BT.nil))))
noncomputable abbrev hO41 (P : PySem.Params) : PySem.Obj := (PySem.Obj.mk (PySem.Value.type "range_iterator") none (PySem.Data.fields #[(PySem.Value.int (@OfNat.ofNat.{0} @Int 217 (@instOfNat 217)) 0), (PySem.Value.int (@OfNat.ofNat.{0} @Int 39 (@instOfNat 39)) 0), (PySem.Value.int (@OfNat.ofNat.{0} @Int 1 (@instOfNat 1)) 0)]) #[])
noncomputable abbrev hO42 (P : PySem.Params) : PySem.Obj := (PySem.Obj.mk (PySem.Value.type "list") none (PySem.Data.seq (List.toArray ((PySem.Value.str (PySem.Str.ofString "=00") 205) :: (PySem.Value.str (PySem.Str.ofString "=01") 209) :: (PySem.Value.str (PySem.Str.ofString "=02") 213) :: (PySem.Value.str (PySem.Str.ofString "=03") 217) :: (PySem.Value.str (PySem.Str.ofString "=04") 221) :: (PySem.Value.str (PySem.Str.ofString "=05") 225) :: (PySem.Value.str (PySem.Str.ofString "=06") 229) :: (PySem.Value.str (PySem.Str.ofString "=07") 233) :: (PySem.Value.str (PySem.Str.ofString "=08") 237) :: (PySem.Value.str (PySem.Str.ofString "=09") 241) :: (PySem.Value.str (PySem.Str.ofString "=0A") 245) :: (PySem.Value.str (PySem.Str.ofString "=0B") 249) :: (PySem.Value.str (PySem.Str.ofString "=0C") 253) :: (PySem.Value.str (PySem.Str.ofString "=0D") 257) :: (PySem.Value.str (PySem.Str.ofString "=0E") 261) :: (PySem.Value.str (PySem.Str.ofString "=0F") 265) :: (PySem.Value.str (PySem.Str.ofString "=10") 269) :: (PySem.Value.str (PySem.Str.ofString "=11") 273) :: (PySem.Value.str (PySem.Str.ofString "=12") 277) :: (PySem.Value.str (PySem.Str.ofString "=13") 281) :: (PySem.Value.str (PySem.Str.ofString "=14") 285) :: (PySem.Value.str (PySem.Str.ofString "=15") 289) :: (PySem.Value.str (PySem.Str.ofString "=16") 293) :: (PySem.Value.str (PySem.Str.ofString "=17") 297) :: (PySem.Value.str (PySem.Str.ofString "=18") 301) :: (PySem.Value.str (PySem.Str.ofString "=19") 305) :: (PySem.Value.str (PySem.Str.ofString "=1A") 309) :: (PySem.Value.str (PySem.Str.ofString "=1B") 313) :: (PySem.Value.str (PySem.Str.ofString "=1C") 317) :: (PySem.Value.str (PySem.Str.ofString "=1D") 321) :: (PySem.Value.str (PySem.Str.ofString "=1E") 325) :: (PySem.Value.str (PySem.Str.ofString "=1F") 329) :: (PySem.Value.str (PySem.Str.ofString "=20") 333) :: (PySem.Value.str (PySem.Str.ofString "=21") 337) :: (PySem.Value.str (PySem.Str.ofString "=22") 341) :: (PySem.Value.str (PySem.Str.ofString "=23") 345) :: (PySem.Value.str (PySem.Str.ofString "=24") 349) :: (PySem.Value.str (PySem.Str.ofString "=25") 353) :: (PySem.Value.str (PySem.Str.ofString "=26") 357) :: (PySem.Value.str (PySem.Str.ofString "=27") 361) :: (PySem.Value.str (PySem.Str.ofString "=28") 365) :: (PySem.Value.str (PySem.Str.ofString "=29") 369) :: (PySem.Value.str (PySem.Str.ofString "=2A") 373) :: (PySem.Value.str (PySem.Str.ofString "=2B") 377) :: (PySem.Value.str (PySem.Str.ofString "=2C") 381) :: (PySem.Value.str (PySem.Str.ofString "=2D") 385) :: (PySem.Value.str (PySem.Str.ofString "=2E") 389) :: (PySem.Value.str (PySem.Str.ofString "=2F") 393) :: (PySem.Value.str (PySem.Str.ofString "=30") 397) :: (PySem.Value.str (PySem.Str.ofString "=31") 401) :: (PySem.Value.str (PySem.Str.ofString "=32") 405) :: (PySem.Value.str (PySem.Str.ofString "=33") 409) :: (PySem.Value.str (PySem.Str.ofString "=34") 413) :: (PySem.Value.str (PySem.Str.ofString "=35") 417) :: (PySem.Value.str (PySem.Str.ofString "=36") 421) :: (PySem.Value.str (PySem.Str.ofString "=37") 425) :: (PySem.Value.str (PySem.Str.ofString "=38") 429) :: (PySem.Value.str (PySem.Str.ofString "=39") 433) :: (PySem.Value.str (PySem.Str.ofString "=3A") 437) :: (PySem.Value.str (PySem.Str.ofString "=3B") 441) :: (PySem.Value.str (PySem.Str.ofString "=3C") 445) :: (PySem.Value.str (PySem.Str.ofString "=3D") 449) :: (PySem.Value.str (PySem.Str.ofString "=3E") 453) :: (PySem.Value.str (PySem.Str.ofString "=3F") 457) :: (PySem.Value.str (PySem.Str.ofString "=40") 461) :: (PySem.Value.str (PySem.Str.ofString "=41") 465) :: (PySem.Value.str (PySem.Str.ofString "=42") 469) :: (PySem.Value.str (PySem.Str.ofString "=43") 473) :: (PySem.Value.str (PySem.Str.ofString "=44") 477) :: (PySem.Value.str (PySem.Str.ofString "=45") 481) :: (PySem.Value.str (PySem.Str.ofString "=46") 485) :: (PySem.Value.str (PySem.Str.ofString "=47") 489) :: (PySem.Value.str (PySem.Str.ofString "=48") 493) :: (PySem.Value.str (PySem.Str.ofString "=49") 497) :: (PySem.Value.str (PySem.Str.ofString "=4A") 501) :: (PySem.Value.str (PySem.Str.ofString "=4B") 505) :: (PySem.Value.str (PySem.Str.ofString "=4C") 509) :: (PySem.Value.str (PySem.Str.ofString "=4D") 513) :: (PySem.Value.str (PySem.Str.ofString "=4E") 517) :: (PySem.Value.str (PySem.Str.ofString "=4F") 521) :: (PySem.Value.str (PySem.Str.ofString "=50") 525) :: (PySem.Value.str (PySem.Str.ofString "=51") 529) :: (PySem.Value.str (PySem.Str.ofString "=52") 533) :: (PySem.Value.str (PySem.Str.ofString "=53") 537) :: (PySem.Value.str (PySem.Str.ofString "=54") 541) :: (PySem.Value.str (PySem.Str.ofString "=55") 545) :: (PySem.Value.str (PySem.Str.ofString "=56") 549) :: (PySem.Value.str (PySem.Str.ofString "=57") 553) :: (PySem.Value.str (PySem.Str.ofString "=58") 557) :: (PySem.Value.str (PySem.Str.ofString "=59") 561) :: (PySem.Value.str (PySem.Str.ofString "=5A") 565) :: (PySem.Value.str (PySem.Str.ofString "=5B") 569) :: (PySem.Value.str (PySem.Str.ofString "=5C") 573) :: (PySem.Value.str (PySem.Str.ofString "=5D") 577) :: (PySem.Value.str (PySem.Str.ofString "=5E") 581) :: (PySem.Value.str (PySem.Str.ofString "=5F") 585) :: (PySem.Value.str (PySem.Str.ofString "=60") 589) :: (PySem.Value.str (PySem.Str.ofString "=61") 593) :: (PySem.Value.str (PySem.Str.ofString "=62") 597) :: (PySem.Value.str (PySem.Str.ofString "=63") 601) :: (PySem.Value.str (PySem.Str.ofString "=64") 605) :: (PySem.Value.str (PySem.Str.ofString "=65") 609) :: (PySem.Value.str (PySem.Str.ofString "=66") 613) :: (PySem.Value.str (PySem.Str.ofString "=67") 617) :: (PySem.Value.str (PySem.Str.ofString "=68") 621) :: (PySem.Value.str (PySem.Str.ofString "=69") 625) :: (PySem.Value.str (PySem.Str.ofString "=6A") 629) :: (PySem.Value.str (PySem.Str.ofString "=6B") 633) :: (PySem.Value.str (PySem.Str.ofString "=6C") 637) :: (PySem.Value.str (PySem.Str.ofString "=6D") 641) :: (PySem.Value.str (PySem.Str.ofString "=6E") 645) :: (PySem.Value.str (PySem.Str.ofString "=6F") 649) :: (PySem.Value.str (PySem.Str.ofString "=70") 653) :: (PySem.Value.str (PySem.Str.ofString "=71") 657) :: (PySem.Value.str (PySem.Str.ofString "=72") 661) :: (PySem.Value.str (PySem.Str.ofString "=73") 665) :: (PySem.Value.str (PySem.Str.ofString "=74") 669) :: (PySem.Value.str (PySem.Str.ofString "=75") 673) :: (PySem.Value.str (PySem.Str.ofString "=76") 677) :: (PySem.Value.str (PySem.Str.ofString "=77") 681) :: (PySem.Value.str (PySem.Str.ofString "=78") 685) :: (PySem.Value.str (PySem.Str.ofString "=79") 689) :: (PySem.Value.str (PySem.Str.ofString "=7A") 693) :: (PySem.Value.str (PySem.Str.ofString "=7B") 697) :: (PySem.Value.str (PySem.Str.ofString "=7C") 701) :: (PySem.Value.str (PySem.Str.ofString "=7D") 705) :: (PySem.Value.str (PySem.Str.ofString "=7E") 709) :: (PySem.Value.str (PySem.Str.ofString "=7F") 713) :: (PySem.Value.str (PySem.Str.ofString "=80") 717) :: (PySem.Value.str (PySem.Str.ofString "=81") 721) :: (PySem.Value.str (PySem.Str.ofString "=82") 725) :: (PySem.Value.str (PySem.Str.ofString "=83") 729) :: (PySem.Value.str (PySem.Str.ofString "=84") 733) :: (PySem.Value.str (PySem.Str.ofString "=85") 737) :: (PySem.Value.str (PySem.Str.ofString "=86") 741) :: (PySem.Value.str (PySem.Str.ofString "=87") 745) :: (PySem.Value.str (PySem.Str.ofString "=88") 749) :: (PySem.Value.str (PySem.Str.ofString "=89") 753) :: (PySem.Value.str (PySem.Str.ofString "=8A") 757) :: (PySem.Value.str (PySem.Str.ofString "=8B") 761) :: (PySem.Value.str (PySem.Str.ofString "=8C") 765) :: (PySem.Value.str (PySem.Str.ofString "=8D") 769) :: (PySem.Value.str (PySem.Str.ofString "=8E") 773) :: (PySem.Value.str (PySem.Str.ofString "=8F") 777) :: (PySem.Value.str (PySem.Str.ofString "=90") 781) :: (PySem.Value.str (PySem.Str.ofString "=91") 785) :: (PySem.Value.str (PySem.Str.ofString "=92") 789) :: (PySem.Value.str (PySem.Str.ofString "=93") 793) :: (PySem.Value.str (PySem.Str.ofString "=94") 797) :: (PySem.Value.str (PySem.Str.ofString "=95") 801) :: (PySem.Value.str (PySem.Str.ofString "=96") 805) :: (PySem.Value.str (PySem.Str.ofString "=97") 809) :: (PySem.Value.str (PySem.Str.ofString "=98") 813) :: (PySem.Value.str (PySem.Str.ofString "=99") 817) :: (PySem.Value.str (PySem.Str.ofString "=9A") 821) :: (PySem.Value.str (PySem.Str.ofString "=9B") 825) :: (PySem.Value.str (PySem.Str.ofString "=9C") 829) :: (PySem.Value.str (PySem.Str.ofString "=9D") 833) :: (PySem.Value.str (PySem.Str.ofString "=9E") 837) :: (PySem.Value.str (PySem.Str.ofString "=9F") 841) :: (PySem.Value.str (PySem.Str.ofString "=A0") 845) :: (PySem.Value.str (PySem.Str.ofString "=A1") 849) :: (PySem.Value.str (PySem.Str.ofString "=A2") 853) :: (PySem.Value.str (PySem.Str.ofString "=A3") 857) :: (PySem.Value.str (PySem.Str.ofString "=A4") 861) :: (PySem.Value.str (PySem.Str.ofString "=A5") 865) :: (PySem.Value.str (PySem.Str.ofString "=A6") 869) :: (PySem.Value.str (PySem.Str.ofString "=A7") 873) :: (PySem.Value.str (PySem.Str.ofString "=A8") 877) :: (PySem.Value.str (PySem.Str.ofString "=A9") 881) :: (PySem.Value.str (PySem.Str.ofString "=AA") 885) :: (PySem.Value.str (PySem.Str.ofString "=AB") 889) :: (PySem.Value.str (PySem.Str.ofString "=AC") 893) :: (PySem.Value.str (PySem.Str.ofString "=AD") 897) :: (PySem.Value.str (PySem.Str.ofString "=AE") 901) :: (PySem.Value.str (PySem.Str.ofString "=AF") 905) :: (PySem.Value.str (PySem.Str.ofString "=B0") 909) :: (PySem.Value.str (PySem.Str.ofString "=B1") 913) :: (PySem.Value.str (PySem.Str.ofString "=B2") 917) :: (PySem.Value.str (PySem.Str.ofString "=B3") 921) :: (PySem.Value.str (PySem.Str.ofString "=B4") 925) :: (PySem.Value.str (PySem.Str.ofString "=B5") 929) :: (PySem.Value.str (PySem.Str.ofString "=B6") 933) :: (PySem.Value.str (PySem.Str.ofString "=B7") 937) :: (PySem.Value.str (PySem.Str.ofString "=B8") 941) :: (PySem.Value.str (PySem.Str.ofString "=B9") 945) :: (PySem.Value.str (PySem.Str.ofString "=BA") 949) :: (PySem.Value.str (PySem.Str.ofString "=BB") 953) :: (PySem.Value.str (PySem.Str.ofString "=BC") 957) :: (PySem.Value.str (PySem.Str.ofString "=BD") 961) :: (PySem.Value.str (PySem.Str.ofString "=BE") 965) :: (PySem.Value.str (PySem.Str.ofString "=BF") 969) :: (PySem.Value.str (PySem.Str.ofString "=C0") 973) :: (PySem.Value.str (PySem.Str.ofString "=C1") 977) :: (PySem.Value.str (PySem.Str.ofString "=C2") 981) :: (PySem.Value.str (PySem.Str.ofString "=C3") 985) :: (PySem.Value.str (PySem.Str.ofString "=C4") 989) :: (PySem.Value.str (PySem.Str.ofString "=C5") 993) :: (PySem.Value.str (PySem.Str.ofString "=C6") 997) :: (PySem.Value.str (PySem.Str.ofString "=C7") 1001) :: (PySem.Value.str (PySem.Str.ofString "=C8") 1005) :: (PySem.Value.str (PySem.Str.ofString "=C9") 1009) :: (PySem.Value.str (PySem.Str.ofString "=CA") 1013) :: (PySem.Value.str (PySem.Str.ofString "=CB") 1017) :: (PySem.Value.str (PySem.Str.ofString "=CC") 1021) :: (PySem.Value.str (PySem.Str.ofString "=CD") 1025) :: (PySem.Value.str (PySem.Str.ofString "=CE") 1029) :: (PySem.Value.str (PySem.Str.ofString "=CF") 1033) :: (PySem.Value.str (PySem.Str.ofString "=D0") 1037) :: (PySem.Value.str (PySem.Str.ofString "=D1") 1041) :: (PySem.Value.str (PySem.Str.ofString "=D2") 1045) :: (PySem.Value.str (PySem.Str.ofString "=D3") 1049) :: (PySem.Value.str (PySem.Str.ofString "=D4") 1053) :: (PySem.Value.str (PySem.Str.ofString "=D5") 1057) :: (PySem.Value.str (PySem.Str.ofString "=D6") 1061) :: (PySem.Value.str (PySem.Str.ofString "=D7") 1065) :: (PySem.Value.str (PySem.Str.ofString "=D8") 1069) :: [])) 217) #[])
noncomputable abbrev hO43 (P : PySem.Params) : PySem.Obj := (PySem.Obj.mk (PySem.Value.type "dict") none (PySem.Data.dict #[(PySem.DictEntry.mk (PySem.PyData.keyHash P (PySem.Str.ofString "c")) (PySem.Value.str (PySem.Str.ofString "c") 203) (PySem.Value.int (@OfNat.ofNat.{0} @Int 216 (@instOfNat 216)) 1066))] 1) #[])
noncomputable abbrev hT44 (P : PySem.Params) : PySem.W.BT := (PySem.W.BT.node (@PySem.W.boot_o_0 P) (PySem.W.BT.node (@PySem.W.boot_o_1 P) (PySem.W.BT.node (@Mine.hO13 P) (PySem.W.BT.node (@PySem.W.boot_o_7 P) (PySem.W.BT.node (@Mine.hO15 P) PySem.W.BT.nil PySem.W.BT.nil) (PySem.W.BT.node (@Mine.hO41 P) PySem.W.BT.nil PySem.W.BT.nil)) (PySem.W.BT.node (@Mine.hO6 P) (PySem.W.BT.node (@Mine.hO19 P) PySem.W.BT.nil PySem.W.BT.nil) PySem.W.BT.nil)) (PySem.W.BT.node (@PySem.W.boot_o_5 P) (PySem.W.BT.node (@PySem.W.boot_o_9 P) (PySem.W.BT.node (@Mine.hO17 P) PySem.W.BT.nil PySem.W.BT.nil) (PySem.W.BT.node (@Mine.hO43 P) PySem.W.BT.nil PySem.W.BT.nil)) (PySem.W.BT.node (@Mine.hO8 P) (PySem.W.BT.node (@Mine.hO21 P) PySem.W.BT.nil PySem.W.BT.nil) PySem.W.BT.nil))) (PySem.W.BT.node (@PySem.W.boot_o_2 P) (PySem.W.BT.node (@PySem.W.boot_o_4 P) (PySem.W.BT.node (@PySem.W.boot_o_8 P) (PySem.W.BT.node (@Mine.hO16 P) PySem.W.BT.nil PySem.W.BT.nil) (PySem.W.BT.node (@Mine.hO42 P) PySem.W.BT.nil PySem.W.BT.nil)) (PySem.W.BT.node (@Mine.hO14 P) (PySem.W.BT.node (@Mine.hO20 P) PySem.W.BT.nil PySem.W.BT.nil) PySem.W.BT.nil)) (PySem.W.BT.node (@PySem.W.boot_o_6 P) (PySem.W.BT.node (@PySem.W.boot_o_10 P) (PySem.W.BT.node (@Mine.hO18 P) PySem.W.BT.nil PySem.W.BT.nil) PySem.W.BT.nil) (PySem.W.BT.node (@Mine.hO9 P) (PySem.W.BT.node (@Mine.hO24 P) PySem.W.BT.nil PySem.W.BT.nil) PySem.W.BT.nil))))
noncomputable abbrev hO45 (P : PySem.Params) : PySem.Obj := (PySem.Obj.mk (PySem.Value.type "dict") none (PySem.Data.dict #[(PySem.DictEntry.mk (PySem.PyData.keyHash P (PySem.Str.ofString "__name__")) (PySem.Value.str (PySem.Str.ofString "__name__") 165) (PySem.Value.str (PySem.Str.ofString "cpy313.pydoc") 187)), (PySem.DictEntry.mk (PySem.PyData.keyHash P (PySem.Str.ofString "__doc__")) (PySem.Value.str (PySem.Str.ofString "__doc__") 166) PySem.Value.none), (PySem.DictEntry.mk (PySem.PyData.keyHash P (PySem.Str.ofString "__package__")) (PySem.Value.str (PySem.Str.ofString "__package__") 167) PySem.Value.none), (PySem.DictEntry.mk (PySem.PyData.keyHash P (PySem.Str.ofString "__loader__")) (PySem.Value.str (PySem.Str.ofString "__loader__") 168) (PySem.Value.builtin "__main__.__loader__#opaque")), (PySem.DictEntry.mk (PySem.PyData.keyHash P (PySem.Str.ofString "__spec__")) (PySem.Value.str (PySem.Str.ofString "__spec__") 169) PySem.Value.none), (PySem.DictEntry.mk (PySem.PyData.keyHash P (PySem.Str.ofString "__annotations__")) (PySem.Value.str (PySem.Str.ofString "__annotations__") 170) (PySem.Value.ref 6)), (PySem.DictEntry.mk (PySem.PyData.keyHash P (PySem.Str.ofString "__builtins__")) (PySem.Value.str (PySem.Str.ofString "__builtins__") 171) (PySem.Value.ref 4)), (PySem.DictEntry.mk (PySem.PyData.keyHash P (PySem.Str.ofString "__file__")) (PySem.Value.str (PySem.Str.ofString "__file__") 173) (PySem.Value.str (PySem.Str.ofString "/claim/cut.py") 172)), (PySem.DictEntry.mk (PySem.PyData.keyHash P (PySem.Str.ofString "__cached__")) (PySem.Value.str (PySem.Str.ofString "__cached__") 174) PySem.Value.none), (PySem.DictEntry.mk (PySem.PyData.keyHash P (PySem.Str.ofString "replace")) (PySem.Value.str (PySem.Str.ofString "replace") 196) (PySem.Value.ref 21)), (PySem.DictEntry.mk (PySem.PyData.keyHash P (PySem.Str.ofString "NL")) (PySem.Value.str (PySem.Str.ofString "NL") 198) (PySem.Value.str (PySem.Str.ofString "\n") 197)), (PySem.DictEntry.mk (PySem.PyData.keyHash P (PySem.Str.ofString "_QUOPRI_MAP")) (PySem.Value.str (PySem.Str.ofString "_QUOPRI_MAP") 1226) (PySem.Value.ref 24))] 12) #[])
noncomputable abbrev hO46 (P : PySem.Params) : PySem.Obj := (PySem.Obj.mk (PySem.Value.type "range") none (PySem.Data.fields #[(PySem.Value.int (@OfNat.ofNat.{0} @Int 0 (@instOfNat 0)) 200), (PySem.Value.int (@OfNat.ofNat.{0} @Int 256 (@instOfNat 256)) 199), (PySem.Value.int (@OfNat.ofNat.{0} @Int 1 (@instOfNat 1)) 201)]) #[])
noncomputable abbrev hO47 (P : PySem.Params) : PySem.Obj := (PySem.Obj.mk (PySem.Value.type "range_iterator") none (PySem.Data.fields #[(PySem.Value.int (@OfNat.ofNat.{0} @Int 256 (@instOfNat 256)) 0), (PySem.Value.int (@OfNat.ofNat.{0} @Int 0 (@instOfNat 0)) 0), (PySem.Value.int (@OfNat.ofNat.{0} @Int 1 (@instOfNat 1)) 0)]) #[])
noncomputable abbrev hO48 (P : PySem.Params) : PySem.Obj := (PySem.Obj.mk (PySem.Value.type "list") none (PySem.Data.seq (List.toArray ((PySem.Value.str (PySem.Str.ofString "=00") 205) :: (PySem.Value.str (PySem.Str.ofString "=01") 209) :: (PySem.Value.str (PySem.Str.ofString "=02") 213) :: (PySem.Value.str (PySem.Str.ofString "=03") 217) :: (PySem.Value.str (PySem.Str.ofString "=04") 221) :: (PySem.Value.str (PySem.Str.ofString "=05") 225) :: (PySem.Value.str (PySem.Str.ofString "=06") 229) :: (PySem.Value.str (PySem.Str.ofString "=07") 233) :: (PySem.Value.str (PySem.Str.ofString "=08") 237) :: (PySem.Value.str (PySem.Str.ofString "=09") 241) :: (PySem.Value.str (PySem.Str.ofString "=0A") 245) :: (PySem.Value.str (PySem.Str.ofString "=0B") 249) :: (PySem.Value.str (PySem.Str.ofString "=0C") 253) :: (PySem.Value.str (PySem.Str.ofString "=0D") 257) :: (PySem.Value.str (PySem.Str.ofString "=0E") 261) :: (PySem.Value.str (PySem.Str.ofString "=0F") 265) :: (PySem.Value.str (PySem.Str.ofString "=10") 269) :: (PySem.Value.str (PySem.Str.ofString "=11") 273) :: (PySem.Value.str (PySem.Str.ofString "=12") 277) :: (PySem.Value.str (PySem.Str.ofString "=13") 281) :: (PySem.Value.str (PySem.Str.ofString "=14") 285) :: (PySem.Value.str (PySem.Str.ofString "=15") 289) :: (PySem.Value.str (PySem.Str.ofString "=16") 293) :: (PySem.Value.str (PySem.Str.ofString "=17") 297) :: (PySem.Value.str (PySem.Str.ofString "=18") 301) :: (PySem.Value.str (PySem.Str.ofString "=19") 305) :: (PySem.Value.str (PySem.Str.ofString "=1A") 309) :: (PySem.Value.str (PySem.Str.ofString "=1B") 313) :: (PySem.Value.str (PySem.Str.ofString "=1C") 317) :: (PySem.Value.str (PySem.Str.ofString "=1D") 321) :: (PySem.Value.str (PySem.Str.ofString "=1E") 325) :: (PySem.Value.str (PySem.Str.ofString "=1F") 329) :: (PySem.Value.str (PySem.Str.ofString "=20") 333) :: (PySem.Value.str (PySem.Str.ofString "=21") 337) :: (PySem.Value.str (PySem.Str.ofString "=22") 341) :: (PySem.Value.str (PySem.Str.ofString "=23") 345) :: (PySem.Value.str (PySem.Str.ofString "=24") 349) :: (PySem.Value.str (PySem.Str.ofString "=25") 353) :: (PySem.Value.str (PySem.Str.ofString "=26") 357) :: (PySem.Value.str (PySem.Str.ofString "=27") 361) :: (PySem.Value.str (PySem.Str.ofString "=28") 365) :: (PySem.Value.str (PySem.Str.ofString "=29") 369) :: (PySem.Value.str (PySem.Str.ofString "=2A") 373) :: (PySem.Value.str (PySem.Str.ofString "=2B") 377) :: (PySem.Value.str (PySem.Str.ofString "=2C") 381) :: (PySem.Value.str (PySem.Str.ofString "=2D") 385) :: (PySem.Value.str (PySem.Str.ofString "=2E") 389) :: (PySem.Value.str (PySem.Str.ofString "=2F") 393) :: (PySem.Value.str (PySem.Str.ofString "=30") 397) :: (PySem.Value.str (PySem.Str.ofString "=31") 401) :: (PySem.Value.str (PySem.Str.ofString "=32") 405) :: (PySem.Value.str (PySem.Str.ofString "=33") 409) :: (PySem.Value.str (PySem.Str.ofString "=34") 413) :: (PySem.Value.str (PySem.Str.ofString "=35") 417) :: (PySem.Value.str (PySem.Str.ofString "=36") 421) :: (PySem.Value.str (PySem.Str.ofString "=37") 425) :: (PySem.Value.str (PySem.Str.ofString "=38") 429) :: (PySem.Value.str (PySem.Str.ofString "=39") 433) :: (PySem.Value.str (PySem.Str.ofString "=3A") 437) :: (PySem.Value.str (PySem.Str.ofString "=3B") 441) :: (PySem.Value.str (PySem.Str.ofString "=3C") 445) :: (PySem.Value.str (PySem.Str.ofString "=3D") 449) :: (PySem.Value.str (PySem.Str.ofString "=3E") 453) :: (PySem.Value.str (PySem.Str.ofString "=3F") 457) :: (PySem.Value.str (PySem.Str.ofString "=40") 461) :: (PySem.Value.str (PySem.Str.ofString "=41") 465) :: (PySem.Value.str (PySem.Str.ofString "=42") 469) :: (PySem.Value.str (PySem.Str.ofString "=43") 473) :: (PySem.Value.str (PySem.Str.ofString "=44") 477) :: (PySem.Value.str (PySem.Str.ofString "=45") 481) :: (PySem.Value.str (PySem.Str.ofString "=46") 485) :: (PySem.Value.str (PySem.Str.ofString "=47") 489) :: (PySem.Value.str (PySem.Str.ofString "=48") 493) :: (PySem.Value.str (PySem.Str.ofString "=49") 497) :: (PySem.Value.str (PySem.Str.ofString "=4A") 501) :: (PySem.Value.str (PySem.Str.ofString "=4B") 505) :: (PySem.Value.str (PySem.Str.ofString "=4C") 509) :: (PySem.Value.str (PySem.Str.ofString "=4D") 513) :: (PySem.Value.str (PySem.Str.ofString "=4E") 517) :: (PySem.Value.str (PySem.Str.ofString "=4F") 521) :: (PySem.Value.str (PySem.Str.ofString "=50") 525) :: (PySem.Value.str (PySem.Str.ofString "=51") 529) :: (PySem.Value.str (PySem.Str.ofString "=52") 533) :: (PySem.Value.str (PySem.Str.ofString "=53") 537) :: (PySem.Value.str (PySem.Str.ofString "=54") 541) :: (PySem.Value.str (PySem.Str.ofString "=55") 545) :: (PySem.Value.str (PySem.Str.ofString "=56") 549) :: (PySem.Value.str (PySem.Str.ofString "=57") 553) :: (PySem.Value.str (PySem.Str.ofString "=58") 557) :: (PySem.Value.str (PySem.Str.ofString "=59") 561) :: (PySem.Value.str (PySem.Str.ofString "=5A") 565) :: (PySem.Value.str (PySem.Str.ofString "=5B") 569) :: (PySem.Value.str (PySem.Str.ofString "=5C") 573) :: (PySem.Value.str (PySem.Str.ofString "=5D") 577) :: (PySem.Value.str (PySem.Str.ofString "=5E") 581) :: (PySem.Value.str (PySem.Str.ofString "=5F") 585) :: (PySem.Value.str (PySem.Str.ofString "=60") 589) :: (PySem.Value.str (PySem.Str.ofString "=61") 593) :: (PySem.Value.str (PySem.Str.ofString "=62") 597) :: (PySem.Value.str (PySem.Str.ofString "=63") 601) :: (PySem.Value.str (PySem.Str.ofString "=64") 605) :: (PySem.Value.str (PySem.Str.ofString "=65") 609) :: (PySem.Value.str (PySem.Str.ofString "=66") 613) :: (PySem.Value.str (PySem.Str.ofString "=67") 617) :: (PySem.Value.str (PySem.Str.ofString "=68") 621) :: (PySem.Value.str (PySem.Str.ofString "=69") 625) :: (PySem.Value.str (PySem.Str.ofString "=6A") 629) :: (PySem.Value.str (PySem.Str.ofString "=6B") 633) :: (PySem.Value.str (PySem.Str.ofString "=6C") 637) :: (PySem.Value.str (PySem.Str.ofString "=6D") 641) :: (PySem.Value.str (PySem.Str.ofString "=6E") 645) :: (PySem.Value.str (PySem.Str.ofString "=6F") 649) :: (PySem.Value.str (PySem.Str.ofString "=70") 653) :: (PySem.Value.str (PySem.Str.ofString "=71") 657) :: (PySem.Value.str (PySem.Str.ofString "=72") 661) :: (PySem.Value.str (PySem.Str.ofString "=73") 665) :: (PySem.Value.str (PySem.Str.ofString "=74") 669) :: (PySem.Value.str (PySem.Str.ofString "=75") 673) :: (PySem.Value.str (PySem.Str.ofString "=76") 677) :: (PySem.Value.str (PySem.Str.ofString "=77") 681) :: (PySem.Value.str (PySem.Str.ofString "=78") 685) :: (PySem.Value.str (PySem.Str.ofString "=79") 689) :: (PySem.Value.str (PySem.Str.ofString "=7A") 693) :: (PySem.Value.str (PySem.Str.ofString "=7B") 697) :: (PySem.Value.str (PySem.Str.ofString "=7C") 701) :: (PySem.Value.str (PySem.Str.ofString "=7D") 705) :: (PySem.Value.str (PySem.Str.ofString "=7E") 709) :: (PySem.Value.str (PySem.Str.ofString "=7F") 713) :: (PySem.Value.str (PySem.Str.ofString "=80") 717) :: (PySem.Value.str (PySem.Str.ofString "=81") 721) :: (PySem.Value.str (PySem.Str.ofString "=82") 725) :: (PySem.Value.str (PySem.Str.ofString "=83") 729) :: (PySem.Value.str (PySem.Str.ofString "=84") 733) :: (PySem.Value.str (PySem.Str.ofString "=85") 737) :: (PySem.Value.str (PySem.Str.ofString "=86") 741) :: (PySem.Value.str (PySem.Str.ofString "=87") 745) :: (PySem.Value.str (PySem.Str.ofString "=88") 749) :: (PySem.Value.str (PySem.Str.ofString "=89") 753) :: (PySem.Value.str (PySem.Str.ofString "=8A") 757) :: (PySem.Value.str (PySem.Str.ofString "=8B") 761) :: (PySem.Value.str (PySem.Str.ofString "=8C") 765) :: (PySem.Value.str (PySem.Str.ofString "=8D") 769) :: (PySem.Value.str (PySem.Str.ofString "=8E") 773) :: (PySem.Value.str (PySem.Str.ofString "=8F") 777) :: (PySem.Value.str (PySem.Str.ofString "=90") 781) :: (PySem.Value.str (PySem.Str.ofString "=91") 785) :: (PySem.Value.str (PySem.Str.ofString "=92") 789) :: (PySem.Value.str (PySem.Str.ofString "=93") 793) :: (PySem.Value.str (PySem.Str.ofString "=94") 797) :: (PySem.Value.str (PySem.Str.ofString "=95") 801) :: (PySem.Value.str (PySem.Str.ofString "=96") 805) :: (PySem.Value.str (PySem.Str.ofString "=97") 809) :: (PySem.Value.str (PySem.Str.ofString "=98") 813) :: (PySem.Value.str (PySem.Str.ofString "=99") 817) :: (PySem.Value.str (PySem.Str.ofString "=9A") 821) :: (PySem.Value.str (PySem.Str.ofString "=9B") 825) :: (PySem.Value.str (PySem.Str.ofString "=9C") 829) :: (PySem.Value.str (PySem.Str.ofString "=9D") 833) :: (PySem.Value.str (PySem.Str.ofString "=9E") 837) :: (PySem.Value.str (PySem.Str.ofString "=9F") 841) :: (PySem.Value.str (PySem.Str.ofString "=A0") 845) :: (PySem.Value.str (PySem.Str.ofString "=A1") 849) :: (PySem.Value.str (PySem.Str.ofString "=A2") 853) :: (PySem.Value.str (PySem.Str.ofString "=A3") 857) :: (PySem.Value.str (PySem.Str.ofString "=A4") 861) :: (PySem.Value.str (PySem.Str.ofString "=A5") 865) :: (PySem.Value.str (PySem.Str.ofString "=A6") 869) :: (PySem.Value.str (PySem.Str.ofString "=A7") 873) :: (PySem.Value.str (PySem.Str.ofString "=A8") 877) :: (PySem.Value.str (PySem.Str.ofString "=A9") 881) :: (PySem.Value.str (PySem.Str.ofString "=AA") 885) :: (PySem.Value.str (PySem.Str.ofString "=AB") 889) :: (PySem.Value.str (PySem.Str.ofString "=AC") 893) :: (PySem.Value.str (PySem.Str.ofString "=AD") 897) :: (PySem.Value.str (PySem.Str.ofString "=AE") 901) :: (PySem.Value.str (PySem.Str.ofString "=AF") 905) :: (PySem.Value.str (PySem.Str.ofString "=B0") 909) :: (PySem.Value.str (PySem.Str.ofString "=B1") 913) :: (PySem.Value.str (PySem.Str.ofString "=B2") 917) :: (PySem.Value.str (PySem.Str.ofString "=B3") 921) :: (PySem.Value.str (PySem.Str.ofString "=B4") 925) :: (PySem.Value.str (PySem.Str.ofString "=B5") 929) :: (PySem.Value.str (PySem.Str.ofString "=B6") 933) :: (PySem.Value.str (PySem.Str.ofString "=B7") 937) :: (PySem.Value.str (PySem.Str.ofString "=B8") 941) :: (PySem.Value.str (PySem.Str.ofString "=B9") 945) :: (PySem.Value.str (PySem.Str.ofString "=BA") 949) :: (PySem.Value.str (PySem.Str.ofString "=BB") 953) :: (PySem.Value.str (PySem.Str.ofString "=BC") 957) :: (PySem.Value.str (PySem.Str.ofString "=BD") 961) :: (PySem.Value.str (PySem.Str.ofString "=BE") 965) :: (PySem.Value.str (PySem.Str.ofString "=BF") 969) :: (PySem.Value.str (PySem.Str.ofString "=C0") 973) :: (PySem.Value.str (PySem.Str.ofString "=C1") 977) :: (PySem.Value.str (PySem.Str.ofString "=C2") 981) :: (PySem.Value.str (PySem.Str.ofString "=C3") 985) :: (PySem.Value.str (PySem.Str.ofString "=C4") 989) :: (PySem.Value.str (PySem.Str.ofString "=C5") 993) :: (PySem.Value.str (PySem.Str.ofString "=C6") 997) :: (PySem.Value.str (PySem.Str.ofString "=C7") 1001) :: (PySem.Value.str (PySem.Str.ofString "=C8") 1005) :: (PySem.Value.str (PySem.Str.ofString "=C9") 1009) :: (PySem.Value.str (PySem.Str.ofString "=CA") 1013) :: (PySem.Value.str (PySem.Str.ofString "=CB") 1017) :: (PySem.Value.str (PySem.Str.ofString "=CC") 1021) :: (PySem.Value.str (PySem.Str.ofString "=CD") 1025) :: (PySem.Value.str (PySem.Str.ofString "=CE") 1029) :: (PySem.Value.str (PySem.Str.ofString "=CF") 1033) :: (PySem.Value.str (PySem.Str.ofString "=D0") 1037) :: (PySem.Value.str (PySem.Str.ofString "=D1") 1041) :: (PySem.Value.str (PySem.Str.ofString "=D2") 1045) :: (PySem.Value.str (PySem.Str.ofString "=D3") 1049) :: (PySem.Value.str (PySem.Str.ofString "=D4") 1053) :: (PySem.Value.str (PySem.Str.ofString "=D5") 1057) :: (PySem.Value.str (PySem.Str.ofString "=D6") 1061) :: (PySem.Value.str (PySem.Str.ofString "=D7") 1065) :: (PySem.Value.str (PySem.Str.ofString "=D8") 1069) :: (PySem.Value.str (PySem.Str.ofString "=D9") 1073) :: (PySem.Value.str (PySem.Str.ofString "=DA") 1077) :: (PySem.Value.str (PySem.Str.ofString "=DB") 1081) :: (PySem.Value.str (PySem.Str.ofString "=DC") 1085) :: (PySem.Value.str (PySem.Str.ofString "=DD") 1089) :: (PySem.Value.str (PySem.Str.ofString "=DE") 1093) :: (PySem.Value.str (PySem.Str.ofString "=DF") 1097) :: (PySem.Value.str (PySem.Str.ofString "=E0") 1101) :: (PySem.Value.str (PySem.Str.ofString "=E1") 1105) :: (PySem.Value.str (PySem.Str.ofString "=E2") 1109) :: (PySem.Value.str (PySem.Str.ofString "=E3") 1113) :: (PySem.Value.str (PySem.Str.ofString "=E4") 1117) :: (PySem.Value.str (PySem.Str.ofString "=E5") 1121) :: (PySem.Value.str (PySem.Str.ofString "=E6") 1125) :: (PySem.Value.str (PySem.Str.ofString "=E7") 1129) :: (PySem.Value.str (PySem.Str.ofString "=E8") 1133) :: (PySem.Value.str (PySem.Str.ofString "=E9") 1137) :: (PySem.Value.str (PySem.Str.ofString "=EA") 1141) :: (PySem.Value.str (PySem.Str.ofString "=EB") 1145) :: (PySem.Value.str (PySem.Str.ofString "=EC") 1149) :: (PySem.Value.str (PySem.Str.ofString "=ED") 1153) :: (PySem.Value.str (PySem.Str.ofString "=EE") 1157) :: (PySem.Value.str (PySem.Str.ofString "=EF") 1161) :: (PySem.Value.str (PySem.Str.ofString "=F0") 1165) :: (PySem.Value.str (PySem.Str.ofString "=F1") 1169) :: (PySem.Value.str (PySem.Str.ofString "=F2") 1173) :: (PySem.Value.str (PySem.Str.ofString "=F3") 1177) :: (PySem.Value.str (PySem.Str.ofString "=F4") 1181) :: (PySem.Value.str (PySem.Str.ofString "=F5") 1185) :: (PySem.Value.str (PySem.Str.ofString "=F6") 1189) :: (PySem.Value.str (PySem.Str.ofString "=F7") 1193) :: (PySem.Value.str (PySem.Str.ofString "=F8") 1197) :: (PySem.Value.str (PySem.Str.ofString "=F9") 1201) :: (PySem.Value.str (PySem.Str.ofString "=FA") 1205) :: (PySem.Value.str (PySem.Str.ofString "=FB") 1209) :: (PySem.Value.str (PySem.Str.ofString "=FC") 1213) :: (PySem.Value.str (PySem.Str.ofString "=FD") 1217) :: (PySem.Value.str (PySem.Str.ofString "=FE") 1221) :: (PySem.Value.str (PySem.Str.ofString "=FF") 1225) :: [])) 256) #[])
noncomputable abbrev hO49 (P : PySem.Params) : PySem.Obj := (PySem.Obj.mk (PySem.Value.type "dict") none (PySem.Data.dict #[] 2) #[])
noncomputable abbrev hO50 (P : PySem.Params) : PySem.Obj := (PySem.Obj.mk (PySem.Value.type "tuple") none (PySem.Data.seq #[] 0) #[])
noncomputable abbrev hO51 (P : PySem.Params) : PySem.Obj := (PySem.Obj.mk (PySem.Value.type "StopIteration") none (PySem.Data.fields #[(PySem.Value.ref 26), PySem.Value.none, PySem.Value.none, PySem.Value.none, (PySem.Value.bool Bool.false), PySem.Value.none]) #[])
noncomputable abbrev hT52 (P : PySem.Params) : PySem.W.BT := (PySem.W.BT.node (@PySem.W.boot_o_0 P) (PySem.W.BT.node (@PySem.W.boot_o_1 P) (PySem.W.BT.node (@Mine.hO45 P) (PySem.W.BT.node (@PySem.W.boot_o_7 P) (PySem.W.BT.node (@Mine.hO15 P) PySem.W.BT.nil PySem.W.BT.nil) (PySem.W.BT.node (@Mine.hO47 P) PySem.W.BT.nil PySem.W.BT.nil)) (PySem.W.BT.node (@Mine.hO6 P) (PySem.W.BT.node (@Mine.hO19 P) PySem.W.BT.nil PySem.W.BT.nil) (PySem.W.BT.node (@Mine.hO51 P) PySem.W.BT.nil PySem.W.BT.nil))) (PySem.W.BT.node (@PySem.W.boot_o_5 P) (PySem.W.BT.node (@PySem.W.boot_o_9 P) (PySem.W.BT.node (@Mine.hO17 P) PySem.W.BT.nil PySem.W.BT.nil) (PySem.W.BT.node (@Mine.hO49 P) PySem.W.BT.nil PySem.W.BT.nil)) (PySem.W.BT.node (@Mine.hO8 P) (PySem.W.BT.node (@Mine.hO21 P) PySem.W.BT.nil PySem.W.BT.nil) PySem.W.BT.nil))) (PySem.W.BT.node (@PySem.W.boot_o_2 P) (PySem.W.BT.node (@PySem.W.boot_o_4 P) (PySem.W.BT.node (@PySem.W.boot_o_8 P) (PySem.W.BT.node (@Mine.hO16 P) PySem.W.BT.nil PySem.W.BT.nil) (PySem.W.BT.node (@Mine.hO48 P) PySem.W.BT.nil PySem.W.BT.nil)) (PySem.W.BT.node (@Mine.hO14 P) (PySem.W.BT.node (@Mine.hO20 P) PySem.W.BT.nil PySem.W.BT.nil) PySem.W.BT.nil)) (PySem.W.BT.node (@PySem.W.boot_o_6 P) (PySem.W.BT.node (@PySem.W.boot_o_10 P) (PySem.W.BT.node (@Mine.hO18 P) PySem.W.BT.nil PySem.W.BT.nil) (PySem.W.BT.node (@Mine.hO50 P) PySem.W.BT.nil PySem.W.BT.nil)) (PySem.W.BT.node (@Mine.hO9 P) (PySem.W.BT.node (@Mine.hO46 P) PySem.W.BT.nil PySem.W.BT.nil) PySem.W.BT.nil))))
noncomputable abbrev hTh1f (W : PySem.World) (os : PySem.OsState) : PySem.Thread := ((hG W 88 (hS (hT22 (PySem.World.params W)) 22 199 os) (@PySem.W.piecesOf @Mine.hSts1 @Mine.hEnv (PySem.Code.body (@PySem.W.behindTheImports @Mine.hProg) @Mine.hEnv) (PySem.Pos.mk 7 0 7 2) [(@PySem.W.topFrame (PySem.Pos.mk 0 0 0 0))])).map (·.2)).getD (@PySem.W.piecesOf @Mine.hSts1 @Mine.hEnv (PySem.Code.body (@PySem.W.behindTheImports @Mine.hProg) @Mine.hEnv) (PySem.Pos.mk 7 0 7 2) [(@PySem.W.topFrame (PySem.Pos.mk 0 0 0 0))])
noncomputable abbrev hTh1t (W : PySem.World) (os : PySem.OsState) : PySem.Thread := ((hG W 78 (hS (hT22 (PySem.World.params W)) 22 199 os) (@PySem.W.piecesOf @Mine.hSts1 @Mine.hEnv (PySem.Code.body (@PySem.W.behindTheImports @Mine.hProg) @Mine.hEnv) (PySem.Pos.mk 7 0 7 2) [(@PySem.W.topFrame (PySem.Pos.mk 0 0 0 0))])).map (·.2)).getD (@PySem.W.piecesOf @Mine.hSts1 @Mine.hEnv (PySem.Code.body (@PySem.W.behindTheImports @Mine.hProg) @Mine.hEnv) (PySem.Pos.mk 7 0 7 2) [(@PySem.W.topFrame (PySem.Pos.mk 0 0 0 0))])
theorem hRun1_0_a (w : PySem.World) (os : PySem.OsState) : hG (PySem.World.withFollow (PySem.World.withFollow w "special-get-raises" false) "comprehension-iter-twice" false) 88 (hS (hT22 (PySem.World.params (PySem.World.withFollow (PySem.World.withFollow w "special-get-raises" false) "comprehension-iter-twice" false))) 22 199 os) (@PySem.W.piecesOf @Mine.hSts1 @Mine.hEnv (PySem.Code.body (@PySem.W.behindTheImports @Mine.hProg) @Mine.hEnv) (PySem.Pos.mk 7 0 7 2) [(@PySem.W.topFrame (PySem.Pos.mk 0 0 0 0))]) = some ((hS (hT28 (PySem.World.params (PySem.World.withFollow (PySem.World.withFollow w "special-get-raises" false) "comprehension-iter-twice" false))) 26 206 os), hTh1f (PySem.World.withFollow (PySem.World.withFollow w "special-get-raises" false) "comprehension-iter-twice" false) os) := by kernel_rfl
theorem hRun1_0_m0 (w : PySem.World) (os : PySem.OsState) : hG (PySem.World.withFollow (PySem.World.withFollow w "special-get-raises" false) "comprehension-iter-twice" false) 1998 (hS (hT28 (PySem.World.params (PySem.World.withFollow (PySem.World.withFollow w "special-get-raises" false) "comprehension-iter-twice" false))) 26 206 os) (hTh1f (PySem.World.withFollow (PySem.World.withFollow w "special-get-raises" false) "comprehension-iter-twice" false) os) = some ((hS (hT32 (PySem.World.params (PySem.World.withFollow (PySem.World.withFollow w "special-get-raises" false) "comprehension-iter-twice" false))) 26 422 os), hTh1f (PySem.World.withFollow (PySem.World.withFollow w "special-get-raises" false) "comprehension-iter-twice" false) os) := by kernel_rfl
theorem hRun1_0_m1 (w : PySem.World) (os : PySem.OsState) : hG (PySem.World.withFollow (PySem.World.withFollow w "special-get-raises" false) "comprehension-iter-twice" false) 1998 (hS (hT32 (PySem.World.params (PySem.World.withFollow (PySem.World.withFollow w "special-get-raises" false) "comprehension-iter-twice" false))) 26 422 os) (hTh1f (PySem.World.withFollow (PySem.World.withFollow w "special-get-raises" false) "comprehension-iter-twice" false) os) = some ((hS (hT36 (PySem.World.params (PySem.World.withFollow (PySem.World.withFollow w "special-get-raises" false) "comprehension-iter-twice" false))) 26 638 os), hTh1f (PySem.World.withFollow (PySem.World.withFollow w "special-get-raises" false) "comprehension-iter-twice" false) os) := by kernel_rfl
theorem hRun1_0_m2 (w : PySem.World) (os : PySem.OsState) : hG (PySem.World.withFollow (PySem.World.withFollow w "special-get-raises" false) "comprehension-iter-twice" false) 1998 (hS (hT36 (PySem.World.params (PySem.World.withFollow (PySem.World.withFollow w "special-get-raises" false) "comprehension-iter-twice" false))) 26 638 os) (hTh1f (PySem.World.withFollow (PySem.World.withFollow w "special-get-raises" false) "comprehension-iter-twice" false) os) = some ((hS (hT40 (PySem.World.params (PySem.World.withFollow (PySem.World.withFollow w "special-get-raises" false) "comprehension-iter-twice" false))) 26 854 os), hTh1f (PySem.World.withFollow (PySem.World.withFollow w "special-get-raises" false) "comprehension-iter-twice" false) os) := by kernel_rfl
theorem hRun1_0_m3 (w : PySem.World) (os : PySem.OsState) : hG (PySem.World.withFollow (PySem.World.withFollow w "special-get-raises" false) "comprehension-iter-twice" false) 1998 (hS (hT40 (PySem.World.params (PySem.World.withFollow (PySem.World.withFollow w "special-get-raises" false) "comprehension-iter-twice" false))) 26 854 os) (hTh1f (PySem.World.withFollow (PySem.World.withFollow w "special-get-raises" false) "comprehension-iter-twice" false) os) = some ((hS (hT44 (PySem.World.params (PySem.World.withFollow (PySem.World.withFollow w "special-get-raises" false) "comprehension-iter-twice" false))) 26 1070 os), hTh1f (PySem.World.withFollow (PySem.World.withFollow w "special-get-raises" false) "comprehension-iter-twice" false) os) := by kernel_rfl
theorem hRun1_0_z (w : PySem.World) (os : PySem.OsState) : hR (PySem.World.withFollow (PySem.World.withFollow w "special-get-raises" false) "comprehension-iter-twice" false) 1491 (hS (hT44 (PySem.World.params (PySem.World.withFollow (PySem.World.withFollow w "special-get-raises" false) "comprehension-iter-twice" false))) 26 1070 os) (hTh1f (PySem.World.withFollow (PySem.World.withFollow w "special-get-raises" false) "comprehension-iter-twice" false) os) = some (PySem.Flow.next, (hS (hT52 (PySem.World.params (PySem.World.withFollow (PySem.World.withFollow w "special-get-raises" false) "comprehension-iter-twice" false))) 28 1227 os), (PySem.Code.body (@PySem.W.behindTheImports @Mine.hProg) @Mine.hEnv), (PySem.Pos.mk 8 0 8 11)) := by kernel_rfl
theorem hRun1_0 (w : PySem.World) : ∀ os, PySem.W.segRun PySem.treeTable hProg (PySem.World.withFollow (PySem.World.withFollow w "special-get-raises" false) "comprehension-iter-twice" false) 11 (some (PySem.Value.ref 6)) 1 9571 ((hS (hT22 (PySem.World.params (PySem.World.withFollow (PySem.World.withFollow w "special-get-raises" false) "comprehension-iter-twice" false))) 22 199 os)).abs (@PySem.W.piecesOf @Mine.hSts1 @Mine.hEnv (PySem.Code.body (@PySem.W.behindTheImports @Mine.hProg) @Mine.hEnv) (PySem.Pos.mk 7 0 7 2) [(@PySem.W.topFrame (PySem.Pos.mk 0 0 0 0))]) = some (PySem.Flow.next, ((hS (hT52 (PySem.World.params (PySem.World.withFollow (PySem.World.withFollow w "special-get-raises" false) "comprehension-iter-twice" false))) 28 1227 os)).abs, (PySem.Code.body (@PySem.W.behindTheImports @Mine.hProg) @Mine.hEnv), (PySem.Pos.mk 8 0 8 11)) := fun os =>
  PySem.W.seg_go (hGo (hRun1_0_a w os)) (PySem.W.seg_go (hGo (hRun1_0_m0 w os)) (PySem.W.seg_go (hGo (hRun1_0_m1 w os)) (PySem.W.seg_go (hGo (hRun1_0_m2 w os)) (PySem.W.seg_go (hGo (hRun1_0_m3 w os)) (hRu (hRun1_0_z w os))))))
theorem hRun1_1_a (w : PySem.World) (os : PySem.OsState) : hG (PySem.World.withFollow (PySem.World.withFollow w "special-get-raises" false) "comprehension-iter-twice" true) 78 (hS (hT22 (PySem.World.params (PySem.World.withFollow (PySem.World.withFollow w "special-get-raises" false) "comprehension-iter-twice" true))) 22 199 os) (@PySem.W.piecesOf @Mine.hSts1 @Mine.hEnv (PySem.Code.body (@PySem.W.behindTheImports @Mine.hProg) @Mine.hEnv) (PySem.Pos.mk 7 0 7 2) [(@PySem.W.topFrame (PySem.Pos.mk 0 0 0 0))]) = some ((hS (hT28 (PySem.World.params (PySem.World.withFollow (PySem.World.withFollow w "special-get-raises" false) "comprehension-iter-twice" true))) 26 206 os), hTh1t (PySem.World.withFollow (PySem.World.withFollow w "special-get-raises" false) "comprehension-iter-twice" true) os) := by kernel_rfl
theorem hRun1_1_m0 (w : PySem.World) (os : PySem.OsState) : hG (PySem.World.withFollow (PySem.World.withFollow w "special-get-raises" false) "comprehension-iter-twice" true) 1998 (hS (hT28 (PySem.World.params (PySem.World.withFollow (PySem.World.withFollow w "special-get-raises" false) "comprehension-iter-twice" true))) 26 206 os) (hTh1t (PySem.World.withFollow (PySem.World.withFollow w "special-get-raises" false) "comprehension-iter-twice" true) os) = some ((hS (hT32 (PySem.World.params (PySem.World.withFollow (PySem.World.withFollow w "special-get-raises" false) "comprehension-iter-twice" true))) 26 422 os), hTh1t (PySem.World.withFollow (PySem.World.withFollow w "special-get-raises" false) "comprehension-iter-twice" true) os) := by kernel_rfl
theorem hRun1_1_m1 (w : PySem.World) (os : PySem.OsState) : hG (PySem.World.withFollow (PySem.World.withFollow w "special-get-raises" false) "comprehension-iter-twice" true) 1998 (hS (hT32 (PySem.World.params (PySem.World.withFollow (PySem.World.withFollow w "special-get-raises" false) "comprehension-iter-twice" true))) 26 422 os) (hTh1t (PySem.World.withFollow (PySem.World.withFollow w "special-get-raises" false) "comprehension-iter-twice" true) os) = some ((hS (hT36 (PySem.World.params (PySem.World.withFollow (PySem.World.withFollow w "special-get-raises" false) "comprehension-iter-twice" true))) 26 638 os), hTh1t (PySem.World.withFollow (PySem.World.withFollow w "special-get-raises" false) "comprehension-iter-twice" true) os) := by kernel_rfl
theorem hRun1_1_m2 (w : PySem.World) (os : PySem.OsState) : hG (PySem.World.withFollow (PySem.World.withFollow w "special-get-raises" false) "comprehension-iter-twice" true) 1998 (hS (hT36 (PySem.World.params (PySem.World.withFollow (PySem.World.withFollow w "special-get-raises" false) "comprehension-iter-twice" true))) 26 638 os) (hTh1t (PySem.World.withFollow (PySem.World.withFollow w "special-get-raises" false) "comprehension-iter-twice" true) os) = some ((hS (hT40 (PySem.World.params (PySem.World.withFollow (PySem.World.withFollow w "special-get-raises" false) "comprehension-iter-twice" true))) 26 854 os), hTh1t (PySem.World.withFollow (PySem.World.withFollow w "special-get-raises" false) "comprehension-iter-twice" true) os) := by kernel_rfl
theorem hRun1_1_m3 (w : PySem.World) (os : PySem.OsState) : hG (PySem.World.withFollow (PySem.World.withFollow w "special-get-raises" false) "comprehension-iter-twice" true) 1998 (hS (hT40 (PySem.World.params (PySem.World.withFollow (PySem.World.withFollow w "special-get-raises" false) "comprehension-iter-twice" true))) 26 854 os) (hTh1t (PySem.World.withFollow (PySem.World.withFollow w "special-get-raises" false) "comprehension-iter-twice" true) os) = some ((hS (hT44 (PySem.World.params (PySem.World.withFollow (PySem.World.withFollow w "special-get-raises" false) "comprehension-iter-twice" true))) 26 1070 os), hTh1t (PySem.World.withFollow (PySem.World.withFollow w "special-get-raises" false) "comprehension-iter-twice" true) os) := by kernel_rfl
theorem hRun1_1_z (w : PySem.World) (os : PySem.OsState) : hR (PySem.World.withFollow (PySem.World.withFollow w "special-get-raises" false) "comprehension-iter-twice" true) 1501 (hS (hT44 (PySem.World.params (PySem.World.withFollow (PySem.World.withFollow w "special-get-raises" false) "comprehension-iter-twice" true))) 26 1070 os) (hTh1t (PySem.World.withFollow (PySem.World.withFollow w "special-get-raises" false) "comprehension-iter-twice" true) os) = some (PySem.Flow.next, (hS (hT52 (PySem.World.params (PySem.World.withFollow (PySem.World.withFollow w "special-get-raises" false) "comprehension-iter-twice" true))) 28 1227 os), (PySem.Code.body (@PySem.W.behindTheImports @Mine.hProg) @Mine.hEnv), (PySem.Pos.mk 8 0 8 11)) := by kernel_rfl
theorem hRun1_1 (w : PySem.World) : ∀ os, PySem.W.segRun PySem.treeTable hProg (PySem.World.withFollow (PySem.World.withFollow w "special-get-raises" false) "comprehension-iter-twice" true) 11 (some (PySem.Value.ref 6)) 1 9571 ((hS (hT22 (PySem.World.params (PySem.World.withFollow (PySem.World.withFollow w "special-get-raises" false) "comprehension-iter-twice" true))) 22 199 os)).abs (@PySem.W.piecesOf @Mine.hSts1 @Mine.hEnv (PySem.Code.body (@PySem.W.behindTheImports @Mine.hProg) @Mine.hEnv) (PySem.Pos.mk 7 0 7 2) [(@PySem.W.topFrame (PySem.Pos.mk 0 0 0 0))]) = some (PySem.Flow.next, ((hS (hT52 (PySem.World.params (PySem.World.withFollow (PySem.World.withFollow w "special-get-raises" false) "comprehension-iter-twice" true))) 28 1227 os)).abs, (PySem.Code.body (@PySem.W.behindTheImports @Mine.hProg) @Mine.hEnv), (PySem.Pos.mk 8 0 8 11)) := fun os =>
  PySem.W.seg_go (hGo (hRun1_1_a w os)) (PySem.W.seg_go (hGo (hRun1_1_m0 w os)) (PySem.W.seg_go (hGo (hRun1_1_m1 w os)) (PySem.W.seg_go (hGo (hRun1_1_m2 w os)) (PySem.W.seg_go (hGo (hRun1_1_m3 w os)) (hRu (hRun1_1_z w os))))))
theorem hRun1_2_a (w : PySem.World) (os : PySem.OsState) : hG (PySem.World.withFollow (PySem.World.withFollow w "special-get-raises" true) "comprehension-iter-twice" false) 88 (hS (hT22 (PySem.World.params (PySem.World.withFollow (PySem.World.withFollow w "special-get-raises" true) "comprehension-iter-twice" false))) 22 199 os) (@PySem.W.piecesOf @Mine.hSts1 @Mine.hEnv (PySem.Code.body (@PySem.W.behindTheImports @Mine.hProg) @Mine.hEnv) (PySem.Pos.mk 7 0 7 2) [(@PySem.W.topFrame (PySem.Pos.mk 0 0 0 0))]) = some ((hS (hT28 (PySem.World.params (PySem.World.withFollow (PySem.World.withFollow w "special-get-raises" true) "comprehension-iter-twice" false))) 26 206 os), hTh1f (PySem.World.withFollow (PySem.World.withFollow w "special-get-raises" true) "comprehension-iter-twice" false) os) := by kernel_rfl
theorem hRun1_2_m0 (w : PySem.World) (os : PySem.OsState) : hG (PySem.World.withFollow (PySem.World.withFollow w "special-get-raises" true) "comprehension-iter-twice" false) 1998 (hS (hT28 (PySem.World.params (PySem.World.withFollow (PySem.World.withFollow w "special-get-raises" true) "comprehension-iter-twice" false))) 26 206 os) (hTh1f (PySem.World.withFollow (PySem.World.withFollow w "special-get-raises" true) "comprehension-iter-twice" false) os) = some ((hS (hT32 (PySem.World.params (PySem.World.withFollow (PySem.World.withFollow w "special-get-raises" true) "comprehension-iter-twice" false))) 26 422 os), hTh1f (PySem.World.withFollow (PySem.World.withFollow w "special-get-raises" true) "comprehension-iter-twice" false) os) := by kernel_rfl
theorem hRun1_2_m1 (w : PySem.World) (os : PySem.OsState) : hG (PySem.World.withFollow (PySem.World.withFollow w "special-get-raises" true) "comprehension-iter-twice" false) 1998 (hS (hT32 (PySem.World.params (PySem.World.withFollow (PySem.World.withFollow w "special-get-raises" true) "comprehension-iter-twice" false))) 26 422 os) (hTh1f (PySem.World.withFollow (PySem.World.withFollow w "special-get-raises" true) "comprehension-iter-twice" false) os) = some ((hS (hT36 (PySem.World.params (PySem.World.withFollow (PySem.World.withFollow w "special-get-raises" true) "comprehension-iter-twice" false))) 26 638 os), hTh1f (PySem.World.withFollow (PySem.World.withFollow w "special-get-raises" true) "comprehension-iter-twice" false) os) := by kernel_rfl
theorem hRun1_2_m2 (w : PySem.World) (os : PySem.OsState) : hG (PySem.World.withFollow (PySem.World.withFollow w "special-get-raises" true) "comprehension-iter-twice" false) 1998 (hS (hT36 (PySem.World.params (PySem.World.withFollow (PySem.World.withFollow w "special-get-raises" true) "comprehension-iter-twice" false))) 26 638 os) (hTh1f (PySem.World.withFollow (PySem.World.withFollow w "special-get-raises" true) "comprehension-iter-twice" false) os) = some ((hS (hT40 (PySem.World.params (PySem.World.withFollow (PySem.World.withFollow w "special-get-raises" true) "comprehension-iter-twice" false))) 26 854 os), hTh1f (PySem.World.withFollow (PySem.World.withFollow w "special-get-raises" true) "comprehension-iter-twice" false) os) := by kernel_rfl
theorem hRun1_2_m3 (w : PySem.World) (os : PySem.OsState) : hG (PySem.World.withFollow (PySem.World.withFollow w "special-get-raises" true) "comprehension-iter-twice" false) 1998 (hS (hT40 (PySem.World.params (PySem.World.withFollow (PySem.World.withFollow w "special-get-raises" true) "comprehension-iter-twice" false))) 26 854 os) (hTh1f (PySem.World.withFollow (PySem.World.withFollow w "special-get-raises" true) "comprehension-iter-twice" false) os) = some ((hS (hT44 (PySem.World.params (PySem.World.withFollow (PySem.World.withFollow w "special-get-raises" true) "comprehension-iter-twice" false))) 26 1070 os), hTh1f (PySem.World.withFollow (PySem.World.withFollow w "special-get-raises" true) "comprehension-iter-twice" false) os) := by kernel_rfl
theorem hRun1_2_z (w : PySem.World) (os : PySem.OsState) : hR (PySem.World.withFollow (PySem.World.withFollow w "special-get-raises" true) "comprehension-iter-twice" false) 1491 (hS (hT44 (PySem.World.params (PySem.World.withFollow (PySem.World.withFollow w "special-get-raises" true) "comprehension-iter-twice" false))) 26 1070 os) (hTh1f (PySem.World.withFollow (PySem.World.withFollow w "special-get-raises" true) "comprehension-iter-twice" false) os) = some (PySem.Flow.next, (hS (hT52 (PySem.World.params (PySem.World.withFollow (PySem.World.withFollow w "special-get-raises" true) "comprehension-iter-twice" false))) 28 1227 os), (PySem.Code.body (@PySem.W.behindTheImports @Mine.hProg) @Mine.hEnv), (PySem.Pos.mk 8 0 8 11)) := by kernel_rfl
theorem hRun1_2 (w : PySem.World) : ∀ os, PySem.W.segRun PySem.treeTable hProg (PySem.World.withFollow (PySem.World.withFollow w "special-get-raises" true) "comprehension-iter-twice" false) 11 (some (PySem.Value.ref 6)) 1 9571 ((hS (hT22 (PySem.World.params (PySem.World.withFollow (PySem.World.withFollow w "special-get-raises" true) "comprehension-iter-twice" false))) 22 199 os)).abs (@PySem.W.piecesOf @Mine.hSts1 @Mine.hEnv (PySem.Code.body (@PySem.W.behindTheImports @Mine.hProg) @Mine.hEnv) (PySem.Pos.mk 7 0 7 2) [(@PySem.W.topFrame (PySem.Pos.mk 0 0 0 0))]) = some (PySem.Flow.next, ((hS (hT52 (PySem.World.params (PySem.World.withFollow (PySem.World.withFollow w "special-get-raises" true) "comprehension-iter-twice" false))) 28 1227 os)).abs, (PySem.Code.body (@PySem.W.behindTheImports @Mine.hProg) @Mine.hEnv), (PySem.Pos.mk 8 0 8 11)) := fun os =>
  PySem.W.seg_go (hGo (hRun1_2_a w os)) (PySem.W.seg_go (hGo (hRun1_2_m0 w os)) (PySem.W.seg_go (hGo (hRun1_2_m1 w os)) (PySem.W.seg_go (hGo (hRun1_2_m2 w os)) (PySem.W.seg_go (hGo (hRun1_2_m3 w os)) (hRu (hRun1_2_z w os))))))
theorem hRun1_3_a (w : PySem.World) (os : PySem.OsState) : hG (PySem.World.withFollow (PySem.World.withFollow w "special-get-raises" true) "comprehension-iter-twice" true) 78 (hS (hT22 (PySem.World.params (PySem.World.withFollow (PySem.World.withFollow w "special-get-raises" true) "comprehension-iter-twice" true))) 22 199 os) (@PySem.W.piecesOf @Mine.hSts1 @Mine.hEnv (PySem.Code.body (@PySem.W.behindTheImports @Mine.hProg) @Mine.hEnv) (PySem.Pos.mk 7 0 7 2) [(@PySem.W.topFrame (PySem.Pos.mk 0 0 0 0))]) = some ((hS (hT28 (PySem.World.params (PySem.World.withFollow (PySem.World.withFollow w "special-get-raises" true) "comprehension-iter-twice" true))) 26 206 os), hTh1t (PySem.World.withFollow (PySem.World.withFollow w "special-get-raises" true) "comprehension-iter-twice" true) os) := by kernel_rfl
theorem hRun1_3_m0 (w : PySem.World) (os : PySem.OsState) : hG (PySem.World.withFollow (PySem.World.withFollow w "special-get-raises" true) "comprehension-iter-twice" true) 1998 (hS (hT28 (PySem.World.params (PySem.World.withFollow (PySem.World.withFollow w "special-get-raises" true) "comprehension-iter-twice" true))) 26 206 os) (hTh1t (PySem.World.withFollow (PySem.World.withFollow w "special-get-raises" true) "comprehension-iter-twice" true) os) = some ((hS (hT32 (PySem.World.params (PySem.World.withFollow (PySem.World.withFollow w "special-get-raises" true) "comprehension-iter-twice" true))) 26 422 os), hTh1t (PySem.World.withFollow (PySem.World.withFollow w "special-get-raises" true) "comprehension-iter-twice" true) os) := by kernel_rfl
theorem hRun1_3_m1 (w : PySem.World) (os : PySem.OsState) : hG (PySem.World.withFollow (PySem.World.withFollow w "special-get-raises" true) "comprehension-iter-twice" true) 1998 (hS (hT32 (PySem.World.params (PySem.World.withFollow (PySem.World.withFollow w "special-get-raises" true) "comprehension-iter-twice" true))) 26 422 os) (hTh1t (PySem.World.withFollow (PySem.World.withFollow w "special-get-raises" true) "comprehension-iter-twice" true) os) = some ((hS (hT36 (PySem.World.params (PySem.World.withFollow (PySem.World.withFollow w "special-get-raises" true) "comprehension-iter-twice" true))) 26 638 os), hTh1t (PySem.World.withFollow (PySem.World.withFollow w "special-get-raises" true) "comprehension-iter-twice" true) os) := by kernel_rfl
theorem hRun1_3_m2 (w : PySem.World) (os : PySem.OsState) : hG (PySem.World.withFollow (PySem.World.withFollow w "special-get-raises" true) "comprehension-iter-twice" true) 1998 (hS (hT36 (PySem.World.params (PySem.World.withFollow (PySem.World.withFollow w "special-get-raises" true) "comprehension-iter-twice" true))) 26 638 os) (hTh1t (PySem.World.withFollow (PySem.World.withFollow w "special-get-raises" true) "comprehension-iter-twice" true) os) = some ((hS (hT40 (PySem.World.params (PySem.World.withFollow (PySem.World.withFollow w "special-get-raises" true) "comprehension-iter-twice" true))) 26 854 os), hTh1t (PySem.World.withFollow (PySem.World.withFollow w "special-get-raises" true) "comprehension-iter-twice" true) os) := by kernel_rfl
theorem hRun1_3_m3 (w : PySem.World) (os : PySem.OsState) : hG (PySem.World.withFollow (PySem.World.withFollow w "special-get-raises" true) "comprehension-iter-twice" true) 1998 (hS (hT40 (PySem.World.params (PySem.World.withFollow (PySem.World.withFollow w "special-get-raises" true) "comprehension-iter-twice" true))) 26 854 os) (hTh1t (PySem.World.withFollow (PySem.World.withFollow w "special-get-raises" true) "comprehension-iter-twice" true) os) = some ((hS (hT44 (PySem.World.params (PySem.World.withFollow (PySem.World.withFollow w "special-get-raises" true) "comprehension-iter-twice" true))) 26 1070 os), hTh1t (PySem.World.withFollow (PySem.World.withFollow w "special-get-raises" true) "comprehension-iter-twice" true) os) := by kernel_rfl
theorem hRun1_3_z (w : PySem.World) (os : PySem.OsState) : hR (PySem.World.withFollow (PySem.World.withFollow w "special-get-raises" true) "comprehension-iter-twice" true) 1501 (hS (hT44 (PySem.World.params (PySem.World.withFollow (PySem.World.withFollow w "special-get-raises" true) "comprehension-iter-twice" true))) 26 1070 os) (hTh1t (PySem.World.withFollow (PySem.World.withFollow w "special-get-raises" true) "comprehension-iter-twice" true) os) = some (PySem.Flow.next, (hS (hT52 (PySem.World.params (PySem.World.withFollow (PySem.World.withFollow w "special-get-raises" true) "comprehension-iter-twice" true))) 28 1227 os), (PySem.Code.body (@PySem.W.behindTheImports @Mine.hProg) @Mine.hEnv), (PySem.Pos.mk 8 0 8 11)) := by kernel_rfl
theorem hRun1_3 (w : PySem.World) : ∀ os, PySem.W.segRun PySem.treeTable hProg (PySem.World.withFollow (PySem.World.withFollow w "special-get-raises" true) "comprehension-iter-twice" true) 11 (some (PySem.Value.ref 6)) 1 9571 ((hS (hT22 (PySem.World.params (PySem.World.withFollow (PySem.World.withFollow w "special-get-raises" true) "comprehension-iter-twice" true))) 22 199 os)).abs (@PySem.W.piecesOf @Mine.hSts1 @Mine.hEnv (PySem.Code.body (@PySem.W.behindTheImports @Mine.hProg) @Mine.hEnv) (PySem.Pos.mk 7 0 7 2) [(@PySem.W.topFrame (PySem.Pos.mk 0 0 0 0))]) = some (PySem.Flow.next, ((hS (hT52 (PySem.World.params (PySem.World.withFollow (PySem.World.withFollow w "special-get-raises" true) "comprehension-iter-twice" true))) 28 1227 os)).abs, (PySem.Code.body (@PySem.W.behindTheImports @Mine.hProg) @Mine.hEnv), (PySem.Pos.mk 8 0 8 11)) := fun os =>
  PySem.W.seg_go (hGo (hRun1_3_a w os)) (PySem.W.seg_go (hGo (hRun1_3_m0 w os)) (PySem.W.seg_go (hGo (hRun1_3_m1 w os)) (PySem.W.seg_go (hGo (hRun1_3_m2 w os)) (PySem.W.seg_go (hGo (hRun1_3_m3 w os)) (hRu (hRun1_3_z w os))))))
theorem hRun1 (w : PySem.World) : ∀ os, PySem.W.segRun PySem.treeTable hProg w 11 (some (PySem.Value.ref 6)) 1 9571 ((hS (hT22 (PySem.World.params w)) 22 199 os)).abs (@PySem.W.piecesOf @Mine.hSts1 @Mine.hEnv (PySem.Code.body (@PySem.W.behindTheImports @Mine.hProg) @Mine.hEnv) (PySem.Pos.mk 7 0 7 2) [(@PySem.W.topFrame (PySem.Pos.mk 0 0 0 0))]) = some (PySem.Flow.next, ((hS (hT52 (PySem.World.params w)) 28 1227 os)).abs, (PySem.Code.body (@PySem.W.behindTheImports @Mine.hProg) @Mine.hEnv), (PySem.Pos.mk 8 0 8 11)) :=
  PySem.W.byRow2 "comprehension-iter-twice" (P := fun w => ∀ os, PySem.W.segRun PySem.treeTable hProg w 11 (some (PySem.Value.ref 6)) 1 9571 ((hS (hT22 (PySem.World.params w)) 22 199 os)).abs (@PySem.W.piecesOf @Mine.hSts1 @Mine.hEnv (PySem.Code.body (@PySem.W.behindTheImports @Mine.hProg) @Mine.hEnv) (PySem.Pos.mk 7 0 7 2) [(@PySem.W.topFrame (PySem.Pos.mk 0 0 0 0))]) = some (PySem.Flow.next, ((hS (hT52 (PySem.World.params w)) 28 1227 os)).abs, (PySem.Code.body (@PySem.W.behindTheImports @Mine.hProg) @Mine.hEnv), (PySem.Pos.mk 8 0 8 11))) (fun w => PySem.W.byRow2 "special-get-raises" (P := fun w => ∀ os, PySem.W.segRun PySem.treeTable hProg (PySem.World.withFollow w "comprehension-iter-twice" false) 11 (some (PySem.Value.ref 6)) 1 9571 ((hS (hT22 (PySem.World.params (PySem.World.withFollow w "comprehension-iter-twice" false))) 22 199 os)).abs (@PySem.W.piecesOf @Mine.hSts1 @Mine.hEnv (PySem.Code.body (@PySem.W.behindTheImports @Mine.hProg) @Mine.hEnv) (PySem.Pos.mk 7 0 7 2) [(@PySem.W.topFrame (PySem.Pos.mk 0 0 0 0))]) = some (PySem.Flow.next, ((hS (hT52 (PySem.World.params (PySem.World.withFollow w "comprehension-iter-twice" false))) 28 1227 os)).abs, (PySem.Code.body (@PySem.W.behindTheImports @Mine.hProg) @Mine.hEnv), (PySem.Pos.mk 8 0 8 11))) hRun1_0 hRun1_2 w) (fun w => PySem.W.byRow2 "special-get-raises" (P := fun w => ∀ os, PySem.W.segRun PySem.treeTable hProg (PySem.World.withFollow w "comprehension-iter-twice" true) 11 (some (PySem.Value.ref 6)) 1 9571 ((hS (hT22 (PySem.World.params (PySem.World.withFollow w "comprehension-iter-twice" true))) 22 199 os)).abs (@PySem.W.piecesOf @Mine.hSts1 @Mine.hEnv (PySem.Code.body (@PySem.W.behindTheImports @Mine.hProg) @Mine.hEnv) (PySem.Pos.mk 7 0 7 2) [(@PySem.W.topFrame (PySem.Pos.mk 0 0 0 0))]) = some (PySem.Flow.next, ((hS (hT52 (PySem.World.params (PySem.World.withFollow w "comprehension-iter-twice" true))) 28 1227 os)).abs, (PySem.Code.body (@PySem.W.behindTheImports @Mine.hProg) @Mine.hEnv), (PySem.Pos.mk 8 0 8 11))) hRun1_1 hRun1_3 w) w
noncomputable abbrev hSts2 : List PySem.Stmt := (@List.take.{0} @PySem.Stmt 8 (@List.drop.{0} @PySem.Stmt 4 (@PySem.W.behindTheImports @Mine.hProg)))
noncomputable abbrev hO54 (P : PySem.Params) : PySem.Obj := (PySem.Obj.mk (PySem.Value.type "dict") none (PySem.Data.dict #[(PySem.DictEntry.mk (PySem.PyData.keyHash P (PySem.Str.ofString "__name__")) (PySem.Value.str (PySem.Str.ofString "__name__") 165) (PySem.Value.str (PySem.Str.ofString "cpy313.email.quoprimime") 1242)), (PySem.DictEntry.mk (PySem.PyData.keyHash P (PySem.Str.ofString "__doc__")) (PySem.Value.str (PySem.Str.ofString "__doc__") 166) PySem.Value.none), (PySem.DictEntry.mk (PySem.PyData.keyHash P (PySem.Str.ofString "__package__")) (PySem.Value.str (PySem.Str.ofString "__package__") 167) PySem.Value.none), (PySem.DictEntry.mk (PySem.PyData.keyHash P (PySem.Str.ofString "__loader__")) (PySem.Value.str (PySem.Str.ofString "__loader__") 168) (PySem.Value.builtin "__main__.__loader__#opaque")), (PySem.DictEntry.mk (PySem.PyData.keyHash P (PySem.Str.ofString "__spec__")) (PySem.Value.str (PySem.Str.ofString "__spec__") 169) PySem.Value.none), (PySem.DictEntry.mk (PySem.PyData.keyHash P (PySem.Str.ofString "__annotations__")) (PySem.Value.str (PySem.Str.ofString "__annotations__") 170) (PySem.Value.ref 6)), (PySem.DictEntry.mk (PySem.PyData.keyHash P (PySem.Str.ofString "__builtins__")) (PySem.Value.str (PySem.Str.ofString "__builtins__") 171) (PySem.Value.ref 4)), (PySem.DictEntry.mk (PySem.PyData.keyHash P (PySem.Str.ofString "__file__")) (PySem.Value.str (PySem.Str.ofString "__file__") 173) (PySem.Value.str (PySem.Str.ofString "/claim/cut.py") 172)), (PySem.DictEntry.mk (PySem.PyData.keyHash P (PySem.Str.ofString "__cached__")) (PySem.Value.str (PySem.Str.ofString "__cached__") 174) PySem.Value.none), (PySem.DictEntry.mk (PySem.PyData.keyHash P (PySem.Str.ofString "replace")) (PySem.Value.str (PySem.Str.ofString "replace") 196) (PySem.Value.ref 21)), (PySem.DictEntry.mk (PySem.PyData.keyHash P (PySem.Str.ofString "NL")) (PySem.Value.str (PySem.Str.ofString "NL") 198) (PySem.Value.str (PySem.Str.ofString "\n") 197)), (PySem.DictEntry.mk (PySem.PyData.keyHash P (PySem.Str.ofString "_QUOPRI_MAP")) (PySem.Value.str (PySem.Str.ofString "_QUOPRI_MAP") 1226) (PySem.Value.ref 24)), (PySem.DictEntry.mk (PySem.PyData.keyHash P (PySem.Str.ofString "_QUOPRI_HEADER_MAP")) (PySem.Value.str (PySem.Str.ofString "_QUOPRI_HEADER_MAP") 1227) (PySem.Value.ref 29)), (PySem.DictEntry.mk (PySem.PyData.keyHash P (PySem.Str.ofString "_QUOPRI_BODY_MAP")) (PySem.Value.str (PySem.Str.ofString "_QUOPRI_BODY_MAP") 1228) (PySem.Value.ref 31)), (PySem.DictEntry.mk (PySem.PyData.keyHash P (PySem.Str.ofString "ascii_lowercase")) (PySem.Value.str (PySem.Str.ofString "ascii_lowercase") 1230) (PySem.Value.str (PySem.Str.ofString "abcdefghijklmnopqrstuvwxyz") 1229)), (PySem.DictEntry.mk (PySem.PyData.keyHash P (PySem.Str.ofString "ascii_uppercase")) (PySem.Value.str (PySem.Str.ofString "ascii_uppercase") 1232) (PySem.Value.str (PySem.Str.ofString "ABCDEFGHIJKLMNOPQRSTUVWXYZ") 1231)), (PySem.DictEntry.mk (PySem.PyData.keyHash P (PySem.Str.ofString "ascii_letters")) (PySem.Value.str (PySem.Str.ofString "ascii_letters") 1234) (PySem.Value.str (PySem.Str.ofString "abcdefghijklmnopqrstuvwxyzABCDEFGHIJKLMNOPQRSTUVWXYZ") 1233)), (PySem.DictEntry.mk (PySem.PyData.keyHash P (PySem.Str.ofString "digits")) (PySem.Value.str (PySem.Str.ofString "digits") 1236) (PySem.Value.str (PySem.Str.ofString "0123456789") 1235)), (PySem.DictEntry.mk (PySem.PyData.keyHash P (PySem.Str.ofString "hexdigits")) (PySem.Value.str (PySem.Str.ofString "hexdigits") 1241) (PySem.Value.str (PySem.Str.ofString "0123456789abcdefABCDEF") 1240))] 19) #[])
noncomputable abbrev hO55 (P : PySem.Params) : PySem.Obj := (PySem.Obj.mk (PySem.Value.type "slice") none (PySem.Data.fields #[PySem.Value.none, PySem.Value.none, PySem.Value.none]) #[])
noncomputable abbrev hO56 (P : PySem.Params) : PySem.Obj := (PySem.Obj.mk (PySem.Value.type "list") none (PySem.Data.seq (List.toArray ((PySem.Value.str (PySem.Str.ofString "=00") 205) :: (PySem.Value.str (PySem.Str.ofString "=01") 209) :: (PySem.Value.str (PySem.Str.ofString "=02") 213) :: (PySem.Value.str (PySem.Str.ofString "=03") 217) :: (PySem.Value.str (PySem.Str.ofString "=04") 221) :: (PySem.Value.str (PySem.Str.ofString "=05") 225) :: (PySem.Value.str (PySem.Str.ofString "=06") 229) :: (PySem.Value.str (PySem.Str.ofString "=07") 233) :: (PySem.Value.str (PySem.Str.ofString "=08") 237) :: (PySem.Value.str (PySem.Str.ofString "=09") 241) :: (PySem.Value.str (PySem.Str.ofString "=0A") 245) :: (PySem.Value.str (PySem.Str.ofString "=0B") 249) :: (PySem.Value.str (PySem.Str.ofString "=0C") 253) :: (PySem.Value.str (PySem.Str.ofString "=0D") 257) :: (PySem.Value.str (PySem.Str.ofString "=0E") 261) :: (PySem.Value.str (PySem.Str.ofString "=0F") 265) :: (PySem.Value.str (PySem.Str.ofString "=10") 269) :: (PySem.Value.str (PySem.Str.ofString "=11") 273) :: (PySem.Value.str (PySem.Str.ofString "=12") 277) :: (PySem.Value.str (PySem.Str.ofString "=13") 281) :: (PySem.Value.str (PySem.Str.ofString "=14") 285) :: (PySem.Value.str (PySem.Str.ofString "=15") 289) :: (PySem.Value.str (PySem.Str.ofString "=16") 293) :: (PySem.Value.str (PySem.Str.ofString "=17") 297) :: (PySem.Value.str (PySem.Str.ofString "=18") 301) :: (PySem.Value.str (PySem.Str.ofString "=19") 305) :: (PySem.Value.str (PySem.Str.ofString "=1A") 309) :: (PySem.Value.str (PySem.Str.ofString "=1B") 313) :: (PySem.Value.str (PySem.Str.ofString "=1C") 317) :: (PySem.Value.str (PySem.Str.ofString "=1D") 321) :: (PySem.Value.str (PySem.Str.ofString "=1E") 325) :: (PySem.Value.str (PySem.Str.ofString "=1F") 329) :: (PySem.Value.str (PySem.Str.ofString "=20") 333) :: (PySem.Value.str (PySem.Str.ofString "=21") 337) :: (PySem.Value.str (PySem.Str.ofString "=22") 341) :: (PySem.Value.str (PySem.Str.ofString "=23") 345) :: (PySem.Value.str (PySem.Str.ofString "=24") 349) :: (PySem.Value.str (PySem.Str.ofString "=25") 353) :: (PySem.Value.str (PySem.Str.ofString "=26") 357) :: (PySem.Value.str (PySem.Str.ofString "=27") 361) :: (PySem.Value.str (PySem.Str.ofString "=28") 365) :: (PySem.Value.str (PySem.Str.ofString "=29") 369) :: (PySem.Value.str (PySem.Str.ofString "=2A") 373) :: (PySem.Value.str (PySem.Str.ofString "=2B") 377) :: (PySem.Value.str (PySem.Str.ofString "=2C") 381) :: (PySem.Value.str (PySem.Str.ofString "=2D") 385) :: (PySem.Value.str (PySem.Str.ofString "=2E") 389) :: (PySem.Value.str (PySem.Str.ofString "=2F") 393) :: (PySem.Value.str (PySem.Str.ofString "=30") 397) :: (PySem.Value.str (PySem.Str.ofString "=31") 401) :: (PySem.Value.str (PySem.Str.ofString "=32") 405) :: (PySem.Value.str (PySem.Str.ofString "=33") 409) :: (PySem.Value.str (PySem.Str.ofString "=34") 413) :: (PySem.Value.str (PySem.Str.ofString "=35") 417) :: (PySem.Value.str (PySem.Str.ofString "=36") 421) :: (PySem.Value.str (PySem.Str.ofString "=37") 425) :: (PySem.Value.str (PySem.Str.ofString "=38") 429) :: (PySem.Value.str (PySem.Str.ofString "=39") 433) :: (PySem.Value.str (PySem.Str.ofString "=3A") 437) :: (PySem.Value.str (PySem.Str.ofString "=3B") 441) :: (PySem.Value.str (PySem.Str.ofString "=3C") 445) :: (PySem.Value.str (PySem.Str.ofString "=3D") 449) :: (PySem.Value.str (PySem.Str.ofString "=3E") 453) :: (PySem.Value.str (PySem.Str.ofString "=3F") 457) :: (PySem.Value.str (PySem.Str.ofString "=40") 461) :: (PySem.Value.str (PySem.Str.ofString "=41") 465) :: (PySem.Value.str (PySem.Str.ofString "=42") 469) :: (PySem.Value.str (PySem.Str.ofString "=43") 473) :: (PySem.Value.str (PySem.Str.ofString "=44") 477) :: (PySem.Value.str (PySem.Str.ofString "=45") 481) :: (PySem.Value.str (PySem.Str.ofString "=46") 485) :: (PySem.Value.str (PySem.Str.ofString "=47") 489) :: (PySem.Value.str (PySem.Str.ofString "=48") 493) :: (PySem.Value.str (PySem.Str.ofString "=49") 497) :: (PySem.Value.str (PySem.Str.ofString "=4A") 501) :: (PySem.Value.str (PySem.Str.ofString "=4B") 505) :: (PySem.Value.str (PySem.Str.ofString "=4C") 509) :: (PySem.Value.str (PySem.Str.ofString "=4D") 513) :: (PySem.Value.str (PySem.Str.ofString "=4E") 517) :: (PySem.Value.str (PySem.Str.ofString "=4F") 521) :: (PySem.Value.str (PySem.Str.ofString "=50") 525) :: (PySem.Value.str (PySem.Str.ofString "=51") 529) :: (PySem.Value.str (PySem.Str.ofString "=52") 533) :: (PySem.Value.str (PySem.Str.ofString "=53") 537) :: (PySem.Value.str (PySem.Str.ofString "=54") 541) :: (PySem.Value.str (PySem.Str.ofString "=55") 545) :: (PySem.Value.str (PySem.Str.ofString "=56") 549) :: (PySem.Value.str (PySem.Str.ofString "=57") 553) :: (PySem.Value.str (PySem.Str.ofString "=58") 557) :: (PySem.Value.str (PySem.Str.ofString "=59") 561) :: (PySem.Value.str (PySem.Str.ofString "=5A") 565) :: (PySem.Value.str (PySem.Str.ofString "=5B") 569) :: (PySem.Value.str (PySem.Str.ofString "=5C") 573) :: (PySem.Value.str (PySem.Str.ofString "=5D") 577) :: (PySem.Value.str (PySem.Str.ofString "=5E") 581) :: (PySem.Value.str (PySem.Str.ofString "=5F") 585) :: (PySem.Value.str (PySem.Str.ofString "=60") 589) :: (PySem.Value.str (PySem.Str.ofString "=61") 593) :: (PySem.Value.str (PySem.Str.ofString "=62") 597) :: (PySem.Value.str (PySem.Str.ofString "=63") 601) :: (PySem.Value.str (PySem.Str.ofString "=64") 605) :: (PySem.Value.str (PySem.Str.ofString "=65") 609) :: (PySem.Value.str (PySem.Str.ofString "=66") 613) :: (PySem.Value.str (PySem.Str.ofString "=67") 617) :: (PySem.Value.str (PySem.Str.ofString "=68") 621) :: (PySem.Value.str (PySem.Str.ofString "=69") 625) :: (PySem.Value.str (PySem.Str.ofString "=6A") 629) :: (PySem.Value.str (PySem.Str.ofString "=6B") 633) :: (PySem.Value.str (PySem.Str.ofString "=6C") 637) :: (PySem.Value.str (PySem.Str.ofString "=6D") 641) :: (PySem.Value.str (PySem.Str.ofString "=6E") 645) :: (PySem.Value.str (PySem.Str.ofString "=6F") 649) :: (PySem.Value.str (PySem.Str.ofString "=70") 653) :: (PySem.Value.str (PySem.Str.ofString "=71") 657) :: (PySem.Value.str (PySem.Str.ofString "=72") 661) :: (PySem.Value.str (PySem.Str.ofString "=73") 665) :: (PySem.Value.str (PySem.Str.ofString "=74") 669) :: (PySem.Value.str (PySem.Str.ofString "=75") 673) :: (PySem.Value.str (PySem.Str.ofString "=76") 677) :: (PySem.Value.str (PySem.Str.ofString "=77") 681) :: (PySem.Value.str (PySem.Str.ofString "=78") 685) :: (PySem.Value.str (PySem.Str.ofString "=79") 689) :: (PySem.Value.str (PySem.Str.ofString "=7A") 693) :: (PySem.Value.str (PySem.Str.ofString "=7B") 697) :: (PySem.Value.str (PySem.Str.ofString "=7C") 701) :: (PySem.Value.str (PySem.Str.ofString "=7D") 705) :: (PySem.Value.str (PySem.Str.ofString "=7E") 709) :: (PySem.Value.str (PySem.Str.ofString "=7F") 713) :: (PySem.Value.str (PySem.Str.ofString "=80") 717) :: (PySem.Value.str (PySem.Str.ofString "=81") 721) :: (PySem.Value.str (PySem.Str.ofString "=82") 725) :: (PySem.Value.str (PySem.Str.ofString "=83") 729) :: (PySem.Value.str (PySem.Str.ofString "=84") 733) :: (PySem.Value.str (PySem.Str.ofString "=85") 737) :: (PySem.Value.str (PySem.Str.ofString "=86") 741) :: (PySem.Value.str (PySem.Str.ofString "=87") 745) :: (PySem.Value.str (PySem.Str.ofString "=88") 749) :: (PySem.Value.str (PySem.Str.ofString "=89") 753) :: (PySem.Value.str (PySem.Str.ofString "=8A") 757) :: (PySem.Value.str (PySem.Str.ofString "=8B") 761) :: (PySem.Value.str (PySem.Str.ofString "=8C") 765) :: (PySem.Value.str (PySem.Str.ofString "=8D") 769) :: (PySem.Value.str (PySem.Str.ofString "=8E") 773) :: (PySem.Value.str (PySem.Str.ofString "=8F") 777) :: (PySem.Value.str (PySem.Str.ofString "=90") 781) :: (PySem.Value.str (PySem.Str.ofString "=91") 785) :: (PySem.Value.str (PySem.Str.ofString "=92") 789) :: (PySem.Value.str (PySem.Str.ofString "=93") 793) :: (PySem.Value.str (PySem.Str.ofString "=94") 797) :: (PySem.Value.str (PySem.Str.ofString "=95") 801) :: (PySem.Value.str (PySem.Str.ofString "=96") 805) :: (PySem.Value.str (PySem.Str.ofString "=97") 809) :: (PySem.Value.str (PySem.Str.ofString "=98") 813) :: (PySem.Value.str (PySem.Str.ofString "=99") 817) :: (PySem.Value.str (PySem.Str.ofString "=9A") 821) :: (PySem.Value.str (PySem.Str.ofString "=9B") 825) :: (PySem.Value.str (PySem.Str.ofString "=9C") 829) :: (PySem.Value.str (PySem.Str.ofString "=9D") 833) :: (PySem.Value.str (PySem.Str.ofString "=9E") 837) :: (PySem.Value.str (PySem.Str.ofString "=9F") 841) :: (PySem.Value.str (PySem.Str.ofString "=A0") 845) :: (PySem.Value.str (PySem.Str.ofString "=A1") 849) :: (PySem.Value.str (PySem.Str.ofString "=A2") 853) :: (PySem.Value.str (PySem.Str.ofString "=A3") 857) :: (PySem.Value.str (PySem.Str.ofString "=A4") 861) :: (PySem.Value.str (PySem.Str.ofString "=A5") 865) :: (PySem.Value.str (PySem.Str.ofString "=A6") 869) :: (PySem.Value.str (PySem.Str.ofString "=A7") 873) :: (PySem.Value.str (PySem.Str.ofString "=A8") 877) :: (PySem.Value.str (PySem.Str.ofString "=A9") 881) :: (PySem.Value.str (PySem.Str.ofString "=AA") 885) :: (PySem.Value.str (PySem.Str.ofString "=AB") 889) :: (PySem.Value.str (PySem.Str.ofString "=AC") 893) :: (PySem.Value.str (PySem.Str.ofString "=AD") 897) :: (PySem.Value.str (PySem.Str.ofString "=AE") 901) :: (PySem.Value.str (PySem.Str.ofString "=AF") 905) :: (PySem.Value.str (PySem.Str.ofString "=B0") 909) :: (PySem.Value.str (PySem.Str.ofString "=B1") 913) :: (PySem.Value.str (PySem.Str.ofString "=B2") 917) :: (PySem.Value.str (PySem.Str.ofString "=B3") 921) :: (PySem.Value.str (PySem.Str.ofString "=B4") 925) :: (PySem.Value.str (PySem.Str.ofString "=B5") 929) :: (PySem.Value.str (PySem.Str.ofString "=B6") 933) :: (PySem.Value.str (PySem.Str.ofString "=B7") 937) :: (PySem.Value.str (PySem.Str.ofString "=B8") 941) :: (PySem.Value.str (PySem.Str.ofString "=B9") 945) :: (PySem.Value.str (PySem.Str.ofString "=BA") 949) :: (PySem.Value.str (PySem.Str.ofString "=BB") 953) :: (PySem.Value.str (PySem.Str.ofString "=BC") 957) :: (PySem.Value.str (PySem.Str.ofString "=BD") 961) :: (PySem.Value.str (PySem.Str.ofString "=BE") 965) :: (PySem.Value.str (PySem.Str.ofString "=BF") 969) :: (PySem.Value.str (PySem.Str.ofString "=C0") 973) :: (PySem.Value.str (PySem.Str.ofString "=C1") 977) :: (PySem.Value.str (PySem.Str.ofString "=C2") 981) :: (PySem.Value.str (PySem.Str.ofString "=C3") 985) :: (PySem.Value.str (PySem.Str.ofString "=C4") 989) :: (PySem.Value.str (PySem.Str.ofString "=C5") 993) :: (PySem.Value.str (PySem.Str.ofString "=C6") 997) :: (PySem.Value.str (PySem.Str.ofString "=C7") 1001) :: (PySem.Value.str (PySem.Str.ofString "=C8") 1005) :: (PySem.Value.str (PySem.Str.ofString "=C9") 1009) :: (PySem.Value.str (PySem.Str.ofString "=CA") 1013) :: (PySem.Value.str (PySem.Str.ofString "=CB") 1017) :: (PySem.Value.str (PySem.Str.ofString "=CC") 1021) :: (PySem.Value.str (PySem.Str.ofString "=CD") 1025) :: (PySem.Value.str (PySem.Str.ofString "=CE") 1029) :: (PySem.Value.str (PySem.Str.ofString "=CF") 1033) :: (PySem.Value.str (PySem.Str.ofString "=D0") 1037) :: (PySem.Value.str (PySem.Str.ofString "=D1") 1041) :: (PySem.Value.str (PySem.Str.ofString "=D2") 1045) :: (PySem.Value.str (PySem.Str.ofString "=D3") 1049) :: (PySem.Value.str (PySem.Str.ofString "=D4") 1053) :: (PySem.Value.str (PySem.Str.ofString "=D5") 1057) :: (PySem.Value.str (PySem.Str.ofString "=D6") 1061) :: (PySem.Value.str (PySem.Str.ofString "=D7") 1065) :: (PySem.Value.str (PySem.Str.ofString "=D8") 1069) :: (PySem.Value.str (PySem.Str.ofString "=D9") 1073) :: (PySem.Value.str (PySem.Str.ofString "=DA") 1077) :: (PySem.Value.str (PySem.Str.ofString "=DB") 1081) :: (PySem.Value.str (PySem.Str.ofString "=DC") 1085) :: (PySem.Value.str (PySem.Str.ofString "=DD") 1089) :: (PySem.Value.str (PySem.Str.ofString "=DE") 1093) :: (PySem.Value.str (PySem.Str.ofString "=DF") 1097) :: (PySem.Value.str (PySem.Str.ofString "=E0") 1101) :: (PySem.Value.str (PySem.Str.ofString "=E1") 1105) :: (PySem.Value.str (PySem.Str.ofString "=E2") 1109) :: (PySem.Value.str (PySem.Str.ofString "=E3") 1113) :: (PySem.Value.str (PySem.Str.ofString "=E4") 1117) :: (PySem.Value.str (PySem.Str.ofString "=E5") 1121) :: (PySem.Value.str (PySem.Str.ofString "=E6") 1125) :: (PySem.Value.str (PySem.Str.ofString "=E7") 1129) :: (PySem.Value.str (PySem.Str.ofString "=E8") 1133) :: (PySem.Value.str (PySem.Str.ofString "=E9") 1137) :: (PySem.Value.str (PySem.Str.ofString "=EA") 1141) :: (PySem.Value.str (PySem.Str.ofString "=EB") 1145) :: (PySem.Value.str (PySem.Str.ofString "=EC") 1149) :: (PySem.Value.str (PySem.Str.ofString "=ED") 1153) :: (PySem.Value.str (PySem.Str.ofString "=EE") 1157) :: (PySem.Value.str (PySem.Str.ofString "=EF") 1161) :: (PySem.Value.str (PySem.Str.ofString "=F0") 1165) :: (PySem.Value.str (PySem.Str.ofString "=F1") 1169) :: (PySem.Value.str (PySem.Str.ofString "=F2") 1173) :: (PySem.Value.str (PySem.Str.ofString "=F3") 1177) :: (PySem.Value.str (PySem.Str.ofString "=F4") 1181) :: (PySem.Value.str (PySem.Str.ofString "=F5") 1185) :: (PySem.Value.str (PySem.Str.ofString "=F6") 1189) :: (PySem.Value.str (PySem.Str.ofString "=F7") 1193) :: (PySem.Value.str (PySem.Str.ofString "=F8") 1197) :: (PySem.Value.str (PySem.Str.ofString "=F9") 1201) :: (PySem.Value.str (PySem.Str.ofString "=FA") 1205) :: (PySem.Value.str (PySem.Str.ofString "=FB") 1209) :: (PySem.Value.str (PySem.Str.ofString "=FC") 1213) :: (PySem.Value.str (PySem.Str.ofString "=FD") 1217) :: (PySem.Value.str (PySem.Str.ofString "=FE") 1221) :: (PySem.Value.str (PySem.Str.ofString "=FF") 1225) :: [])) 0) #[])
noncomputable abbrev hO57 (P : PySem.Params) : PySem.Obj := (PySem.Obj.mk (PySem.Value.type "slice") none (PySem.Data.fields #[PySem.Value.none, PySem.Value.none, PySem.Value.none]) #[])
noncomputable abbrev hO58 (P : PySem.Params) : PySem.Obj := (PySem.Obj.mk (PySem.Value.type "list") none (PySem.Data.seq (List.toArray ((PySem.Value.str (PySem.Str.ofString "=00") 205) :: (PySem.Value.str (PySem.Str.ofString "=01") 209) :: (PySem.Value.str (PySem.Str.ofString "=02") 213) :: (PySem.Value.str (PySem.Str.ofString "=03") 217) :: (PySem.Value.str (PySem.Str.ofString "=04") 221) :: (PySem.Value.str (PySem.Str.ofString "=05") 225) :: (PySem.Value.str (PySem.Str.ofString "=06") 229) :: (PySem.Value.str (PySem.Str.ofString "=07") 233) :: (PySem.Value.str (PySem.Str.ofString "=08") 237) :: (PySem.Value.str (PySem.Str.ofString "=09") 241) :: (PySem.Value.str (PySem.Str.ofString "=0A") 245) :: (PySem.Value.str (PySem.Str.ofString "=0B") 249) :: (PySem.Value.str (PySem.Str.ofString "=0C") 253) :: (PySem.Value.str (PySem.Str.ofString "=0D") 257) :: (PySem.Value.str (PySem.Str.ofString "=0E") 261) :: (PySem.Value.str (PySem.Str.ofString "=0F") 265) :: (PySem.Value.str (PySem.Str.ofString "=10") 269) :: (PySem.Value.str (PySem.Str.ofString "=11") 273) :: (PySem.Value.str (PySem.Str.ofString "=12") 277) :: (PySem.Value.str (PySem.Str.ofString "=13") 281) :: (PySem.Value.str (PySem.Str.ofString "=14") 285) :: (PySem.Value.str (PySem.Str.ofString "=15") 289) :: (PySem.Value.str (PySem.Str.ofString "=16") 293) :: (PySem.Value.str (PySem.Str.ofString "=17") 297) :: (PySem.Value.str (PySem.Str.ofString "=18") 301) :: (PySem.Value.str (PySem.Str.ofString "=19") 305) :: (PySem.Value.str (PySem.Str.ofString "=1A") 309) :: (PySem.Value.str (PySem.Str.ofString "=1B") 313) :: (PySem.Value.str (PySem.Str.ofString "=1C") 317) :: (PySem.Value.str (PySem.Str.ofString "=1D") 321) :: (PySem.Value.str (PySem.Str.ofString "=1E") 325) :: (PySem.Value.str (PySem.Str.ofString "=1F") 329) :: (PySem.Value.str (PySem.Str.ofString "=20") 333) :: (PySem.Value.str (PySem.Str.ofString "=21") 337) :: (PySem.Value.str (PySem.Str.ofString "=22") 341) :: (PySem.Value.str (PySem.Str.ofString "=23") 345) :: (PySem.Value.str (PySem.Str.ofString "=24") 349) :: (PySem.Value.str (PySem.Str.ofString "=25") 353) :: (PySem.Value.str (PySem.Str.ofString "=26") 357) :: (PySem.Value.str (PySem.Str.ofString "=27") 361) :: (PySem.Value.str (PySem.Str.ofString "=28") 365) :: (PySem.Value.str (PySem.Str.ofString "=29") 369) :: (PySem.Value.str (PySem.Str.ofString "=2A") 373) :: (PySem.Value.str (PySem.Str.ofString "=2B") 377) :: (PySem.Value.str (PySem.Str.ofString "=2C") 381) :: (PySem.Value.str (PySem.Str.ofString "=2D") 385) :: (PySem.Value.str (PySem.Str.ofString "=2E") 389) :: (PySem.Value.str (PySem.Str.ofString "=2F") 393) :: (PySem.Value.str (PySem.Str.ofString "=30") 397) :: (PySem.Value.str (PySem.Str.ofString "=31") 401) :: (PySem.Value.str (PySem.Str.ofString "=32") 405) :: (PySem.Value.str (PySem.Str.ofString "=33") 409) :: (PySem.Value.str (PySem.Str.ofString "=34") 413) :: (PySem.Value.str (PySem.Str.ofString "=35") 417) :: (PySem.Value.str (PySem.Str.ofString "=36") 421) :: (PySem.Value.str (PySem.Str.ofString "=37") 425) :: (PySem.Value.str (PySem.Str.ofString "=38") 429) :: (PySem.Value.str (PySem.Str.ofString "=39") 433) :: (PySem.Value.str (PySem.Str.ofString "=3A") 437) :: (PySem.Value.str (PySem.Str.ofString "=3B") 441) :: (PySem.Value.str (PySem.Str.ofString "=3C") 445) :: (PySem.Value.str (PySem.Str.ofString "=3D") 449) :: (PySem.Value.str (PySem.Str.ofString "=3E") 453) :: (PySem.Value.str (PySem.Str.ofString "=3F") 457) :: (PySem.Value.str (PySem.Str.ofString "=40") 461) :: (PySem.Value.str (PySem.Str.ofString "=41") 465) :: (PySem.Value.str (PySem.Str.ofString "=42") 469) :: (PySem.Value.str (PySem.Str.ofString "=43") 473) :: (PySem.Value.str (PySem.Str.ofString "=44") 477) :: (PySem.Value.str (PySem.Str.ofString "=45") 481) :: (PySem.Value.str (PySem.Str.ofString "=46") 485) :: (PySem.Value.str (PySem.Str.ofString "=47") 489) :: (PySem.Value.str (PySem.Str.ofString "=48") 493) :: (PySem.Value.str (PySem.Str.ofString "=49") 497) :: (PySem.Value.str (PySem.Str.ofString "=4A") 501) :: (PySem.Value.str (PySem.Str.ofString "=4B") 505) :: (PySem.Value.str (PySem.Str.ofString "=4C") 509) :: (PySem.Value.str (PySem.Str.ofString "=4D") 513) :: (PySem.Value.str (PySem.Str.ofString "=4E") 517) :: (PySem.Value.str (PySem.Str.ofString "=4F") 521) :: (PySem.Value.str (PySem.Str.ofString "=50") 525) :: (PySem.Value.str (PySem.Str.ofString "=51") 529) :: (PySem.Value.str (PySem.Str.ofString "=52") 533) :: (PySem.Value.str (PySem.Str.ofString "=53") 537) :: (PySem.Value.str (PySem.Str.ofString "=54") 541) :: (PySem.Value.str (PySem.Str.ofString "=55") 545) :: (PySem.Value.str (PySem.Str.ofString "=56") 549) :: (PySem.Value.str (PySem.Str.ofString "=57") 553) :: (PySem.Value.str (PySem.Str.ofString "=58") 557) :: (PySem.Value.str (PySem.Str.ofString "=59") 561) :: (PySem.Value.str (PySem.Str.ofString "=5A") 565) :: (PySem.Value.str (PySem.Str.ofString "=5B") 569) :: (PySem.Value.str (PySem.Str.ofString "=5C") 573) :: (PySem.Value.str (PySem.Str.ofString "=5D") 577) :: (PySem.Value.str (PySem.Str.ofString "=5E") 581) :: (PySem.Value.str (PySem.Str.ofString "=5F") 585) :: (PySem.Value.str (PySem.Str.ofString "=60") 589) :: (PySem.Value.str (PySem.Str.ofString "=61") 593) :: (PySem.Value.str (PySem.Str.ofString "=62") 597) :: (PySem.Value.str (PySem.Str.ofString "=63") 601) :: (PySem.Value.str (PySem.Str.ofString "=64") 605) :: (PySem.Value.str (PySem.Str.ofString "=65") 609) :: (PySem.Value.str (PySem.Str.ofString "=66") 613) :: (PySem.Value.str (PySem.Str.ofString "=67") 617) :: (PySem.Value.str (PySem.Str.ofString "=68") 621) :: (PySem.Value.str (PySem.Str.ofString "=69") 625) :: (PySem.Value.str (PySem.Str.ofString "=6A") 629) :: (PySem.Value.str (PySem.Str.ofString "=6B") 633) :: (PySem.Value.str (PySem.Str.ofString "=6C") 637) :: (PySem.Value.str (PySem.Str.ofString "=6D") 641) :: (PySem.Value.str (PySem.Str.ofString "=6E") 645) :: (PySem.Value.str (PySem.Str.ofString "=6F") 649) :: (PySem.Value.str (PySem.Str.ofString "=70") 653) :: (PySem.Value.str (PySem.Str.ofString "=71") 657) :: (PySem.Value.str (PySem.Str.ofString "=72") 661) :: (PySem.Value.str (PySem.Str.ofString "=73") 665) :: (PySem.Value.str (PySem.Str.ofString "=74") 669) :: (PySem.Value.str (PySem.Str.ofString "=75") 673) :: (PySem.Value.str (PySem.Str.ofString "=76") 677) :: (PySem.Value.str (PySem.Str.ofString "=77") 681) :: (PySem.Value.str (PySem.Str.ofString "=78") 685) :: (PySem.Value.str (PySem.Str.ofString "=79") 689) :: (PySem.Value.str (PySem.Str.ofString "=7A") 693) :: (PySem.Value.str (PySem.Str.ofString "=7B") 697) :: (PySem.Value.str (PySem.Str.ofString "=7C") 701) :: (PySem.Value.str (PySem.Str.ofString "=7D") 705) :: (PySem.Value.str (PySem.Str.ofString "=7E") 709) :: (PySem.Value.str (PySem.Str.ofString "=7F") 713) :: (PySem.Value.str (PySem.Str.ofString "=80") 717) :: (PySem.Value.str (PySem.Str.ofString "=81") 721) :: (PySem.Value.str (PySem.Str.ofString "=82") 725) :: (PySem.Value.str (PySem.Str.ofString "=83") 729) :: (PySem.Value.str (PySem.Str.ofString "=84") 733) :: (PySem.Value.str (PySem.Str.ofString "=85") 737) :: (PySem.Value.str (PySem.Str.ofString "=86") 741) :: (PySem.Value.str (PySem.Str.ofString "=87") 745) :: (PySem.Value.str (PySem.Str.ofString "=88") 749) :: (PySem.Value.str (PySem.Str.ofString "=89") 753) :: (PySem.Value.str (PySem.Str.ofString "=8A") 757) :: (PySem.Value.str (PySem.Str.ofString "=8B") 761) :: (PySem.Value.str (PySem.Str.ofString "=8C") 765) :: (PySem.Value.str (PySem.Str.ofString "=8D") 769) :: (PySem.Value.str (PySem.Str.ofString "=8E") 773) :: (PySem.Value.str (PySem.Str.ofString "=8F") 777) :: (PySem.Value.str (PySem.Str.ofString "=90") 781) :: (PySem.Value.str (PySem.Str.ofString "=91") 785) :: (PySem.Value.str (PySem.Str.ofString "=92") 789) :: (PySem.Value.str (PySem.Str.ofString "=93") 793) :: (PySem.Value.str (PySem.Str.ofString "=94") 797) :: (PySem.Value.str (PySem.Str.ofString "=95") 801) :: (PySem.Value.str (PySem.Str.ofString "=96") 805) :: (PySem.Value.str (PySem.Str.ofString "=97") 809) :: (PySem.Value.str (PySem.Str.ofString "=98") 813) :: (PySem.Value.str (PySem.Str.ofString "=99") 817) :: (PySem.Value.str (PySem.Str.ofString "=9A") 821) :: (PySem.Value.str (PySem.Str.ofString "=9B") 825) :: (PySem.Value.str (PySem.Str.ofString "=9C") 829) :: (PySem.Value.str (PySem.Str.ofString "=9D") 833) :: (PySem.Value.str (PySem.Str.ofString "=9E") 837) :: (PySem.Value.str (PySem.Str.ofString "=9F") 841) :: (PySem.Value.str (PySem.Str.ofString "=A0") 845) :: (PySem.Value.str (PySem.Str.ofString "=A1") 849) :: (PySem.Value.str (PySem.Str.ofString "=A2") 853) :: (PySem.Value.str (PySem.Str.ofString "=A3") 857) :: (PySem.Value.str (PySem.Str.ofString "=A4") 861) :: (PySem.Value.str (PySem.Str.ofString "=A5") 865) :: (PySem.Value.str (PySem.Str.ofString "=A6") 869) :: (PySem.Value.str (PySem.Str.ofString "=A7") 873) :: (PySem.Value.str (PySem.Str.ofString "=A8") 877) :: (PySem.Value.str (PySem.Str.ofString "=A9") 881) :: (PySem.Value.str (PySem.Str.ofString "=AA") 885) :: (PySem.Value.str (PySem.Str.ofString "=AB") 889) :: (PySem.Value.str (PySem.Str.ofString "=AC") 893) :: (PySem.Value.str (PySem.Str.ofString "=AD") 897) :: (PySem.Value.str (PySem.Str.ofString "=AE") 901) :: (PySem.Value.str (PySem.Str.ofString "=AF") 905) :: (PySem.Value.str (PySem.Str.ofString "=B0") 909) :: (PySem.Value.str (PySem.Str.ofString "=B1") 913) :: (PySem.Value.str (PySem.Str.ofString "=B2") 917) :: (PySem.Value.str (PySem.Str.ofString "=B3") 921) :: (PySem.Value.str (PySem.Str.ofString "=B4") 925) :: (PySem.Value.str (PySem.Str.ofString "=B5") 929) :: (PySem.Value.str (PySem.Str.ofString "=B6") 933) :: (PySem.Value.str (PySem.Str.ofString "=B7") 937) :: (PySem.Value.str (PySem.Str.ofString "=B8") 941) :: (PySem.Value.str (PySem.Str.ofString "=B9") 945) :: (PySem.Value.str (PySem.Str.ofString "=BA") 949) :: (PySem.Value.str (PySem.Str.ofString "=BB") 953) :: (PySem.Value.str (PySem.Str.ofString "=BC") 957) :: (PySem.Value.str (PySem.Str.ofString "=BD") 961) :: (PySem.Value.str (PySem.Str.ofString "=BE") 965) :: (PySem.Value.str (PySem.Str.ofString "=BF") 969) :: (PySem.Value.str (PySem.Str.ofString "=C0") 973) :: (PySem.Value.str (PySem.Str.ofString "=C1") 977) :: (PySem.Value.str (PySem.Str.ofString "=C2") 981) :: (PySem.Value.str (PySem.Str.ofString "=C3") 985) :: (PySem.Value.str (PySem.Str.ofString "=C4") 989) :: (PySem.Value.str (PySem.Str.ofString "=C5") 993) :: (PySem.Value.str (PySem.Str.ofString "=C6") 997) :: (PySem.Value.str (PySem.Str.ofString "=C7") 1001) :: (PySem.Value.str (PySem.Str.ofString "=C8") 1005) :: (PySem.Value.str (PySem.Str.ofString "=C9") 1009) :: (PySem.Value.str (PySem.Str.ofString "=CA") 1013) :: (PySem.Value.str (PySem.Str.ofString "=CB") 1017) :: (PySem.Value.str (PySem.Str.ofString "=CC") 1021) :: (PySem.Value.str (PySem.Str.ofString "=CD") 1025) :: (PySem.Value.str (PySem.Str.ofString "=CE") 1029) :: (PySem.Value.str (PySem.Str.ofString "=CF") 1033) :: (PySem.Value.str (PySem.Str.ofString "=D0") 1037) :: (PySem.Value.str (PySem.Str.ofString "=D1") 1041) :: (PySem.Value.str (PySem.Str.ofString "=D2") 1045) :: (PySem.Value.str (PySem.Str.ofString "=D3") 1049) :: (PySem.Value.str (PySem.Str.ofString "=D4") 1053) :: (PySem.Value.str (PySem.Str.ofString "=D5") 1057) :: (PySem.Value.str (PySem.Str.ofString "=D6") 1061) :: (PySem.Value.str (PySem.Str.ofString "=D7") 1065) :: (PySem.Value.str (PySem.Str.ofString "=D8") 1069) :: (PySem.Value.str (PySem.Str.ofString "=D9") 1073) :: (PySem.Value.str (PySem.Str.ofString "=DA") 1077) :: (PySem.Value.str (PySem.Str.ofString "=DB") 1081) :: (PySem.Value.str (PySem.Str.ofString "=DC") 1085) :: (PySem.Value.str (PySem.Str.ofString "=DD") 1089) :: (PySem.Value.str (PySem.Str.ofString "=DE") 1093) :: (PySem.Value.str (PySem.Str.ofString "=DF") 1097) :: (PySem.Value.str (PySem.Str.ofString "=E0") 1101) :: (PySem.Value.str (PySem.Str.ofString "=E1") 1105) :: (PySem.Value.str (PySem.Str.ofString "=E2") 1109) :: (PySem.Value.str (PySem.Str.ofString "=E3") 1113) :: (PySem.Value.str (PySem.Str.ofString "=E4") 1117) :: (PySem.Value.str (PySem.Str.ofString "=E5") 1121) :: (PySem.Value.str (PySem.Str.ofString "=E6") 1125) :: (PySem.Value.str (PySem.Str.ofString "=E7") 1129) :: (PySem.Value.str (PySem.Str.ofString "=E8") 1133) :: (PySem.Value.str (PySem.Str.ofString "=E9") 1137) :: (PySem.Value.str (PySem.Str.ofString "=EA") 1141) :: (PySem.Value.str (PySem.Str.ofString "=EB") 1145) :: (PySem.Value.str (PySem.Str.ofString "=EC") 1149) :: (PySem.Value.str (PySem.Str.ofString "=ED") 1153) :: (PySem.Value.str (PySem.Str.ofString "=EE") 1157) :: (PySem.Value.str (PySem.Str.ofString "=EF") 1161) :: (PySem.Value.str (PySem.Str.ofString "=F0") 1165) :: (PySem.Value.str (PySem.Str.ofString "=F1") 1169) :: (PySem.Value.str (PySem.Str.ofString "=F2") 1173) :: (PySem.Value.str (PySem.Str.ofString "=F3") 1177) :: (PySem.Value.str (PySem.Str.ofString "=F4") 1181) :: (PySem.Value.str (PySem.Str.ofString "=F5") 1185) :: (PySem.Value.str (PySem.Str.ofString "=F6") 1189) :: (PySem.Value.str (PySem.Str.ofString "=F7") 1193) :: (PySem.Value.str (PySem.Str.ofString "=F8") 1197) :: (PySem.Value.str (PySem.Str.ofString "=F9") 1201) :: (PySem.Value.str (PySem.Str.ofString "=FA") 1205) :: (PySem.Value.str (PySem.Str.ofString "=FB") 1209) :: (PySem.Value.str (PySem.Str.ofString "=FC") 1213) :: (PySem.Value.str (PySem.Str.ofString "=FD") 1217) :: (PySem.Value.str (PySem.Str.ofString "=FE") 1221) :: (PySem.Value.str (PySem.Str.ofString "=FF") 1225) :: [])) 0) #[])
noncomputable abbrev hT59 (P : PySem.Params) : PySem.W.BT := (PySem.W.BT.node (@PySem.W.boot_o_0 P) (PySem.W.BT.node (@PySem.W.boot_o_1 P) (PySem.W.BT.node (@Mine.hO54 P) (PySem.W.BT.node (@PySem.W.boot_o_7 P) (PySem.W.BT.node (@Mine.hO15 P) (PySem.W.BT.node (@Mine.hO58 P) PySem.W.BT.nil PySem.W.BT.nil) PySem.W.BT.nil) (PySem.W.BT.node (@Mine.hO47 P) PySem.W.BT.nil PySem.W.BT.nil)) (PySem.W.BT.node (@Mine.hO6 P) (PySem.W.BT.node (@Mine.hO19 P) PySem.W.BT.nil PySem.W.BT.nil) (PySem.W.BT.node (@Mine.hO51 P) PySem.W.BT.nil PySem.W.BT.nil))) (PySem.W.BT.node (@PySem.W.boot_o_5 P) (PySem.W.BT.node (@PySem.W.boot_o_9 P) (PySem.W.BT.node (@Mine.hO17 P) PySem.W.BT.nil PySem.W.BT.nil) (PySem.W.BT.node (@Mine.hO49 P) PySem.W.BT.nil PySem.W.BT.nil)) (PySem.W.BT.node (@Mine.hO8 P) (PySem.W.BT.node (@Mine.hO21 P) PySem.W.BT.nil PySem.W.BT.nil) (PySem.W.BT.node (@Mine.hO56 P) PySem.W.BT.nil PySem.W.BT.nil)))) (PySem.W.BT.node (@PySem.W.boot_o_2 P) (PySem.W.BT.node (@PySem.W.boot_o_4 P) (PySem.W.BT.node (@PySem.W.boot_o_8 P) (PySem.W.BT.node (@Mine.hO16 P) PySem.W.BT.nil PySem.W.BT.nil) (PySem.W.BT.node (@Mine.hO48 P) PySem.W.BT.nil PySem.W.BT.nil)) (PySem.W.BT.node (@Mine.hO14 P) (PySem.W.BT.node (@Mine.hO20 P) PySem.W.BT.nil PySem.W.BT.nil) (PySem.W.BT.node (@Mine.hO55 P) PySem.W.BT.nil PySem.W.BT.nil))) (PySem.W.BT.node (@PySem.W.boot_o_6 P) (PySem.W.BT.node (@PySem.W.boot_o_10 P) (PySem.W.BT.node (@Mine.hO18 P) PySem.W.BT.nil PySem.W.BT.nil) (PySem.W.BT.node (@Mine.hO50 P) PySem.W.BT.nil PySem.W.BT.nil)) (PySem.W.BT.node (@Mine.hO9 P) (PySem.W.BT.node (@Mine.hO46 P) PySem.W.BT.nil PySem.W.BT.nil) (PySem.W.BT.node (@Mine.hO57 P) PySem.W.BT.nil PySem.W.BT.nil)))))
theorem hRun2q (w : PySem.World) : (@Eq.{1} (∀ (x0 : @PySem.OsState), (@Option.{0} (@Prod.{0, 0} @PySem.Flow (@Prod.{0, 0} @PySem.W.SharedT (@Prod.{0, 0} @PySem.Code @PySem.Pos))))) (fun (x0 : @PySem.OsState) => (@PySem.W.Fast.tw10110043849684766642 @PySem.W.Fast.tw14364793385576792824 @Mine.hProg w 11 (some (PySem.Value.ref 6)) 1 152 (PySem.W.SharedT.mk (@Mine.hT52 (@PySem.World.params w)) 28 (PySem.Life.mk [] [] [] 0 [] [] Bool.false #[] [] 0 Bool.false Bool.false Bool.false (@OfNat.ofNat.{0} @Int 0 (@instOfNat 0)) [(@OfNat.ofNat.{0} @Int 2000 (@instOfNat 2000)), (@OfNat.ofNat.{0} @Int 10 (@instOfNat 10)), (@OfNat.ofNat.{0} @Int 10 (@instOfNat 10))] Bool.false 0 Bool.true [] [] 0 Bool.false) (Array.mk []) (PySem.Drawn.mk 0 0 0 0) 1227 x0) (@PySem.W.piecesOf @Mine.hSts2 @Mine.hEnv (PySem.Code.body (@PySem.W.behindTheImports @Mine.hProg) @Mine.hEnv) (PySem.Pos.mk 8 0 8 11) [(@PySem.W.topFrame (PySem.Pos.mk 0 0 0 0))]))) (fun (x0 : @PySem.OsState) => (some (PySem.Flow.next, ((PySem.W.SharedT.mk (@Mine.hT59 (@PySem.World.params w)) 32 (PySem.Life.mk [] [] [] 0 [] [] Bool.false #[] [] 0 Bool.false Bool.false Bool.false (@OfNat.ofNat.{0} @Int 0 (@instOfNat 0)) [(@OfNat.ofNat.{0} @Int 2000 (@instOfNat 2000)), (@OfNat.ofNat.{0} @Int 10 (@instOfNat 10)), (@OfNat.ofNat.{0} @Int 10 (@instOfNat 10))] Bool.false 0 Bool.true [] [] 0 Bool.false) (Array.mk []) (PySem.Drawn.mk 0 0 0 0) 1244 x0), ((PySem.Code.body (@PySem.W.behindTheImports @Mine.hProg) @Mine.hEnv), (PySem.Pos.mk 16 0 16 8))))))) := by kernel_rfl
theorem hRun2 (w : PySem.World) : (@Eq.{1} (∀ (x0 : @PySem.OsState), (@Option.{0} (@Prod.{0, 0} @PySem.Flow (@Prod.{0, 0} @PySem.W.SharedT (@Prod.{0, 0} @PySem.Code @PySem.Pos))))) (fun (x0 : @PySem.OsState) => (@PySem.W.segRunT @PySem.treeTable @Mine.hProg w 11 (some (PySem.Value.ref 6)) 1 152 (PySem.W.SharedT.mk (@Mine.hT52 (@PySem.World.params w)) 28 (PySem.Life.mk [] [] [] 0 [] [] Bool.false #[] [] 0 Bool.false Bool.false Bool.false (@OfNat.ofNat.{0} @Int 0 (@instOfNat 0)) [(@OfNat.ofNat.{0} @Int 2000 (@instOfNat 2000)), (@OfNat.ofNat.{0} @Int 10 (@instOfNat 10)), (@OfNat.ofNat.{0} @Int 10 (@instOfNat 10))] Bool.false 0 Bool.true [] [] 0 Bool.false) (Array.mk []) (PySem.Drawn.mk 0 0 0 0) 1227 x0) (@PySem.W.piecesOf @Mine.hSts2 @Mine.hEnv (PySem.Code.body (@PySem.W.behindTheImports @Mine.hProg) @Mine.hEnv) (PySem.Pos.mk 8 0 8 11) [(@PySem.W.topFrame (PySem.Pos.mk 0 0 0 0))]))) (fun (x0 : @PySem.OsState) => (some (PySem.Flow.next, ((PySem.W.SharedT.mk (@Mine.hT59 (@PySem.World.params w)) 32 (PySem.Life.mk [] [] [] 0 [] [] Bool.false #[] [] 0 Bool.false Bool.false Bool.false (@OfNat.ofNat.{0} @Int 0 (@instOfNat 0)) [(@OfNat.ofNat.{0} @Int 2000 (@instOfNat 2000)), (@OfNat.ofNat.{0} @Int 10 (@instOfNat 10)), (@OfNat.ofNat.{0} @Int 10 (@instOfNat 10))] Bool.false 0 Bool.true [] [] 0 Bool.false) (Array.mk []) (PySem.Drawn.mk 0 0 0 0) 1244 x0), ((PySem.Code.body (@PySem.W.behindTheImports @Mine.hProg) @Mine.hEnv), (PySem.Pos.mk 16 0 16 8))))))) := by
  rw [PySem.W.Fast.te10110043849684766642, PySem.W.Fast.te14364793385576792824]
  exact hRun2q w
noncomputable abbrev hSts3 : List PySem.Stmt := (@List.take.{0} @PySem.Stmt 1 (@List.drop.{0} @PySem.Stmt 12 (@PySem.W.behindTheImports @Mine.hProg)))
noncomputable abbrev hO61 (P : PySem.Params) : PySem.Obj := (PySem.Obj.mk (PySem.Value.type "dict") none (PySem.Data.dict #[(PySem.DictEntry.mk (PySem.PyData.keyHash P (PySem.Str.ofString "__name__")) (PySem.Value.str (PySem.Str.ofString "__name__") 165) (PySem.Value.str (PySem.Str.ofString "cpy313.email.quoprimime") 1242)), (PySem.DictEntry.mk (PySem.PyData.keyHash P (PySem.Str.ofString "__doc__")) (PySem.Value.str (PySem.Str.ofString "__doc__") 166) PySem.Value.none), (PySem.DictEntry.mk (PySem.PyData.keyHash P (PySem.Str.ofString "__package__")) (PySem.Value.str (PySem.Str.ofString "__package__") 167) PySem.Value.none), (PySem.DictEntry.mk (PySem.PyData.keyHash P (PySem.Str.ofString "__loader__")) (PySem.Value.str (PySem.Str.ofString "__loader__") 168) (PySem.Value.builtin "__main__.__loader__#opaque")), (PySem.DictEntry.mk (PySem.PyData.keyHash P (PySem.Str.ofString "__spec__")) (PySem.Value.str (PySem.Str.ofString "__spec__") 169) PySem.Value.none), (PySem.DictEntry.mk (PySem.PyData.keyHash P (PySem.Str.ofString "__annotations__")) (PySem.Value.str (PySem.Str.ofString "__annotations__") 170) (PySem.Value.ref 6)), (PySem.DictEntry.mk (PySem.PyData.keyHash P (PySem.Str.ofString "__builtins__")) (PySem.Value.str (PySem.Str.ofString "__builtins__") 171) (PySem.Value.ref 4)), (PySem.DictEntry.mk (PySem.PyData.keyHash P (PySem.Str.ofString "__file__")) (PySem.Value.str (PySem.Str.ofString "__file__") 173) (PySem.Value.str (PySem.Str.ofString "/claim/cut.py") 172)), (PySem.DictEntry.mk (PySem.PyData.keyHash P (PySem.Str.ofString "__cached__")) (PySem.Value.str (PySem.Str.ofString "__cached__") 174) PySem.Value.none), (PySem.DictEntry.mk (PySem.PyData.keyHash P (PySem.Str.ofString "replace")) (PySem.Value.str (PySem.Str.ofString "replace") 196) (PySem.Value.ref 21)), (PySem.DictEntry.mk (PySem.PyData.keyHash P (PySem.Str.ofString "NL")) (PySem.Value.str (PySem.Str.ofString "NL") 198) (PySem.Value.str (PySem.Str.ofString "\n") 197)), (PySem.DictEntry.mk (PySem.PyData.keyHash P (PySem.Str.ofString "_QUOPRI_MAP")) (PySem.Value.str (PySem.Str.ofString "_QUOPRI_MAP") 1226) (PySem.Value.ref 24)), (PySem.DictEntry.mk (PySem.PyData.keyHash P (PySem.Str.ofString "_QUOPRI_HEADER_MAP")) (PySem.Value.str (PySem.Str.ofString "_QUOPRI_HEADER_MAP") 1227) (PySem.Value.ref 29)), (PySem.DictEntry.mk (PySem.PyData.keyHash P (PySem.Str.ofString "_QUOPRI_BODY_MAP")) (PySem.Value.str (PySem.Str.ofString "_QUOPRI_BODY_MAP") 1228) (PySem.Value.ref 31)), (PySem.DictEntry.mk (PySem.PyData.keyHash P (PySem.Str.ofString "ascii_lowercase")) (PySem.Value.str (PySem.Str.ofString "ascii_lowercase") 1230) (PySem.Value.str (PySem.Str.ofString "abcdefghijklmnopqrstuvwxyz") 1229)), (PySem.DictEntry.mk (PySem.PyData.keyHash P (PySem.Str.ofString "ascii_uppercase")) (PySem.Value.str (PySem.Str.ofString "ascii_uppercase") 1232) (PySem.Value.str (PySem.Str.ofString "ABCDEFGHIJKLMNOPQRSTUVWXYZ") 1231)), (PySem.DictEntry.mk (PySem.PyData.keyHash P (PySem.Str.ofString "ascii_letters")) (PySem.Value.str (PySem.Str.ofString "ascii_letters") 1234) (PySem.Value.str (PySem.Str.ofString "abcdefghijklmnopqrstuvwxyzABCDEFGHIJKLMNOPQRSTUVWXYZ") 1233)), (PySem.DictEntry.mk (PySem.PyData.keyHash P (PySem.Str.ofString "digits")) (PySem.Value.str (PySem.Str.ofString "digits") 1236) (PySem.Value.str (PySem.Str.ofString "0123456789") 1235)), (PySem.DictEntry.mk (PySem.PyData.keyHash P (PySem.Str.ofString "hexdigits")) (PySem.Value.str (PySem.Str.ofString "hexdigits") 1241) (PySem.Value.str (PySem.Str.ofString "0123456789abcdefABCDEF") 1240)), (PySem.DictEntry.mk (PySem.PyData.keyHash P (PySem.Str.ofString "c")) (PySem.Value.str (PySem.Str.ofString "c") 1252) (PySem.Value.int (@OfNat.ofNat.{0} @Int 57 (@instOfNat 57)) 1449))] 20) #[])
noncomputable abbrev hO62 (P : PySem.Params) : PySem.Obj := (PySem.Obj.mk (PySem.Value.type "list") none (PySem.Data.seq (List.toArray ((PySem.Value.str (PySem.Str.ofString "=00") 205) :: (PySem.Value.str (PySem.Str.ofString "=01") 209) :: (PySem.Value.str (PySem.Str.ofString "=02") 213) :: (PySem.Value.str (PySem.Str.ofString "=03") 217) :: (PySem.Value.str (PySem.Str.ofString "=04") 221) :: (PySem.Value.str (PySem.Str.ofString "=05") 225) :: (PySem.Value.str (PySem.Str.ofString "=06") 229) :: (PySem.Value.str (PySem.Str.ofString "=07") 233) :: (PySem.Value.str (PySem.Str.ofString "=08") 237) :: (PySem.Value.str (PySem.Str.ofString "=09") 241) :: (PySem.Value.str (PySem.Str.ofString "=0A") 245) :: (PySem.Value.str (PySem.Str.ofString "=0B") 249) :: (PySem.Value.str (PySem.Str.ofString "=0C") 253) :: (PySem.Value.str (PySem.Str.ofString "=0D") 257) :: (PySem.Value.str (PySem.Str.ofString "=0E") 261) :: (PySem.Value.str (PySem.Str.ofString "=0F") 265) :: (PySem.Value.str (PySem.Str.ofString "=10") 269) :: (PySem.Value.str (PySem.Str.ofString "=11") 273) :: (PySem.Value.str (PySem.Str.ofString "=12") 277) :: (PySem.Value.str (PySem.Str.ofString "=13") 281) :: (PySem.Value.str (PySem.Str.ofString "=14") 285) :: (PySem.Value.str (PySem.Str.ofString "=15") 289) :: (PySem.Value.str (PySem.Str.ofString "=16") 293) :: (PySem.Value.str (PySem.Str.ofString "=17") 297) :: (PySem.Value.str (PySem.Str.ofString "=18") 301) :: (PySem.Value.str (PySem.Str.ofString "=19") 305) :: (PySem.Value.str (PySem.Str.ofString "=1A") 309) :: (PySem.Value.str (PySem.Str.ofString "=1B") 313) :: (PySem.Value.str (PySem.Str.ofString "=1C") 317) :: (PySem.Value.str (PySem.Str.ofString "=1D") 321) :: (PySem.Value.str (PySem.Str.ofString "=1E") 325) :: (PySem.Value.str (PySem.Str.ofString "=1F") 329) :: (PySem.Value.str (PySem.Str.ofString "=20") 333) :: (PySem.Value.str (PySem.Str.ofString "!") 1256) :: (PySem.Value.str (PySem.Str.ofString "=22") 341) :: (PySem.Value.str (PySem.Str.ofString "=23") 345) :: (PySem.Value.str (PySem.Str.ofString "=24") 349) :: (PySem.Value.str (PySem.Str.ofString "=25") 353) :: (PySem.Value.str (PySem.Str.ofString "=26") 357) :: (PySem.Value.str (PySem.Str.ofString "=27") 361) :: (PySem.Value.str (PySem.Str.ofString "=28") 365) :: (PySem.Value.str (PySem.Str.ofString "=29") 369) :: (PySem.Value.str (PySem.Str.ofString "*") 1259) :: (PySem.Value.str (PySem.Str.ofString "+") 1262) :: (PySem.Value.str (PySem.Str.ofString "=2C") 381) :: (PySem.Value.str (PySem.Str.ofString "-") 1253) :: (PySem.Value.str (PySem.Str.ofString "=2E") 389) :: (PySem.Value.str (PySem.Str.ofString "/") 1265) :: (PySem.Value.str (PySem.Str.ofString "0") 1424) :: (PySem.Value.str (PySem.Str.ofString "1") 1427) :: (PySem.Value.str (PySem.Str.ofString "2") 1430) :: (PySem.Value.str (PySem.Str.ofString "3") 1433) :: (PySem.Value.str (PySem.Str.ofString "4") 1436) :: (PySem.Value.str (PySem.Str.ofString "5") 1439) :: (PySem.Value.str (PySem.Str.ofString "6") 1442) :: (PySem.Value.str (PySem.Str.ofString "7") 1445) :: (PySem.Value.str (PySem.Str.ofString "8") 1448) :: (PySem.Value.str (PySem.Str.ofString "9") 1451) :: (PySem.Value.str (PySem.Str.ofString "=3A") 437) :: (PySem.Value.str (PySem.Str.ofString "=3B") 441) :: (PySem.Value.str (PySem.Str.ofString "=3C") 445) :: (PySem.Value.str (PySem.Str.ofString "=3D") 449) :: (PySem.Value.str (PySem.Str.ofString "=3E") 453) :: (PySem.Value.str (PySem.Str.ofString "=3F") 457) :: (PySem.Value.str (PySem.Str.ofString "=40") 461) :: (PySem.Value.str (PySem.Str.ofString "A") 1346) :: (PySem.Value.str (PySem.Str.ofString "B") 1349) :: (PySem.Value.str (PySem.Str.ofString "C") 1352) :: (PySem.Value.str (PySem.Str.ofString "D") 1355) :: (PySem.Value.str (PySem.Str.ofString "E") 1358) :: (PySem.Value.str (PySem.Str.ofString "F") 1361) :: (PySem.Value.str (PySem.Str.ofString "G") 1364) :: (PySem.Value.str (PySem.Str.ofString "H") 1367) :: (PySem.Value.str (PySem.Str.ofString "I") 1370) :: (PySem.Value.str (PySem.Str.ofString "J") 1373) :: (PySem.Value.str (PySem.Str.ofString "K") 1376) :: (PySem.Value.str (PySem.Str.ofString "L") 1379) :: (PySem.Value.str (PySem.Str.ofString "M") 1382) :: (PySem.Value.str (PySem.Str.ofString "N") 1385) :: (PySem.Value.str (PySem.Str.ofString "O") 1388) :: (PySem.Value.str (PySem.Str.ofString "P") 1391) :: (PySem.Value.str (PySem.Str.ofString "Q") 1394) :: (PySem.Value.str (PySem.Str.ofString "R") 1397) :: (PySem.Value.str (PySem.Str.ofString "S") 1400) :: (PySem.Value.str (PySem.Str.ofString "T") 1403) :: (PySem.Value.str (PySem.Str.ofString "U") 1406) :: (PySem.Value.str (PySem.Str.ofString "V") 1409) :: (PySem.Value.str (PySem.Str.ofString "W") 1412) :: (PySem.Value.str (PySem.Str.ofString "X") 1415) :: (PySem.Value.str (PySem.Str.ofString "Y") 1418) :: (PySem.Value.str (PySem.Str.ofString "Z") 1421) :: (PySem.Value.str (PySem.Str.ofString "=5B") 569) :: (PySem.Value.str (PySem.Str.ofString "=5C") 573) :: (PySem.Value.str (PySem.Str.ofString "=5D") 577) :: (PySem.Value.str (PySem.Str.ofString "=5E") 581) :: (PySem.Value.str (PySem.Str.ofString "=5F") 585) :: (PySem.Value.str (PySem.Str.ofString "=60") 589) :: (PySem.Value.str (PySem.Str.ofString "a") 1268) :: (PySem.Value.str (PySem.Str.ofString "b") 1271) :: (PySem.Value.str (PySem.Str.ofString "c") 1274) :: (PySem.Value.str (PySem.Str.ofString "d") 1277) :: (PySem.Value.str (PySem.Str.ofString "e") 1280) :: (PySem.Value.str (PySem.Str.ofString "f") 1283) :: (PySem.Value.str (PySem.Str.ofString "g") 1286) :: (PySem.Value.str (PySem.Str.ofString "h") 1289) :: (PySem.Value.str (PySem.Str.ofString "i") 1292) :: (PySem.Value.str (PySem.Str.ofString "j") 1295) :: (PySem.Value.str (PySem.Str.ofString "k") 1298) :: (PySem.Value.str (PySem.Str.ofString "l") 1301) :: (PySem.Value.str (PySem.Str.ofString "m") 1304) :: (PySem.Value.str (PySem.Str.ofString "n") 1307) :: (PySem.Value.str (PySem.Str.ofString "o") 1310) :: (PySem.Value.str (PySem.Str.ofString "p") 1313) :: (PySem.Value.str (PySem.Str.ofString "q") 1316) :: (PySem.Value.str (PySem.Str.ofString "r") 1319) :: (PySem.Value.str (PySem.Str.ofString "s") 1322) :: (PySem.Value.str (PySem.Str.ofString "t") 1325) :: (PySem.Value.str (PySem.Str.ofString "u") 1328) :: (PySem.Value.str (PySem.Str.ofString "v") 1331) :: (PySem.Value.str (PySem.Str.ofString "w") 1334) :: (PySem.Value.str (PySem.Str.ofString "x") 1337) :: (PySem.Value.str (PySem.Str.ofString "y") 1340) :: (PySem.Value.str (PySem.Str.ofString "z") 1343) :: (PySem.Value.str (PySem.Str.ofString "=7B") 697) :: (PySem.Value.str (PySem.Str.ofString "=7C") 701) :: (PySem.Value.str (PySem.Str.ofString "=7D") 705) :: (PySem.Value.str (PySem.Str.ofString "=7E") 709) :: (PySem.Value.str (PySem.Str.ofString "=7F") 713) :: (PySem.Value.str (PySem.Str.ofString "=80") 717) :: (PySem.Value.str (PySem.Str.ofString "=81") 721) :: (PySem.Value.str (PySem.Str.ofString "=82") 725) :: (PySem.Value.str (PySem.Str.ofString "=83") 729) :: (PySem.Value.str (PySem.Str.ofString "=84") 733) :: (PySem.Value.str (PySem.Str.ofString "=85") 737) :: (PySem.Value.str (PySem.Str.ofString "=86") 741) :: (PySem.Value.str (PySem.Str.ofString "=87") 745) :: (PySem.Value.str (PySem.Str.ofString "=88") 749) :: (PySem.Value.str (PySem.Str.ofString "=89") 753) :: (PySem.Value.str (PySem.Str.ofString "=8A") 757) :: (PySem.Value.str (PySem.Str.ofString "=8B") 761) :: (PySem.Value.str (PySem.Str.ofString "=8C") 765) :: (PySem.Value.str (PySem.Str.ofString "=8D") 769) :: (PySem.Value.str (PySem.Str.ofString "=8E") 773) :: (PySem.Value.str (PySem.Str.ofString "=8F") 777) :: (PySem.Value.str (PySem.Str.ofString "=90") 781) :: (PySem.Value.str (PySem.Str.ofString "=91") 785) :: (PySem.Value.str (PySem.Str.ofString "=92") 789) :: (PySem.Value.str (PySem.Str.ofString "=93") 793) :: (PySem.Value.str (PySem.Str.ofString "=94") 797) :: (PySem.Value.str (PySem.Str.ofString "=95") 801) :: (PySem.Value.str (PySem.Str.ofString "=96") 805) :: (PySem.Value.str (PySem.Str.ofString "=97") 809) :: (PySem.Value.str (PySem.Str.ofString "=98") 813) :: (PySem.Value.str (PySem.Str.ofString "=99") 817) :: (PySem.Value.str (PySem.Str.ofString "=9A") 821) :: (PySem.Value.str (PySem.Str.ofString "=9B") 825) :: (PySem.Value.str (PySem.Str.ofString "=9C") 829) :: (PySem.Value.str (PySem.Str.ofString "=9D") 833) :: (PySem.Value.str (PySem.Str.ofString "=9E") 837) :: (PySem.Value.str (PySem.Str.ofString "=9F") 841) :: (PySem.Value.str (PySem.Str.ofString "=A0") 845) :: (PySem.Value.str (PySem.Str.ofString "=A1") 849) :: (PySem.Value.str (PySem.Str.ofString "=A2") 853) :: (PySem.Value.str (PySem.Str.ofString "=A3") 857) :: (PySem.Value.str (PySem.Str.ofString "=A4") 861) :: (PySem.Value.str (PySem.Str.ofString "=A5") 865) :: (PySem.Value.str (PySem.Str.ofString "=A6") 869) :: (PySem.Value.str (PySem.Str.ofString "=A7") 873) :: (PySem.Value.str (PySem.Str.ofString "=A8") 877) :: (PySem.Value.str (PySem.Str.ofString "=A9") 881) :: (PySem.Value.str (PySem.Str.ofString "=AA") 885) :: (PySem.Value.str (PySem.Str.ofString "=AB") 889) :: (PySem.Value.str (PySem.Str.ofString "=AC") 893) :: (PySem.Value.str (PySem.Str.ofString "=AD") 897) :: (PySem.Value.str (PySem.Str.ofString "=AE") 901) :: (PySem.Value.str (PySem.Str.ofString "=AF") 905) :: (PySem.Value.str (PySem.Str.ofString "=B0") 909) :: (PySem.Value.str (PySem.Str.ofString "=B1") 913) :: (PySem.Value.str (PySem.Str.ofString "=B2") 917) :: (PySem.Value.str (PySem.Str.ofString "=B3") 921) :: (PySem.Value.str (PySem.Str.ofString "=B4") 925) :: (PySem.Value.str (PySem.Str.ofString "=B5") 929) :: (PySem.Value.str (PySem.Str.ofString "=B6") 933) :: (PySem.Value.str (PySem.Str.ofString "=B7") 937) :: (PySem.Value.str (PySem.Str.ofString "=B8") 941) :: (PySem.Value.str (PySem.Str.ofString "=B9") 945) :: (PySem.Value.str (PySem.Str.ofString "=BA") 949) :: (PySem.Value.str (PySem.Str.ofString "=BB") 953) :: (PySem.Value.str (PySem.Str.ofString "=BC") 957) :: (PySem.Value.str (PySem.Str.ofString "=BD") 961) :: (PySem.Value.str (PySem.Str.ofString "=BE") 965) :: (PySem.Value.str (PySem.Str.ofString "=BF") 969) :: (PySem.Value.str (PySem.Str.ofString "=C0") 973) :: (PySem.Value.str (PySem.Str.ofString "=C1") 977) :: (PySem.Value.str (PySem.Str.ofString "=C2") 981) :: (PySem.Value.str (PySem.Str.ofString "=C3") 985) :: (PySem.Value.str (PySem.Str.ofString "=C4") 989) :: (PySem.Value.str (PySem.Str.ofString "=C5") 993) :: (PySem.Value.str (PySem.Str.ofString "=C6") 997) :: (PySem.Value.str (PySem.Str.ofString "=C7") 1001) :: (PySem.Value.str (PySem.Str.ofString "=C8") 1005) :: (PySem.Value.str (PySem.Str.ofString "=C9") 1009) :: (PySem.Value.str (PySem.Str.ofString "=CA") 1013) :: (PySem.Value.str (PySem.Str.ofString "=CB") 1017) :: (PySem.Value.str (PySem.Str.ofString "=CC") 1021) :: (PySem.Value.str (PySem.Str.ofString "=CD") 1025) :: (PySem.Value.str (PySem.Str.ofString "=CE") 1029) :: (PySem.Value.str (PySem.Str.ofString "=CF") 1033) :: (PySem.Value.str (PySem.Str.ofString "=D0") 1037) :: (PySem.Value.str (PySem.Str.ofString "=D1") 1041) :: (PySem.Value.str (PySem.Str.ofString "=D2") 1045) :: (PySem.Value.str (PySem.Str.ofString "=D3") 1049) :: (PySem.Value.str (PySem.Str.ofString "=D4") 1053) :: (PySem.Value.str (PySem.Str.ofString "=D5") 1057) :: (PySem.Value.str (PySem.Str.ofString "=D6") 1061) :: (PySem.Value.str (PySem.Str.ofString "=D7") 1065) :: (PySem.Value.str (PySem.Str.ofString "=D8") 1069) :: (PySem.Value.str (PySem.Str.ofString "=D9") 1073) :: (PySem.Value.str (PySem.Str.ofString "=DA") 1077) :: (PySem.Value.str (PySem.Str.ofString "=DB") 1081) :: (PySem.Value.str (PySem.Str.ofString "=DC") 1085) :: (PySem.Value.str (PySem.Str.ofString "=DD") 1089) :: (PySem.Value.str (PySem.Str.ofString "=DE") 1093) :: (PySem.Value.str (PySem.Str.ofString "=DF") 1097) :: (PySem.Value.str (PySem.Str.ofString "=E0") 1101) :: (PySem.Value.str (PySem.Str.ofString "=E1") 1105) :: (PySem.Value.str (PySem.Str.ofString "=E2") 1109) :: (PySem.Value.str (PySem.Str.ofString "=E3") 1113) :: (PySem.Value.str (PySem.Str.ofString "=E4") 1117) :: (PySem.Value.str (PySem.Str.ofString "=E5") 1121) :: (PySem.Value.str (PySem.Str.ofString "=E6") 1125) :: (PySem.Value.str (PySem.Str.ofString "=E7") 1129) :: (PySem.Value.str (PySem.Str.ofString "=E8") 1133) :: (PySem.Value.str (PySem.Str.ofString "=E9") 1137) :: (PySem.Value.str (PySem.Str.ofString "=EA") 1141) :: (PySem.Value.str (PySem.Str.ofString "=EB") 1145) :: (PySem.Value.str (PySem.Str.ofString "=EC") 1149) :: (PySem.Value.str (PySem.Str.ofString "=ED") 1153) :: (PySem.Value.str (PySem.Str.ofString "=EE") 1157) :: (PySem.Value.str (PySem.Str.ofString "=EF") 1161) :: (PySem.Value.str (PySem.Str.ofString "=F0") 1165) :: (PySem.Value.str (PySem.Str.ofString "=F1") 1169) :: (PySem.Value.str (PySem.Str.ofString "=F2") 1173) :: (PySem.Value.str (PySem.Str.ofString "=F3") 1177) :: (PySem.Value.str (PySem.Str.ofString "=F4") 1181) :: (PySem.Value.str (PySem.Str.ofString "=F5") 1185) :: (PySem.Value.str (PySem.Str.ofString "=F6") 1189) :: (PySem.Value.str (PySem.Str.ofString "=F7") 1193) :: (PySem.Value.str (PySem.Str.ofString "=F8") 1197) :: (PySem.Value.str (PySem.Str.ofString "=F9") 1201) :: (PySem.Value.str (PySem.Str.ofString "=FA") 1205) :: (PySem.Value.str (PySem.Str.ofString "=FB") 1209) :: (PySem.Value.str (PySem.Str.ofString "=FC") 1213) :: (PySem.Value.str (PySem.Str.ofString "=FD") 1217) :: (PySem.Value.str (PySem.Str.ofString "=FE") 1221) :: (PySem.Value.str (PySem.Str.ofString "=FF") 1225) :: [])) 0) #[])
noncomputable abbrev hO63 (P : PySem.Params) : PySem.Obj := (PySem.Obj.mk (PySem.Value.type "bytes_iterator") none (PySem.Data.fields #[PySem.Value.none, (PySem.Value.int (@OfNat.ofNat.{0} @Int 67 (@instOfNat 67)) 0)]) #[])
noncomputable abbrev hO64 (P : PySem.Params) : PySem.Obj := (PySem.Obj.mk (PySem.Value.type "tuple") none (PySem.Data.seq #[] 0) #[])
noncomputable abbrev hO65 (P : PySem.Params) : PySem.Obj := (PySem.Obj.mk (PySem.Value.type "StopIteration") none (PySem.Data.fields #[(PySem.Value.ref 33), PySem.Value.none, PySem.Value.none, PySem.Value.none, (PySem.Value.bool Bool.false), PySem.Value.none]) #[])
noncomputable abbrev hT66 (P : PySem.Params) : PySem.W.BT := (PySem.W.BT.node (@PySem.W.boot_o_0 P) (PySem.W.BT.node (@PySem.W.boot_o_1 P) (PySem.W.BT.node (@Mine.hO61 P) (PySem.W.BT.node (@PySem.W.boot_o_7 P) (PySem.W.BT.node (@Mine.hO15 P) (PySem.W.BT.node (@Mine.hO58 P) PySem.W.BT.nil PySem.W.BT.nil) PySem.W.BT.nil) (PySem.W.BT.node (@Mine.hO47 P) PySem.W.BT.nil PySem.W.BT.nil)) (PySem.W.BT.node (@Mine.hO6 P) (PySem.W.BT.node (@Mine.hO19 P) PySem.W.BT.nil PySem.W.BT.nil) (PySem.W.BT.node (@Mine.hO51 P) PySem.W.BT.nil PySem.W.BT.nil))) (PySem.W.BT.node (@PySem.W.boot_o_5 P) (PySem.W.BT.node (@PySem.W.boot_o_9 P) (PySem.W.BT.node (@Mine.hO17 P) (PySem.W.BT.node (@Mine.hO64 P) PySem.W.BT.nil PySem.W.BT.nil) PySem.W.BT.nil) (PySem.W.BT.node (@Mine.hO49 P) PySem.W.BT.nil PySem.W.BT.nil)) (PySem.W.BT.node (@Mine.hO8 P) (PySem.W.BT.node (@Mine.hO21 P) PySem.W.BT.nil PySem.W.BT.nil) (PySem.W.BT.node (@Mine.hO62 P) PySem.W.BT.nil PySem.W.BT.nil)))) (PySem.W.BT.node (@PySem.W.boot_o_2 P) (PySem.W.BT.node (@PySem.W.boot_o_4 P) (PySem.W.BT.node (@PySem.W.boot_o_8 P) (PySem.W.BT.node (@Mine.hO16 P) (PySem.W.BT.node (@Mine.hO63 P) PySem.W.BT.nil PySem.W.BT.nil) PySem.W.BT.nil) (PySem.W.BT.node (@Mine.hO48 P) PySem.W.BT.nil PySem.W.BT.nil)) (PySem.W.BT.node (@Mine.hO14 P) (PySem.W.BT.node (@Mine.hO20 P) PySem.W.BT.nil PySem.W.BT.nil) (PySem.W.BT.node (@Mine.hO55 P) PySem.W.BT.nil PySem.W.BT.nil))) (PySem.W.BT.node (@PySem.W.boot_o_6 P) (PySem.W.BT.node (@PySem.W.boot_o_10 P) (PySem.W.BT.node (@Mine.hO18 P) (PySem.W.BT.node (@Mine.hO65 P) PySem.W.BT.nil PySem.W.BT.nil) PySem.W.BT.nil) (PySem.W.BT.node (@Mine.hO50 P) PySem.W.BT.nil PySem.W.BT.nil)) (PySem.W.BT.node (@Mine.hO9 P) (PySem.W.BT.node (@Mine.hO46 P) PySem.W.BT.nil PySem.W.BT.nil) (PySem.W.BT.node (@Mine.hO57 P) PySem.W.BT.nil PySem.W.BT.nil)))))
theorem hRun3_0q (w : PySem.World) : (@Eq.{1} (∀ (x0 : @PySem.OsState), (@Option.{0} (@Prod.{0, 0} @PySem.Flow (@Prod.{0, 0} @PySem.W.SharedT (@Prod.{0, 0} @PySem.Code @PySem.Pos))))) (fun (x0 : @PySem.OsState) => (@PySem.W.Fast.tw10110043849684766642 @PySem.W.Fast.tw14364793385576792824 @Mine.hProg (@PySem.World.withFollow w "special-get-raises" Bool.false) 11 (some (PySem.Value.ref 6)) 1 3096 (PySem.W.SharedT.mk (@Mine.hT59 (@PySem.World.params (@PySem.World.withFollow w "special-get-raises" Bool.false))) 32 (PySem.Life.mk [] [] [] 0 [] [] Bool.false #[] [] 0 Bool.false Bool.false Bool.false (@OfNat.ofNat.{0} @Int 0 (@instOfNat 0)) [(@OfNat.ofNat.{0} @Int 2000 (@instOfNat 2000)), (@OfNat.ofNat.{0} @Int 10 (@instOfNat 10)), (@OfNat.ofNat.{0} @Int 10 (@instOfNat 10))] Bool.false 0 Bool.true [] [] 0 Bool.false) (Array.mk []) (PySem.Drawn.mk 0 0 0 0) 1244 x0) (@PySem.W.piecesOf @Mine.hSts3 @Mine.hEnv (PySem.Code.body (@PySem.W.behindTheImports @Mine.hProg) @Mine.hEnv) (PySem.Pos.mk 16 0 16 8) [(@PySem.W.topFrame (PySem.Pos.mk 0 0 0 0))]))) (fun (x0 : @PySem.OsState) => (some (PySem.Flow.next, ((PySem.W.SharedT.mk (@Mine.hT66 (@PySem.World.params (@PySem.World.withFollow w "special-get-raises" Bool.false))) 35 (PySem.Life.mk [] [] [] 0 [] [] Bool.false #[] [] 0 Bool.false Bool.false Bool.false (@OfNat.ofNat.{0} @Int 0 (@instOfNat 0)) [(@OfNat.ofNat.{0} @Int 2000 (@instOfNat 2000)), (@OfNat.ofNat.{0} @Int 10 (@instOfNat 10)), (@OfNat.ofNat.{0} @Int 10 (@instOfNat 10))] Bool.false 0 Bool.true [] [] 0 Bool.false) (Array.mk []) (PySem.Drawn.mk 0 0 0 0) 1452 x0), ((PySem.Code.body (@PySem.W.behindTheImports @Mine.hProg) @Mine.hEnv), (PySem.Pos.mk 17 9 17 74))))))) := by kernel_rfl
theorem hRun3_0 (w : PySem.World) : (@Eq.{1} (∀ (x0 : @PySem.OsState), (@Option.{0} (@Prod.{0, 0} @PySem.Flow (@Prod.{0, 0} @PySem.W.SharedT (@Prod.{0, 0} @PySem.Code @PySem.Pos))))) (fun (x0 : @PySem.OsState) => (@PySem.W.segRunT @PySem.treeTable @Mine.hProg (@PySem.World.withFollow w "special-get-raises" Bool.false) 11 (some (PySem.Value.ref 6)) 1 3096 (PySem.W.SharedT.mk (@Mine.hT59 (@PySem.World.params (@PySem.World.withFollow w "special-get-raises" Bool.false))) 32 (PySem.Life.mk [] [] [] 0 [] [] Bool.false #[] [] 0 Bool.false Bool.false Bool.false (@OfNat.ofNat.{0} @Int 0 (@instOfNat 0)) [(@OfNat.ofNat.{0} @Int 2000 (@instOfNat 2000)), (@OfNat.ofNat.{0} @Int 10 (@instOfNat 10)), (@OfNat.ofNat.{0} @Int 10 (@instOfNat 10))] Bool.false 0 Bool.true [] [] 0 Bool.false) (Array.mk []) (PySem.Drawn.mk 0 0 0 0) 1244 x0) (@PySem.W.piecesOf @Mine.hSts3 @Mine.hEnv (PySem.Code.body (@PySem.W.behindTheImports @Mine.hProg) @Mine.hEnv) (PySem.Pos.mk 16 0 16 8) [(@PySem.W.topFrame (PySem.Pos.mk 0 0 0 0))]))) (fun (x0 : @PySem.OsState) => (some (PySem.Flow.next, ((PySem.W.SharedT.mk (@Mine.hT66 (@PySem.World.params (@PySem.World.withFollow w "special-get-raises" Bool.false))) 35 (PySem.Life.mk [] [] [] 0 [] [] Bool.false #[] [] 0 Bool.false Bool.false Bool.false (@OfNat.ofNat.{0} @Int 0 (@instOfNat 0)) [(@OfNat.ofNat.{0} @Int 2000 (@instOfNat 2000)), (@OfNat.ofNat.{0} @Int 10 (@instOfNat 10)), (@OfNat.ofNat.{0} @Int 10 (@instOfNat 10))] Bool.false 0 Bool.true [] [] 0 Bool.false) (Array.mk []) (PySem.Drawn.mk 0 0 0 0) 1452 x0), ((PySem.Code.body (@PySem.W.behindTheImports @Mine.hProg) @Mine.hEnv), (PySem.Pos.mk 17 9 17 74))))))) := by
  rw [PySem.W.Fast.te10110043849684766642, PySem.W.Fast.te14364793385576792824]
  exact hRun3_0q w
theorem hRun3_1q (w : PySem.World) : (@Eq.{1} (∀ (x0 : @PySem.OsState), (@Option.{0} (@Prod.{0, 0} @PySem.Flow (@Prod.{0, 0} @PySem.W.SharedT (@Prod.{0, 0} @PySem.Code @PySem.Pos))))) (fun (x0 : @PySem.OsState) => (@PySem.W.Fast.tw10110043849684766642 @PySem.W.Fast.tw14364793385576792824 @Mine.hProg (@PySem.World.withFollow w "special-get-raises" Bool.true) 11 (some (PySem.Value.ref 6)) 1 3096 (PySem.W.SharedT.mk (@Mine.hT59 (@PySem.World.params (@PySem.World.withFollow w "special-get-raises" Bool.true))) 32 (PySem.Life.mk [] [] [] 0 [] [] Bool.false #[] [] 0 Bool.false Bool.false Bool.false (@OfNat.ofNat.{0} @Int 0 (@instOfNat 0)) [(@OfNat.ofNat.{0} @Int 2000 (@instOfNat 2000)), (@OfNat.ofNat.{0} @Int 10 (@instOfNat 10)), (@OfNat.ofNat.{0} @Int 10 (@instOfNat 10))] Bool.false 0 Bool.true [] [] 0 Bool.false) (Array.mk []) (PySem.Drawn.mk 0 0 0 0) 1244 x0) (@PySem.W.piecesOf @Mine.hSts3 @Mine.hEnv (PySem.Code.body (@PySem.W.behindTheImports @Mine.hProg) @Mine.hEnv) (PySem.Pos.mk 16 0 16 8) [(@PySem.W.topFrame (PySem.Pos.mk 0 0 0 0))]))) (fun (x0 : @PySem.OsState) => (some (PySem.Flow.next, ((PySem.W.SharedT.mk (@Mine.hT66 (@PySem.World.params (@PySem.World.withFollow w "special-get-raises" Bool.true))) 35 (PySem.Life.mk [] [] [] 0 [] [] Bool.false #[] [] 0 Bool.false Bool.false Bool.false (@OfNat.ofNat.{0} @Int 0 (@instOfNat 0)) [(@OfNat.ofNat.{0} @Int 2000 (@instOfNat 2000)), (@OfNat.ofNat.{0} @Int 10 (@instOfNat 10)), (@OfNat.ofNat.{0} @Int 10 (@instOfNat 10))] Bool.false 0 Bool.true [] [] 0 Bool.false) (Array.mk []) (PySem.Drawn.mk 0 0 0 0) 1452 x0), ((PySem.Code.body (@PySem.W.behindTheImports @Mine.hProg) @Mine.hEnv), (PySem.Pos.mk 17 9 17 74))))))) := by kernel_rfl
theorem hRun3_1 (w : PySem.World) : (@Eq.{1} (∀ (x0 : @PySem.OsState), (@Option.{0} (@Prod.{0, 0} @PySem.Flow (@Prod.{0, 0} @PySem.W.SharedT (@Prod.{0, 0} @PySem.Code @PySem.Pos))))) (fun (x0 : @PySem.OsState) => (@PySem.W.segRunT @PySem.treeTable @Mine.hProg (@PySem.World.withFollow w "special-get-raises" Bool.true) 11 (some (PySem.Value.ref 6)) 1 3096 (PySem.W.SharedT.mk (@Mine.hT59 (@PySem.World.params (@PySem.World.withFollow w "special-get-raises" Bool.true))) 32 (PySem.Life.mk [] [] [] 0 [] [] Bool.false #[] [] 0 Bool.false Bool.false Bool.false (@OfNat.ofNat.{0} @Int 0 (@instOfNat 0)) [(@OfNat.ofNat.{0} @Int 2000 (@instOfNat 2000)), (@OfNat.ofNat.{0} @Int 10 (@instOfNat 10)), (@OfNat.ofNat.{0} @Int 10 (@instOfNat 10))] Bool.false 0 Bool.true [] [] 0 Bool.false) (Array.mk []) (PySem.Drawn.mk 0 0 0 0) 1244 x0) (@PySem.W.piecesOf @Mine.hSts3 @Mine.hEnv (PySem.Code.body (@PySem.W.behindTheImports @Mine.hProg) @Mine.hEnv) (PySem.Pos.mk 16 0 16 8) [(@PySem.W.topFrame (PySem.Pos.mk 0 0 0 0))]))) (fun (x0 : @PySem.OsState) => (some (PySem.Flow.next, ((PySem.W.SharedT.mk (@Mine.hT66 (@PySem.World.params (@PySem.World.withFollow w "special-get-raises" Bool.true))) 35 (PySem.Life.mk [] [] [] 0 [] [] Bool.false #[] [] 0 Bool.false Bool.false Bool.false (@OfNat.ofNat.{0} @Int 0 (@instOfNat 0)) [(@OfNat.ofNat.{0} @Int 2000 (@instOfNat 2000)), (@OfNat.ofNat.{0} @Int 10 (@instOfNat 10)), (@OfNat.ofNat.{0} @Int 10 (@instOfNat 10))] Bool.false 0 Bool.true [] [] 0 Bool.false) (Array.mk []) (PySem.Drawn.mk 0 0 0 0) 1452 x0), ((PySem.Code.body (@PySem.W.behindTheImports @Mine.hProg) @Mine.hEnv), (PySem.Pos.mk 17 9 17 74))))))) := by
  rw [PySem.W.Fast.te10110043849684766642, PySem.W.Fast.te14364793385576792824]
  exact hRun3_1q w
theorem hRun3 (w : PySem.World) : (@Eq.{1} (∀ (x0 : @PySem.OsState), (@Option.{0} (@Prod.{0, 0} @PySem.Flow (@Prod.{0, 0} @PySem.W.SharedT (@Prod.{0, 0} @PySem.Code @PySem.Pos))))) (fun (x0 : @PySem.OsState) => (@PySem.W.segRunT @PySem.treeTable @Mine.hProg w 11 (some (PySem.Value.ref 6)) 1 3096 (PySem.W.SharedT.mk (@Mine.hT59 (@PySem.World.params w)) 32 (PySem.Life.mk [] [] [] 0 [] [] Bool.false #[] [] 0 Bool.false Bool.false Bool.false (@OfNat.ofNat.{0} @Int 0 (@instOfNat 0)) [(@OfNat.ofNat.{0} @Int 2000 (@instOfNat 2000)), (@OfNat.ofNat.{0} @Int 10 (@instOfNat 10)), (@OfNat.ofNat.{0} @Int 10 (@instOfNat 10))] Bool.false 0 Bool.true [] [] 0 Bool.false) (Array.mk []) (PySem.Drawn.mk 0 0 0 0) 1244 x0) (@PySem.W.piecesOf @Mine.hSts3 @Mine.hEnv (PySem.Code.body (@PySem.W.behindTheImports @Mine.hProg) @Mine.hEnv) (PySem.Pos.mk 16 0 16 8) [(@PySem.W.topFrame (PySem.Pos.mk 0 0 0 0))]))) (fun (x0 : @PySem.OsState) => (some (PySem.Flow.next, ((PySem.W.SharedT.mk (@Mine.hT66 (@PySem.World.params w)) 35 (PySem.Life.mk [] [] [] 0 [] [] Bool.false #[] [] 0 Bool.false Bool.false Bool.false (@OfNat.ofNat.{0} @Int 0 (@instOfNat 0)) [(@OfNat.ofNat.{0} @Int 2000 (@instOfNat 2000)), (@OfNat.ofNat.{0} @Int 10 (@instOfNat 10)), (@OfNat.ofNat.{0} @Int 10 (@instOfNat 10))] Bool.false 0 Bool.true [] [] 0 Bool.false) (Array.mk []) (PySem.Drawn.mk 0 0 0 0) 1452 x0), ((PySem.Code.body (@PySem.W.behindTheImports @Mine.hProg) @Mine.hEnv), (PySem.Pos.mk 17 9 17 74))))))) :=
  PySem.W.byRow2 "special-get-raises" (P := fun w => (@Eq.{1} (∀ (x0 : @PySem.OsState), (@Option.{0} (@Prod.{0, 0} @PySem.Flow (@Prod.{0, 0} @PySem.W.SharedT (@Prod.{0, 0} @PySem.Code @PySem.Pos))))) (fun (x0 : @PySem.OsState) => (@PySem.W.segRunT @PySem.treeTable @Mine.hProg w 11 (some (PySem.Value.ref 6)) 1 3096 (PySem.W.SharedT.mk (@Mine.hT59 (@PySem.World.params w)) 32 (PySem.Life.mk [] [] [] 0 [] [] Bool.false #[] [] 0 Bool.false Bool.false Bool.false (@OfNat.ofNat.{0} @Int 0 (@instOfNat 0)) [(@OfNat.ofNat.{0} @Int 2000 (@instOfNat 2000)), (@OfNat.ofNat.{0} @Int 10 (@instOfNat 10)), (@OfNat.ofNat.{0} @Int 10 (@instOfNat 10))] Bool.false 0 Bool.true [] [] 0 Bool.false) (Array.mk []) (PySem.Drawn.mk 0 0 0 0) 1244 x0) (@PySem.W.piecesOf @Mine.hSts3 @Mine.hEnv (PySem.Code.body (@PySem.W.behindTheImports @Mine.hProg) @Mine.hEnv) (PySem.Pos.mk 16 0 16 8) [(@PySem.W.topFrame (PySem.Pos.mk 0 0 0 0))]))) (fun (x0 : @PySem.OsState) => (some (PySem.Flow.next, ((PySem.W.SharedT.mk (@Mine.hT66 (@PySem.World.params w)) 35 (PySem.Life.mk [] [] [] 0 [] [] Bool.false #[] [] 0 Bool.false Bool.false Bool.false (@OfNat.ofNat.{0} @Int 0 (@instOfNat 0)) [(@OfNat.ofNat.{0} @Int 2000 (@instOfNat 2000)), (@OfNat.ofNat.{0} @Int 10 (@instOfNat 10)), (@OfNat.ofNat.{0} @Int 10 (@instOfNat 10))] Bool.false 0 Bool.true [] [] 0 Bool.false) (Array.mk []) (PySem.Drawn.mk 0 0 0 0) 1452 x0), ((PySem.Code.body (@PySem.W.behindTheImports @Mine.hProg) @Mine.hEnv), (PySem.Pos.mk 17 9 17 74)))))))) hRun3_0 hRun3_1 w
noncomputable abbrev hSts4 : List PySem.Stmt := (@List.take.{0} @PySem.Stmt 1 (@List.drop.{0} @PySem.Stmt 13 (@PySem.W.behindTheImports @Mine.hProg)))
noncomputable abbrev hO68 (P : PySem.Params) : PySem.Obj := (PySem.Obj.mk (PySem.Value.type "list") none (PySem.Data.seq (List.toArray ((PySem.Value.str (PySem.Str.ofString "=00") 205) :: (PySem.Value.str (PySem.Str.ofString "=01") 209) :: (PySem.Value.str (PySem.Str.ofString "=02") 213) :: (PySem.Value.str (PySem.Str.ofString "=03") 217) :: (PySem.Value.str (PySem.Str.ofString "=04") 221) :: (PySem.Value.str (PySem.Str.ofString "=05") 225) :: (PySem.Value.str (PySem.Str.ofString "=06") 229) :: (PySem.Value.str (PySem.Str.ofString "=07") 233) :: (PySem.Value.str (PySem.Str.ofString "=08") 237) :: (PySem.Value.str (PySem.Str.ofString "=09") 241) :: (PySem.Value.str (PySem.Str.ofString "=0A") 245) :: (PySem.Value.str (PySem.Str.ofString "=0B") 249) :: (PySem.Value.str (PySem.Str.ofString "=0C") 253) :: (PySem.Value.str (PySem.Str.ofString "=0D") 257) :: (PySem.Value.str (PySem.Str.ofString "=0E") 261) :: (PySem.Value.str (PySem.Str.ofString "=0F") 265) :: (PySem.Value.str (PySem.Str.ofString "=10") 269) :: (PySem.Value.str (PySem.Str.ofString "=11") 273) :: (PySem.Value.str (PySem.Str.ofString "=12") 277) :: (PySem.Value.str (PySem.Str.ofString "=13") 281) :: (PySem.Value.str (PySem.Str.ofString "=14") 285) :: (PySem.Value.str (PySem.Str.ofString "=15") 289) :: (PySem.Value.str (PySem.Str.ofString "=16") 293) :: (PySem.Value.str (PySem.Str.ofString "=17") 297) :: (PySem.Value.str (PySem.Str.ofString "=18") 301) :: (PySem.Value.str (PySem.Str.ofString "=19") 305) :: (PySem.Value.str (PySem.Str.ofString "=1A") 309) :: (PySem.Value.str (PySem.Str.ofString "=1B") 313) :: (PySem.Value.str (PySem.Str.ofString "=1C") 317) :: (PySem.Value.str (PySem.Str.ofString "=1D") 321) :: (PySem.Value.str (PySem.Str.ofString "=1E") 325) :: (PySem.Value.str (PySem.Str.ofString "=1F") 329) :: (PySem.Value.str (PySem.Str.ofString "_") 1452) :: (PySem.Value.str (PySem.Str.ofString "!") 1256) :: (PySem.Value.str (PySem.Str.ofString "=22") 341) :: (PySem.Value.str (PySem.Str.ofString "=23") 345) :: (PySem.Value.str (PySem.Str.ofString "=24") 349) :: (PySem.Value.str (PySem.Str.ofString "=25") 353) :: (PySem.Value.str (PySem.Str.ofString "=26") 357) :: (PySem.Value.str (PySem.Str.ofString "=27") 361) :: (PySem.Value.str (PySem.Str.ofString "=28") 365) :: (PySem.Value.str (PySem.Str.ofString "=29") 369) :: (PySem.Value.str (PySem.Str.ofString "*") 1259) :: (PySem.Value.str (PySem.Str.ofString "+") 1262) :: (PySem.Value.str (PySem.Str.ofString "=2C") 381) :: (PySem.Value.str (PySem.Str.ofString "-") 1253) :: (PySem.Value.str (PySem.Str.ofString "=2E") 389) :: (PySem.Value.str (PySem.Str.ofString "/") 1265) :: (PySem.Value.str (PySem.Str.ofString "0") 1424) :: (PySem.Value.str (PySem.Str.ofString "1") 1427) :: (PySem.Value.str (PySem.Str.ofString "2") 1430) :: (PySem.Value.str (PySem.Str.ofString "3") 1433) :: (PySem.Value.str (PySem.Str.ofString "4") 1436) :: (PySem.Value.str (PySem.Str.ofString "5") 1439) :: (PySem.Value.str (PySem.Str.ofString "6") 1442) :: (PySem.Value.str (PySem.Str.ofString "7") 1445) :: (PySem.Value.str (PySem.Str.ofString "8") 1448) :: (PySem.Value.str (PySem.Str.ofString "9") 1451) :: (PySem.Value.str (PySem.Str.ofString "=3A") 437) :: (PySem.Value.str (PySem.Str.ofString "=3B") 441) :: (PySem.Value.str (PySem.Str.ofString "=3C") 445) :: (PySem.Value.str (PySem.Str.ofString "=3D") 449) :: (PySem.Value.str (PySem.Str.ofString "=3E") 453) :: (PySem.Value.str (PySem.Str.ofString "=3F") 457) :: (PySem.Value.str (PySem.Str.ofString "=40") 461) :: (PySem.Value.str (PySem.Str.ofString "A") 1346) :: (PySem.Value.str (PySem.Str.ofString "B") 1349) :: (PySem.Value.str (PySem.Str.ofString "C") 1352) :: (PySem.Value.str (PySem.Str.ofString "D") 1355) :: (PySem.Value.str (PySem.Str.ofString "E") 1358) :: (PySem.Value.str (PySem.Str.ofString "F") 1361) :: (PySem.Value.str (PySem.Str.ofString "G") 1364) :: (PySem.Value.str (PySem.Str.ofString "H") 1367) :: (PySem.Value.str (PySem.Str.ofString "I") 1370) :: (PySem.Value.str (PySem.Str.ofString "J") 1373) :: (PySem.Value.str (PySem.Str.ofString "K") 1376) :: (PySem.Value.str (PySem.Str.ofString "L") 1379) :: (PySem.Value.str (PySem.Str.ofString "M") 1382) :: (PySem.Value.str (PySem.Str.ofString "N") 1385) :: (PySem.Value.str (PySem.Str.ofString "O") 1388) :: (PySem.Value.str (PySem.Str.ofString "P") 1391) :: (PySem.Value.str (PySem.Str.ofString "Q") 1394) :: (PySem.Value.str (PySem.Str.ofString "R") 1397) :: (PySem.Value.str (PySem.Str.ofString "S") 1400) :: (PySem.Value.str (PySem.Str.ofString "T") 1403) :: (PySem.Value.str (PySem.Str.ofString "U") 1406) :: (PySem.Value.str (PySem.Str.ofString "V") 1409) :: (PySem.Value.str (PySem.Str.ofString "W") 1412) :: (PySem.Value.str (PySem.Str.ofString "X") 1415) :: (PySem.Value.str (PySem.Str.ofString "Y") 1418) :: (PySem.Value.str (PySem.Str.ofString "Z") 1421) :: (PySem.Value.str (PySem.Str.ofString "=5B") 569) :: (PySem.Value.str (PySem.Str.ofString "=5C") 573) :: (PySem.Value.str (PySem.Str.ofString "=5D") 577) :: (PySem.Value.str (PySem.Str.ofString "=5E") 581) :: (PySem.Value.str (PySem.Str.ofString "=5F") 585) :: (PySem.Value.str (PySem.Str.ofString "=60") 589) :: (PySem.Value.str (PySem.Str.ofString "a") 1268) :: (PySem.Value.str (PySem.Str.ofString "b") 1271) :: (PySem.Value.str (PySem.Str.ofString "c") 1274) :: (PySem.Value.str (PySem.Str.ofString "d") 1277) :: (PySem.Value.str (PySem.Str.ofString "e") 1280) :: (PySem.Value.str (PySem.Str.ofString "f") 1283) :: (PySem.Value.str (PySem.Str.ofString "g") 1286) :: (PySem.Value.str (PySem.Str.ofString "h") 1289) :: (PySem.Value.str (PySem.Str.ofString "i") 1292) :: (PySem.Value.str (PySem.Str.ofString "j") 1295) :: (PySem.Value.str (PySem.Str.ofString "k") 1298) :: (PySem.Value.str (PySem.Str.ofString "l") 1301) :: (PySem.Value.str (PySem.Str.ofString "m") 1304) :: (PySem.Value.str (PySem.Str.ofString "n") 1307) :: (PySem.Value.str (PySem.Str.ofString "o") 1310) :: (PySem.Value.str (PySem.Str.ofString "p") 1313) :: (PySem.Value.str (PySem.Str.ofString "q") 1316) :: (PySem.Value.str (PySem.Str.ofString "r") 1319) :: (PySem.Value.str (PySem.Str.ofString "s") 1322) :: (PySem.Value.str (PySem.Str.ofString "t") 1325) :: (PySem.Value.str (PySem.Str.ofString "u") 1328) :: (PySem.Value.str (PySem.Str.ofString "v") 1331) :: (PySem.Value.str (PySem.Str.ofString "w") 1334) :: (PySem.Value.str (PySem.Str.ofString "x") 1337) :: (PySem.Value.str (PySem.Str.ofString "y") 1340) :: (PySem.Value.str (PySem.Str.ofString "z") 1343) :: (PySem.Value.str (PySem.Str.ofString "=7B") 697) :: (PySem.Value.str (PySem.Str.ofString "=7C") 701) :: (PySem.Value.str (PySem.Str.ofString "=7D") 705) :: (PySem.Value.str (PySem.Str.ofString "=7E") 709) :: (PySem.Value.str (PySem.Str.ofString "=7F") 713) :: (PySem.Value.str (PySem.Str.ofString "=80") 717) :: (PySem.Value.str (PySem.Str.ofString "=81") 721) :: (PySem.Value.str (PySem.Str.ofString "=82") 725) :: (PySem.Value.str (PySem.Str.ofString "=83") 729) :: (PySem.Value.str (PySem.Str.ofString "=84") 733) :: (PySem.Value.str (PySem.Str.ofString "=85") 737) :: (PySem.Value.str (PySem.Str.ofString "=86") 741) :: (PySem.Value.str (PySem.Str.ofString "=87") 745) :: (PySem.Value.str (PySem.Str.ofString "=88") 749) :: (PySem.Value.str (PySem.Str.ofString "=89") 753) :: (PySem.Value.str (PySem.Str.ofString "=8A") 757) :: (PySem.Value.str (PySem.Str.ofString "=8B") 761) :: (PySem.Value.str (PySem.Str.ofString "=8C") 765) :: (PySem.Value.str (PySem.Str.ofString "=8D") 769) :: (PySem.Value.str (PySem.Str.ofString "=8E") 773) :: (PySem.Value.str (PySem.Str.ofString "=8F") 777) :: (PySem.Value.str (PySem.Str.ofString "=90") 781) :: (PySem.Value.str (PySem.Str.ofString "=91") 785) :: (PySem.Value.str (PySem.Str.ofString "=92") 789) :: (PySem.Value.str (PySem.Str.ofString "=93") 793) :: (PySem.Value.str (PySem.Str.ofString "=94") 797) :: (PySem.Value.str (PySem.Str.ofString "=95") 801) :: (PySem.Value.str (PySem.Str.ofString "=96") 805) :: (PySem.Value.str (PySem.Str.ofString "=97") 809) :: (PySem.Value.str (PySem.Str.ofString "=98") 813) :: (PySem.Value.str (PySem.Str.ofString "=99") 817) :: (PySem.Value.str (PySem.Str.ofString "=9A") 821) :: (PySem.Value.str (PySem.Str.ofString "=9B") 825) :: (PySem.Value.str (PySem.Str.ofString "=9C") 829) :: (PySem.Value.str (PySem.Str.ofString "=9D") 833) :: (PySem.Value.str (PySem.Str.ofString "=9E") 837) :: (PySem.Value.str (PySem.Str.ofString "=9F") 841) :: (PySem.Value.str (PySem.Str.ofString "=A0") 845) :: (PySem.Value.str (PySem.Str.ofString "=A1") 849) :: (PySem.Value.str (PySem.Str.ofString "=A2") 853) :: (PySem.Value.str (PySem.Str.ofString "=A3") 857) :: (PySem.Value.str (PySem.Str.ofString "=A4") 861) :: (PySem.Value.str (PySem.Str.ofString "=A5") 865) :: (PySem.Value.str (PySem.Str.ofString "=A6") 869) :: (PySem.Value.str (PySem.Str.ofString "=A7") 873) :: (PySem.Value.str (PySem.Str.ofString "=A8") 877) :: (PySem.Value.str (PySem.Str.ofString "=A9") 881) :: (PySem.Value.str (PySem.Str.ofString "=AA") 885) :: (PySem.Value.str (PySem.Str.ofString "=AB") 889) :: (PySem.Value.str (PySem.Str.ofString "=AC") 893) :: (PySem.Value.str (PySem.Str.ofString "=AD") 897) :: (PySem.Value.str (PySem.Str.ofString "=AE") 901) :: (PySem.Value.str (PySem.Str.ofString "=AF") 905) :: (PySem.Value.str (PySem.Str.ofString "=B0") 909) :: (PySem.Value.str (PySem.Str.ofString "=B1") 913) :: (PySem.Value.str (PySem.Str.ofString "=B2") 917) :: (PySem.Value.str (PySem.Str.ofString "=B3") 921) :: (PySem.Value.str (PySem.Str.ofString "=B4") 925) :: (PySem.Value.str (PySem.Str.ofString "=B5") 929) :: (PySem.Value.str (PySem.Str.ofString "=B6") 933) :: (PySem.Value.str (PySem.Str.ofString "=B7") 937) :: (PySem.Value.str (PySem.Str.ofString "=B8") 941) :: (PySem.Value.str (PySem.Str.ofString "=B9") 945) :: (PySem.Value.str (PySem.Str.ofString "=BA") 949) :: (PySem.Value.str (PySem.Str.ofString "=BB") 953) :: (PySem.Value.str (PySem.Str.ofString "=BC") 957) :: (PySem.Value.str (PySem.Str.ofString "=BD") 961) :: (PySem.Value.str (PySem.Str.ofString "=BE") 965) :: (PySem.Value.str (PySem.Str.ofString "=BF") 969) :: (PySem.Value.str (PySem.Str.ofString "=C0") 973) :: (PySem.Value.str (PySem.Str.ofString "=C1") 977) :: (PySem.Value.str (PySem.Str.ofString "=C2") 981) :: (PySem.Value.str (PySem.Str.ofString "=C3") 985) :: (PySem.Value.str (PySem.Str.ofString "=C4") 989) :: (PySem.Value.str (PySem.Str.ofString "=C5") 993) :: (PySem.Value.str (PySem.Str.ofString "=C6") 997) :: (PySem.Value.str (PySem.Str.ofString "=C7") 1001) :: (PySem.Value.str (PySem.Str.ofString "=C8") 1005) :: (PySem.Value.str (PySem.Str.ofString "=C9") 1009) :: (PySem.Value.str (PySem.Str.ofString "=CA") 1013) :: (PySem.Value.str (PySem.Str.ofString "=CB") 1017) :: (PySem.Value.str (PySem.Str.ofString "=CC") 1021) :: (PySem.Value.str (PySem.Str.ofString "=CD") 1025) :: (PySem.Value.str (PySem.Str.ofString "=CE") 1029) :: (PySem.Value.str (PySem.Str.ofString "=CF") 1033) :: (PySem.Value.str (PySem.Str.ofString "=D0") 1037) :: (PySem.Value.str (PySem.Str.ofString "=D1") 1041) :: (PySem.Value.str (PySem.Str.ofString "=D2") 1045) :: (PySem.Value.str (PySem.Str.ofString "=D3") 1049) :: (PySem.Value.str (PySem.Str.ofString "=D4") 1053) :: (PySem.Value.str (PySem.Str.ofString "=D5") 1057) :: (PySem.Value.str (PySem.Str.ofString "=D6") 1061) :: (PySem.Value.str (PySem.Str.ofString "=D7") 1065) :: (PySem.Value.str (PySem.Str.ofString "=D8") 1069) :: (PySem.Value.str (PySem.Str.ofString "=D9") 1073) :: (PySem.Value.str (PySem.Str.ofString "=DA") 1077) :: (PySem.Value.str (PySem.Str.ofString "=DB") 1081) :: (PySem.Value.str (PySem.Str.ofString "=DC") 1085) :: (PySem.Value.str (PySem.Str.ofString "=DD") 1089) :: (PySem.Value.str (PySem.Str.ofString "=DE") 1093) :: (PySem.Value.str (PySem.Str.ofString "=DF") 1097) :: (PySem.Value.str (PySem.Str.ofString "=E0") 1101) :: (PySem.Value.str (PySem.Str.ofString "=E1") 1105) :: (PySem.Value.str (PySem.Str.ofString "=E2") 1109) :: (PySem.Value.str (PySem.Str.ofString "=E3") 1113) :: (PySem.Value.str (PySem.Str.ofString "=E4") 1117) :: (PySem.Value.str (PySem.Str.ofString "=E5") 1121) :: (PySem.Value.str (PySem.Str.ofString "=E6") 1125) :: (PySem.Value.str (PySem.Str.ofString "=E7") 1129) :: (PySem.Value.str (PySem.Str.ofString "=E8") 1133) :: (PySem.Value.str (PySem.Str.ofString "=E9") 1137) :: (PySem.Value.str (PySem.Str.ofString "=EA") 1141) :: (PySem.Value.str (PySem.Str.ofString "=EB") 1145) :: (PySem.Value.str (PySem.Str.ofString "=EC") 1149) :: (PySem.Value.str (PySem.Str.ofString "=ED") 1153) :: (PySem.Value.str (PySem.Str.ofString "=EE") 1157) :: (PySem.Value.str (PySem.Str.ofString "=EF") 1161) :: (PySem.Value.str (PySem.Str.ofString "=F0") 1165) :: (PySem.Value.str (PySem.Str.ofString "=F1") 1169) :: (PySem.Value.str (PySem.Str.ofString "=F2") 1173) :: (PySem.Value.str (PySem.Str.ofString "=F3") 1177) :: (PySem.Value.str (PySem.Str.ofString "=F4") 1181) :: (PySem.Value.str (PySem.Str.ofString "=F5") 1185) :: (PySem.Value.str (PySem.Str.ofString "=F6") 1189) :: (PySem.Value.str (PySem.Str.ofString "=F7") 1193) :: (PySem.Value.str (PySem.Str.ofString "=F8") 1197) :: (PySem.Value.str (PySem.Str.ofString "=F9") 1201) :: (PySem.Value.str (PySem.Str.ofString "=FA") 1205) :: (PySem.Value.str (PySem.Str.ofString "=FB") 1209) :: (PySem.Value.str (PySem.Str.ofString "=FC") 1213) :: (PySem.Value.str (PySem.Str.ofString "=FD") 1217) :: (PySem.Value.str (PySem.Str.ofString "=FE") 1221) :: (PySem.Value.str (PySem.Str.ofString "=FF") 1225) :: [])) 0) #[])
noncomputable abbrev hT69 (P : PySem.Params) : PySem.W.BT := (PySem.W.BT.node (@PySem.W.boot_o_0 P) (PySem.W.BT.node (@PySem.W.boot_o_1 P) (PySem.W.BT.node (@Mine.hO61 P) (PySem.W.BT.node (@PySem.W.boot_o_7 P) (PySem.W.BT.node (@Mine.hO15 P) (PySem.W.BT.node (@Mine.hO58 P) PySem.W.BT.nil PySem.W.BT.nil) PySem.W.BT.nil) (PySem.W.BT.node (@Mine.hO47 P) PySem.W.BT.nil PySem.W.BT.nil)) (PySem.W.BT.node (@Mine.hO6 P) (PySem.W.BT.node (@Mine.hO19 P) PySem.W.BT.nil PySem.W.BT.nil) (PySem.W.BT.node (@Mine.hO51 P) PySem.W.BT.nil PySem.W.BT.nil))) (PySem.W.BT.node (@PySem.W.boot_o_5 P) (PySem.W.BT.node (@PySem.W.boot_o_9 P) (PySem.W.BT.node (@Mine.hO17 P) (PySem.W.BT.node (@Mine.hO64 P) PySem.W.BT.nil PySem.W.BT.nil) PySem.W.BT.nil) (PySem.W.BT.node (@Mine.hO49 P) PySem.W.BT.nil PySem.W.BT.nil)) (PySem.W.BT.node (@Mine.hO8 P) (PySem.W.BT.node (@Mine.hO21 P) PySem.W.BT.nil PySem.W.BT.nil) (PySem.W.BT.node (@Mine.hO68 P) PySem.W.BT.nil PySem.W.BT.nil)))) (PySem.W.BT.node (@PySem.W.boot_o_2 P) (PySem.W.BT.node (@PySem.W.boot_o_4 P) (PySem.W.BT.node (@PySem.W.boot_o_8 P) (PySem.W.BT.node (@Mine.hO16 P) (PySem.W.BT.node (@Mine.hO63 P) PySem.W.BT.nil PySem.W.BT.nil) PySem.W.BT.nil) (PySem.W.BT.node (@Mine.hO48 P) PySem.W.BT.nil PySem.W.BT.nil)) (PySem.W.BT.node (@Mine.hO14 P) (PySem.W.BT.node (@Mine.hO20 P) PySem.W.BT.nil PySem.W.BT.nil) (PySem.W.BT.node (@Mine.hO55 P) PySem.W.BT.nil PySem.W.BT.nil))) (PySem.W.BT.node (@PySem.W.boot_o_6 P) (PySem.W.BT.node (@PySem.W.boot_o_10 P) (PySem.W.BT.node (@Mine.hO18 P) (PySem.W.BT.node (@Mine.hO65 P) PySem.W.BT.nil PySem.W.BT.nil) PySem.W.BT.nil) (PySem.W.BT.node (@Mine.hO50 P) PySem.W.BT.nil PySem.W.BT.nil)) (PySem.W.BT.node (@Mine.hO9 P) (PySem.W.BT.node (@Mine.hO46 P) PySem.W.BT.nil PySem.W.BT.nil) (PySem.W.BT.node (@Mine.hO57 P) PySem.W.BT.nil PySem.W.BT.nil)))))
theorem hRun4q (w : PySem.World) : (@Eq.{1} (∀ (x0 : @PySem.OsState), (@Option.{0} (@Prod.{0, 0} @PySem.Flow (@Prod.{0, 0} @PySem.W.SharedT (@Prod.{0, 0} @PySem.Code @PySem.Pos))))) (fun (x0 : @PySem.OsState) => (@PySem.W.Fast.tw10110043849684766642 @PySem.W.Fast.tw14364793385576792824 @Mine.hProg w 11 (some (PySem.Value.ref 6)) 1 44 (PySem.W.SharedT.mk (@Mine.hT66 (@PySem.World.params w)) 35 (PySem.Life.mk [] [] [] 0 [] [] Bool.false #[] [] 0 Bool.false Bool.false Bool.false (@OfNat.ofNat.{0} @Int 0 (@instOfNat 0)) [(@OfNat.ofNat.{0} @Int 2000 (@instOfNat 2000)), (@OfNat.ofNat.{0} @Int 10 (@instOfNat 10)), (@OfNat.ofNat.{0} @Int 10 (@instOfNat 10))] Bool.false 0 Bool.true [] [] 0 Bool.false) (Array.mk []) (PySem.Drawn.mk 0 0 0 0) 1452 x0) (@PySem.W.piecesOf @Mine.hSts4 @Mine.hEnv (PySem.Code.body (@PySem.W.behindTheImports @Mine.hProg) @Mine.hEnv) (PySem.Pos.mk 17 9 17 74) [(@PySem.W.topFrame (PySem.Pos.mk 0 0 0 0))]))) (fun (x0 : @PySem.OsState) => (some (PySem.Flow.next, ((PySem.W.SharedT.mk (@Mine.hT69 (@PySem.World.params w)) 35 (PySem.Life.mk [] [] [] 0 [] [] Bool.false #[] [] 0 Bool.false Bool.false Bool.false (@OfNat.ofNat.{0} @Int 0 (@instOfNat 0)) [(@OfNat.ofNat.{0} @Int 2000 (@instOfNat 2000)), (@OfNat.ofNat.{0} @Int 10 (@instOfNat 10)), (@OfNat.ofNat.{0} @Int 10 (@instOfNat 10))] Bool.false 0 Bool.true [] [] 0 Bool.false) (Array.mk []) (PySem.Drawn.mk 0 0 0 0) 1455 x0), ((PySem.Code.body (@PySem.W.behindTheImports @Mine.hProg) @Mine.hEnv), (PySem.Pos.mk 19 0 19 28))))))) := by kernel_rfl
theorem hRun4 (w : PySem.World) : (@Eq.{1} (∀ (x0 : @PySem.OsState), (@Option.{0} (@Prod.{0, 0} @PySem.Flow (@Prod.{0, 0} @PySem.W.SharedT (@Prod.{0, 0} @PySem.Code @PySem.Pos))))) (fun (x0 : @PySem.OsState) => (@PySem.W.segRunT @PySem.treeTable @Mine.hProg w 11 (some (PySem.Value.ref 6)) 1 44 (PySem.W.SharedT.mk (@Mine.hT66 (@PySem.World.params w)) 35 (PySem.Life.mk [] [] [] 0 [] [] Bool.false #[] [] 0 Bool.false Bool.false Bool.false (@OfNat.ofNat.{0} @Int 0 (@instOfNat 0)) [(@OfNat.ofNat.{0} @Int 2000 (@instOfNat 2000)), (@OfNat.ofNat.{0} @Int 10 (@instOfNat 10)), (@OfNat.ofNat.{0} @Int 10 (@instOfNat 10))] Bool.false 0 Bool.true [] [] 0 Bool.false) (Array.mk []) (PySem.Drawn.mk 0 0 0 0) 1452 x0) (@PySem.W.piecesOf @Mine.hSts4 @Mine.hEnv (PySem.Code.body (@PySem.W.behindTheImports @Mine.hProg) @Mine.hEnv) (PySem.Pos.mk 17 9 17 74) [(@PySem.W.topFrame (PySem.Pos.mk 0 0 0 0))]))) (fun (x0 : @PySem.OsState) => (some (PySem.Flow.next, ((PySem.W.SharedT.mk (@Mine.hT69 (@PySem.World.params w)) 35 (PySem.Life.mk [] [] [] 0 [] [] Bool.false #[] [] 0 Bool.false Bool.false Bool.false (@OfNat.ofNat.{0} @Int 0 (@instOfNat 0)) [(@OfNat.ofNat.{0} @Int 2000 (@instOfNat 2000)), (@OfNat.ofNat.{0} @Int 10 (@instOfNat 10)), (@OfNat.ofNat.{0} @Int 10 (@instOfNat 10))] Bool.false 0 Bool.true [] [] 0 Bool.false) (Array.mk []) (PySem.Drawn.mk 0 0 0 0) 1455 x0), ((PySem.Code.body (@PySem.W.behindTheImports @Mine.hProg) @Mine.hEnv), (PySem.Pos.mk 19 0 19 28))))))) := by
  rw [PySem.W.Fast.te10110043849684766642, PySem.W.Fast.te14364793385576792824]
  exact hRun4q w
noncomputable abbrev hSts5 : List PySem.Stmt := (@List.take.{0} @PySem.Stmt 1 (@List.drop.{0} @PySem.Stmt 14 (@PySem.W.behindTheImports @Mine.hProg)))
noncomputable abbrev hO71 (P : PySem.Params) : PySem.Obj := (PySem.Obj.mk (PySem.Value.type "dict") none (PySem.Data.dict #[(PySem.DictEntry.mk (PySem.PyData.keyHash P (PySem.Str.ofString "__name__")) (PySem.Value.str (PySem.Str.ofString "__name__") 165) (PySem.Value.str (PySem.Str.ofString "cpy313.email.quoprimime") 1242)), (PySem.DictEntry.mk (PySem.PyData.keyHash P (PySem.Str.ofString "__doc__")) (PySem.Value.str (PySem.Str.ofString "__doc__") 166) PySem.Value.none), (PySem.DictEntry.mk (PySem.PyData.keyHash P (PySem.Str.ofString "__package__")) (PySem.Value.str (PySem.Str.ofString "__package__") 167) PySem.Value.none), (PySem.DictEntry.mk (PySem.PyData.keyHash P (PySem.Str.ofString "__loader__")) (PySem.Value.str (PySem.Str.ofString "__loader__") 168) (PySem.Value.builtin "__main__.__loader__#opaque")), (PySem.DictEntry.mk (PySem.PyData.keyHash P (PySem.Str.ofString "__spec__")) (PySem.Value.str (PySem.Str.ofString "__spec__") 169) PySem.Value.none), (PySem.DictEntry.mk (PySem.PyData.keyHash P (PySem.Str.ofString "__annotations__")) (PySem.Value.str (PySem.Str.ofString "__annotations__") 170) (PySem.Value.ref 6)), (PySem.DictEntry.mk (PySem.PyData.keyHash P (PySem.Str.ofString "__builtins__")) (PySem.Value.str (PySem.Str.ofString "__builtins__") 171) (PySem.Value.ref 4)), (PySem.DictEntry.mk (PySem.PyData.keyHash P (PySem.Str.ofString "__file__")) (PySem.Value.str (PySem.Str.ofString "__file__") 173) (PySem.Value.str (PySem.Str.ofString "/claim/cut.py") 172)), (PySem.DictEntry.mk (PySem.PyData.keyHash P (PySem.Str.ofString "__cached__")) (PySem.Value.str (PySem.Str.ofString "__cached__") 174) PySem.Value.none), (PySem.DictEntry.mk (PySem.PyData.keyHash P (PySem.Str.ofString "replace")) (PySem.Value.str (PySem.Str.ofString "replace") 196) (PySem.Value.ref 21)), (PySem.DictEntry.mk (PySem.PyData.keyHash P (PySem.Str.ofString "NL")) (PySem.Value.str (PySem.Str.ofString "NL") 198) (PySem.Value.str (PySem.Str.ofString "\n") 197)), (PySem.DictEntry.mk (PySem.PyData.keyHash P (PySem.Str.ofString "_QUOPRI_MAP")) (PySem.Value.str (PySem.Str.ofString "_QUOPRI_MAP") 1226) (PySem.Value.ref 24)), (PySem.DictEntry.mk (PySem.PyData.keyHash P (PySem.Str.ofString "_QUOPRI_HEADER_MAP")) (PySem.Value.str (PySem.Str.ofString "_QUOPRI_HEADER_MAP") 1227) (PySem.Value.ref 29)), (PySem.DictEntry.mk (PySem.PyData.keyHash P (PySem.Str.ofString "_QUOPRI_BODY_MAP")) (PySem.Value.str (PySem.Str.ofString "_QUOPRI_BODY_MAP") 1228) (PySem.Value.ref 31)), (PySem.DictEntry.mk (PySem.PyData.keyHash P (PySem.Str.ofString "ascii_lowercase")) (PySem.Value.str (PySem.Str.ofString "ascii_lowercase") 1230) (PySem.Value.str (PySem.Str.ofString "abcdefghijklmnopqrstuvwxyz") 1229)), (PySem.DictEntry.mk (PySem.PyData.keyHash P (PySem.Str.ofString "ascii_uppercase")) (PySem.Value.str (PySem.Str.ofString "ascii_uppercase") 1232) (PySem.Value.str (PySem.Str.ofString "ABCDEFGHIJKLMNOPQRSTUVWXYZ") 1231)), (PySem.DictEntry.mk (PySem.PyData.keyHash P (PySem.Str.ofString "ascii_letters")) (PySem.Value.str (PySem.Str.ofString "ascii_letters") 1234) (PySem.Value.str (PySem.Str.ofString "abcdefghijklmnopqrstuvwxyzABCDEFGHIJKLMNOPQRSTUVWXYZ") 1233)), (PySem.DictEntry.mk (PySem.PyData.keyHash P (PySem.Str.ofString "digits")) (PySem.Value.str (PySem.Str.ofString "digits") 1236) (PySem.Value.str (PySem.Str.ofString "0123456789") 1235)), (PySem.DictEntry.mk (PySem.PyData.keyHash P (PySem.Str.ofString "hexdigits")) (PySem.Value.str (PySem.Str.ofString "hexdigits") 1241) (PySem.Value.str (PySem.Str.ofString "0123456789abcdefABCDEF") 1240)), (PySem.DictEntry.mk (PySem.PyData.keyHash P (PySem.Str.ofString "c")) (PySem.Value.str (PySem.Str.ofString "c") 1252) (PySem.Value.int (@OfNat.ofNat.{0} @Int 9 (@instOfNat 9)) 1738))] 20) #[])
noncomputable abbrev hO72 (P : PySem.Params) : PySem.Obj := (PySem.Obj.mk (PySem.Value.type "list") none (PySem.Data.seq (List.toArray ((PySem.Value.str (PySem.Str.ofString "=00") 205) :: (PySem.Value.str (PySem.Str.ofString "=01") 209) :: (PySem.Value.str (PySem.Str.ofString "=02") 213) :: (PySem.Value.str (PySem.Str.ofString "=03") 217) :: (PySem.Value.str (PySem.Str.ofString "=04") 221) :: (PySem.Value.str (PySem.Str.ofString "=05") 225) :: (PySem.Value.str (PySem.Str.ofString "=06") 229) :: (PySem.Value.str (PySem.Str.ofString "=07") 233) :: (PySem.Value.str (PySem.Str.ofString "=08") 237) :: (PySem.Value.str (PySem.Str.ofString "\t") 1740) :: (PySem.Value.str (PySem.Str.ofString "=0A") 245) :: (PySem.Value.str (PySem.Str.ofString "=0B") 249) :: (PySem.Value.str (PySem.Str.ofString "=0C") 253) :: (PySem.Value.str (PySem.Str.ofString "=0D") 257) :: (PySem.Value.str (PySem.Str.ofString "=0E") 261) :: (PySem.Value.str (PySem.Str.ofString "=0F") 265) :: (PySem.Value.str (PySem.Str.ofString "=10") 269) :: (PySem.Value.str (PySem.Str.ofString "=11") 273) :: (PySem.Value.str (PySem.Str.ofString "=12") 277) :: (PySem.Value.str (PySem.Str.ofString "=13") 281) :: (PySem.Value.str (PySem.Str.ofString "=14") 285) :: (PySem.Value.str (PySem.Str.ofString "=15") 289) :: (PySem.Value.str (PySem.Str.ofString "=16") 293) :: (PySem.Value.str (PySem.Str.ofString "=17") 297) :: (PySem.Value.str (PySem.Str.ofString "=18") 301) :: (PySem.Value.str (PySem.Str.ofString "=19") 305) :: (PySem.Value.str (PySem.Str.ofString "=1A") 309) :: (PySem.Value.str (PySem.Str.ofString "=1B") 313) :: (PySem.Value.str (PySem.Str.ofString "=1C") 317) :: (PySem.Value.str (PySem.Str.ofString "=1D") 321) :: (PySem.Value.str (PySem.Str.ofString "=1E") 325) :: (PySem.Value.str (PySem.Str.ofString "=1F") 329) :: (PySem.Value.str (PySem.Str.ofString " ") 1458) :: (PySem.Value.str (PySem.Str.ofString "!") 1461) :: (PySem.Value.str (PySem.Str.ofString "\"") 1464) :: (PySem.Value.str (PySem.Str.ofString "#") 1467) :: (PySem.Value.str (PySem.Str.ofString "$") 1470) :: (PySem.Value.str (PySem.Str.ofString "%") 1473) :: (PySem.Value.str (PySem.Str.ofString "&") 1476) :: (PySem.Value.str (PySem.Str.ofString "'") 1479) :: (PySem.Value.str (PySem.Str.ofString "(") 1482) :: (PySem.Value.str (PySem.Str.ofString ")") 1485) :: (PySem.Value.str (PySem.Str.ofString "*") 1488) :: (PySem.Value.str (PySem.Str.ofString "+") 1491) :: (PySem.Value.str (PySem.Str.ofString ",") 1494) :: (PySem.Value.str (PySem.Str.ofString "-") 1497) :: (PySem.Value.str (PySem.Str.ofString ".") 1500) :: (PySem.Value.str (PySem.Str.ofString "/") 1503) :: (PySem.Value.str (PySem.Str.ofString "0") 1506) :: (PySem.Value.str (PySem.Str.ofString "1") 1509) :: (PySem.Value.str (PySem.Str.ofString "2") 1512) :: (PySem.Value.str (PySem.Str.ofString "3") 1515) :: (PySem.Value.str (PySem.Str.ofString "4") 1518) :: (PySem.Value.str (PySem.Str.ofString "5") 1521) :: (PySem.Value.str (PySem.Str.ofString "6") 1524) :: (PySem.Value.str (PySem.Str.ofString "7") 1527) :: (PySem.Value.str (PySem.Str.ofString "8") 1530) :: (PySem.Value.str (PySem.Str.ofString "9") 1533) :: (PySem.Value.str (PySem.Str.ofString ":") 1536) :: (PySem.Value.str (PySem.Str.ofString ";") 1539) :: (PySem.Value.str (PySem.Str.ofString "<") 1542) :: (PySem.Value.str (PySem.Str.ofString "=3D") 449) :: (PySem.Value.str (PySem.Str.ofString ">") 1545) :: (PySem.Value.str (PySem.Str.ofString "?") 1548) :: (PySem.Value.str (PySem.Str.ofString "@") 1551) :: (PySem.Value.str (PySem.Str.ofString "A") 1554) :: (PySem.Value.str (PySem.Str.ofString "B") 1557) :: (PySem.Value.str (PySem.Str.ofString "C") 1560) :: (PySem.Value.str (PySem.Str.ofString "D") 1563) :: (PySem.Value.str (PySem.Str.ofString "E") 1566) :: (PySem.Value.str (PySem.Str.ofString "F") 1569) :: (PySem.Value.str (PySem.Str.ofString "G") 1572) :: (PySem.Value.str (PySem.Str.ofString "H") 1575) :: (PySem.Value.str (PySem.Str.ofString "I") 1578) :: (PySem.Value.str (PySem.Str.ofString "J") 1581) :: (PySem.Value.str (PySem.Str.ofString "K") 1584) :: (PySem.Value.str (PySem.Str.ofString "L") 1587) :: (PySem.Value.str (PySem.Str.ofString "M") 1590) :: (PySem.Value.str (PySem.Str.ofString "N") 1593) :: (PySem.Value.str (PySem.Str.ofString "O") 1596) :: (PySem.Value.str (PySem.Str.ofString "P") 1599) :: (PySem.Value.str (PySem.Str.ofString "Q") 1602) :: (PySem.Value.str (PySem.Str.ofString "R") 1605) :: (PySem.Value.str (PySem.Str.ofString "S") 1608) :: (PySem.Value.str (PySem.Str.ofString "T") 1611) :: (PySem.Value.str (PySem.Str.ofString "U") 1614) :: (PySem.Value.str (PySem.Str.ofString "V") 1617) :: (PySem.Value.str (PySem.Str.ofString "W") 1620) :: (PySem.Value.str (PySem.Str.ofString "X") 1623) :: (PySem.Value.str (PySem.Str.ofString "Y") 1626) :: (PySem.Value.str (PySem.Str.ofString "Z") 1629) :: (PySem.Value.str (PySem.Str.ofString "[") 1632) :: (PySem.Value.str (PySem.Str.ofString "\\") 1635) :: (PySem.Value.str (PySem.Str.ofString "]") 1638) :: (PySem.Value.str (PySem.Str.ofString "^") 1641) :: (PySem.Value.str (PySem.Str.ofString "_") 1644) :: (PySem.Value.str (PySem.Str.ofString "`") 1647) :: (PySem.Value.str (PySem.Str.ofString "a") 1650) :: (PySem.Value.str (PySem.Str.ofString "b") 1653) :: (PySem.Value.str (PySem.Str.ofString "c") 1656) :: (PySem.Value.str (PySem.Str.ofString "d") 1659) :: (PySem.Value.str (PySem.Str.ofString "e") 1662) :: (PySem.Value.str (PySem.Str.ofString "f") 1665) :: (PySem.Value.str (PySem.Str.ofString "g") 1668) :: (PySem.Value.str (PySem.Str.ofString "h") 1671) :: (PySem.Value.str (PySem.Str.ofString "i") 1674) :: (PySem.Value.str (PySem.Str.ofString "j") 1677) :: (PySem.Value.str (PySem.Str.ofString "k") 1680) :: (PySem.Value.str (PySem.Str.ofString "l") 1683) :: (PySem.Value.str (PySem.Str.ofString "m") 1686) :: (PySem.Value.str (PySem.Str.ofString "n") 1689) :: (PySem.Value.str (PySem.Str.ofString "o") 1692) :: (PySem.Value.str (PySem.Str.ofString "p") 1695) :: (PySem.Value.str (PySem.Str.ofString "q") 1698) :: (PySem.Value.str (PySem.Str.ofString "r") 1701) :: (PySem.Value.str (PySem.Str.ofString "s") 1704) :: (PySem.Value.str (PySem.Str.ofString "t") 1707) :: (PySem.Value.str (PySem.Str.ofString "u") 1710) :: (PySem.Value.str (PySem.Str.ofString "v") 1713) :: (PySem.Value.str (PySem.Str.ofString "w") 1716) :: (PySem.Value.str (PySem.Str.ofString "x") 1719) :: (PySem.Value.str (PySem.Str.ofString "y") 1722) :: (PySem.Value.str (PySem.Str.ofString "z") 1725) :: (PySem.Value.str (PySem.Str.ofString "{") 1728) :: (PySem.Value.str (PySem.Str.ofString "|") 1731) :: (PySem.Value.str (PySem.Str.ofString "}") 1734) :: (PySem.Value.str (PySem.Str.ofString "~") 1737) :: (PySem.Value.str (PySem.Str.ofString "=7F") 713) :: (PySem.Value.str (PySem.Str.ofString "=80") 717) :: (PySem.Value.str (PySem.Str.ofString "=81") 721) :: (PySem.Value.str (PySem.Str.ofString "=82") 725) :: (PySem.Value.str (PySem.Str.ofString "=83") 729) :: (PySem.Value.str (PySem.Str.ofString "=84") 733) :: (PySem.Value.str (PySem.Str.ofString "=85") 737) :: (PySem.Value.str (PySem.Str.ofString "=86") 741) :: (PySem.Value.str (PySem.Str.ofString "=87") 745) :: (PySem.Value.str (PySem.Str.ofString "=88") 749) :: (PySem.Value.str (PySem.Str.ofString "=89") 753) :: (PySem.Value.str (PySem.Str.ofString "=8A") 757) :: (PySem.Value.str (PySem.Str.ofString "=8B") 761) :: (PySem.Value.str (PySem.Str.ofString "=8C") 765) :: (PySem.Value.str (PySem.Str.ofString "=8D") 769) :: (PySem.Value.str (PySem.Str.ofString "=8E") 773) :: (PySem.Value.str (PySem.Str.ofString "=8F") 777) :: (PySem.Value.str (PySem.Str.ofString "=90") 781) :: (PySem.Value.str (PySem.Str.ofString "=91") 785) :: (PySem.Value.str (PySem.Str.ofString "=92") 789) :: (PySem.Value.str (PySem.Str.ofString "=93") 793) :: (PySem.Value.str (PySem.Str.ofString "=94") 797) :: (PySem.Value.str (PySem.Str.ofString "=95") 801) :: (PySem.Value.str (PySem.Str.ofString "=96") 805) :: (PySem.Value.str (PySem.Str.ofString "=97") 809) :: (PySem.Value.str (PySem.Str.ofString "=98") 813) :: (PySem.Value.str (PySem.Str.ofString "=99") 817) :: (PySem.Value.str (PySem.Str.ofString "=9A") 821) :: (PySem.Value.str (PySem.Str.ofString "=9B") 825) :: (PySem.Value.str (PySem.Str.ofString "=9C") 829) :: (PySem.Value.str (PySem.Str.ofString "=9D") 833) :: (PySem.Value.str (PySem.Str.ofString "=9E") 837) :: (PySem.Value.str (PySem.Str.ofString "=9F") 841) :: (PySem.Value.str (PySem.Str.ofString "=A0") 845) :: (PySem.Value.str (PySem.Str.ofString "=A1") 849) :: (PySem.Value.str (PySem.Str.ofString "=A2") 853) :: (PySem.Value.str (PySem.Str.ofString "=A3") 857) :: (PySem.Value.str (PySem.Str.ofString "=A4") 861) :: (PySem.Value.str (PySem.Str.ofString "=A5") 865) :: (PySem.Value.str (PySem.Str.ofString "=A6") 869) :: (PySem.Value.str (PySem.Str.ofString "=A7") 873) :: (PySem.Value.str (PySem.Str.ofString "=A8") 877) :: (PySem.Value.str (PySem.Str.ofString "=A9") 881) :: (PySem.Value.str (PySem.Str.ofString "=AA") 885) :: (PySem.Value.str (PySem.Str.ofString "=AB") 889) :: (PySem.Value.str (PySem.Str.ofString "=AC") 893) :: (PySem.Value.str (PySem.Str.ofString "=AD") 897) :: (PySem.Value.str (PySem.Str.ofString "=AE") 901) :: (PySem.Value.str (PySem.Str.ofString "=AF") 905) :: (PySem.Value.str (PySem.Str.ofString "=B0") 909) :: (PySem.Value.str (PySem.Str.ofString "=B1") 913) :: (PySem.Value.str (PySem.Str.ofString "=B2") 917) :: (PySem.Value.str (PySem.Str.ofString "=B3") 921) :: (PySem.Value.str (PySem.Str.ofString "=B4") 925) :: (PySem.Value.str (PySem.Str.ofString "=B5") 929) :: (PySem.Value.str (PySem.Str.ofString "=B6") 933) :: (PySem.Value.str (PySem.Str.ofString "=B7") 937) :: (PySem.Value.str (PySem.Str.ofString "=B8") 941) :: (PySem.Value.str (PySem.Str.ofString "=B9") 945) :: (PySem.Value.str (PySem.Str.ofString "=BA") 949) :: (PySem.Value.str (PySem.Str.ofString "=BB") 953) :: (PySem.Value.str (PySem.Str.ofString "=BC") 957) :: (PySem.Value.str (PySem.Str.ofString "=BD") 961) :: (PySem.Value.str (PySem.Str.ofString "=BE") 965) :: (PySem.Value.str (PySem.Str.ofString "=BF") 969) :: (PySem.Value.str (PySem.Str.ofString "=C0") 973) :: (PySem.Value.str (PySem.Str.ofString "=C1") 977) :: (PySem.Value.str (PySem.Str.ofString "=C2") 981) :: (PySem.Value.str (PySem.Str.ofString "=C3") 985) :: (PySem.Value.str (PySem.Str.ofString "=C4") 989) :: (PySem.Value.str (PySem.Str.ofString "=C5") 993) :: (PySem.Value.str (PySem.Str.ofString "=C6") 997) :: (PySem.Value.str (PySem.Str.ofString "=C7") 1001) :: (PySem.Value.str (PySem.Str.ofString "=C8") 1005) :: (PySem.Value.str (PySem.Str.ofString "=C9") 1009) :: (PySem.Value.str (PySem.Str.ofString "=CA") 1013) :: (PySem.Value.str (PySem.Str.ofString "=CB") 1017) :: (PySem.Value.str (PySem.Str.ofString "=CC") 1021) :: (PySem.Value.str (PySem.Str.ofString "=CD") 1025) :: (PySem.Value.str (PySem.Str.ofString "=CE") 1029) :: (PySem.Value.str (PySem.Str.ofString "=CF") 1033) :: (PySem.Value.str (PySem.Str.ofString "=D0") 1037) :: (PySem.Value.str (PySem.Str.ofString "=D1") 1041) :: (PySem.Value.str (PySem.Str.ofString "=D2") 1045) :: (PySem.Value.str (PySem.Str.ofString "=D3") 1049) :: (PySem.Value.str (PySem.Str.ofString "=D4") 1053) :: (PySem.Value.str (PySem.Str.ofString "=D5") 1057) :: (PySem.Value.str (PySem.Str.ofString "=D6") 1061) :: (PySem.Value.str (PySem.Str.ofString "=D7") 1065) :: (PySem.Value.str (PySem.Str.ofString "=D8") 1069) :: (PySem.Value.str (PySem.Str.ofString "=D9") 1073) :: (PySem.Value.str (PySem.Str.ofString "=DA") 1077) :: (PySem.Value.str (PySem.Str.ofString "=DB") 1081) :: (PySem.Value.str (PySem.Str.ofString "=DC") 1085) :: (PySem.Value.str (PySem.Str.ofString "=DD") 1089) :: (PySem.Value.str (PySem.Str.ofString "=DE") 1093) :: (PySem.Value.str (PySem.Str.ofString "=DF") 1097) :: (PySem.Value.str (PySem.Str.ofString "=E0") 1101) :: (PySem.Value.str (PySem.Str.ofString "=E1") 1105) :: (PySem.Value.str (PySem.Str.ofString "=E2") 1109) :: (PySem.Value.str (PySem.Str.ofString "=E3") 1113) :: (PySem.Value.str (PySem.Str.ofString "=E4") 1117) :: (PySem.Value.str (PySem.Str.ofString "=E5") 1121) :: (PySem.Value.str (PySem.Str.ofString "=E6") 1125) :: (PySem.Value.str (PySem.Str.ofString "=E7") 1129) :: (PySem.Value.str (PySem.Str.ofString "=E8") 1133) :: (PySem.Value.str (PySem.Str.ofString "=E9") 1137) :: (PySem.Value.str (PySem.Str.ofString "=EA") 1141) :: (PySem.Value.str (PySem.Str.ofString "=EB") 1145) :: (PySem.Value.str (PySem.Str.ofString "=EC") 1149) :: (PySem.Value.str (PySem.Str.ofString "=ED") 1153) :: (PySem.Value.str (PySem.Str.ofString "=EE") 1157) :: (PySem.Value.str (PySem.Str.ofString "=EF") 1161) :: (PySem.Value.str (PySem.Str.ofString "=F0") 1165) :: (PySem.Value.str (PySem.Str.ofString "=F1") 1169) :: (PySem.Value.str (PySem.Str.ofString "=F2") 1173) :: (PySem.Value.str (PySem.Str.ofString "=F3") 1177) :: (PySem.Value.str (PySem.Str.ofString "=F4") 1181) :: (PySem.Value.str (PySem.Str.ofString "=F5") 1185) :: (PySem.Value.str (PySem.Str.ofString "=F6") 1189) :: (PySem.Value.str (PySem.Str.ofString "=F7") 1193) :: (PySem.Value.str (PySem.Str.ofString "=F8") 1197) :: (PySem.Value.str (PySem.Str.ofString "=F9") 1201) :: (PySem.Value.str (PySem.Str.ofString "=FA") 1205) :: (PySem.Value.str (PySem.Str.ofString "=FB") 1209) :: (PySem.Value.str (PySem.Str.ofString "=FC") 1213) :: (PySem.Value.str (PySem.Str.ofString "=FD") 1217) :: (PySem.Value.str (PySem.Str.ofString "=FE") 1221) :: (PySem.Value.str (PySem.Str.ofString "=FF") 1225) :: [])) 0) #[])
noncomputable abbrev hO73 (P : PySem.Params) : PySem.Obj := (PySem.Obj.mk (PySem.Value.type "bytes_iterator") none (PySem.Data.fields #[PySem.Value.none, (PySem.Value.int (@OfNat.ofNat.{0} @Int 95 (@instOfNat 95)) 0)]) #[])
noncomputable abbrev hO74 (P : PySem.Params) : PySem.Obj := (PySem.Obj.mk (PySem.Value.type "tuple") none (PySem.Data.seq #[] 0) #[])
noncomputable abbrev hO75 (P : PySem.Params) : PySem.Obj := (PySem.Obj.mk (PySem.Value.type "StopIteration") none (PySem.Data.fields #[(PySem.Value.ref 36), PySem.Value.none, PySem.Value.none, PySem.Value.none, (PySem.Value.bool Bool.false), PySem.Value.none]) #[])
noncomputable abbrev hT76 (P : PySem.Params) : PySem.W.BT := (PySem.W.BT.node (@PySem.W.boot_o_0 P) (PySem.W.BT.node (@PySem.W.boot_o_1 P) (PySem.W.BT.node (@Mine.hO71 P) (PySem.W.BT.node (@PySem.W.boot_o_7 P) (PySem.W.BT.node (@Mine.hO15 P) (PySem.W.BT.node (@Mine.hO72 P) PySem.W.BT.nil PySem.W.BT.nil) PySem.W.BT.nil) (PySem.W.BT.node (@Mine.hO47 P) PySem.W.BT.nil PySem.W.BT.nil)) (PySem.W.BT.node (@Mine.hO6 P) (PySem.W.BT.node (@Mine.hO19 P) (PySem.W.BT.node (@Mine.hO73 P) PySem.W.BT.nil PySem.W.BT.nil) PySem.W.BT.nil) (PySem.W.BT.node (@Mine.hO51 P) PySem.W.BT.nil PySem.W.BT.nil))) (PySem.W.BT.node (@PySem.W.boot_o_5 P) (PySem.W.BT.node (@PySem.W.boot_o_9 P) (PySem.W.BT.node (@Mine.hO17 P) (PySem.W.BT.node (@Mine.hO64 P) PySem.W.BT.nil PySem.W.BT.nil) PySem.W.BT.nil) (PySem.W.BT.node (@Mine.hO49 P) PySem.W.BT.nil PySem.W.BT.nil)) (PySem.W.BT.node (@Mine.hO8 P) (PySem.W.BT.node (@Mine.hO21 P) (PySem.W.BT.node (@Mine.hO75 P) PySem.W.BT.nil PySem.W.BT.nil) PySem.W.BT.nil) (PySem.W.BT.node (@Mine.hO68 P) PySem.W.BT.nil PySem.W.BT.nil)))) (PySem.W.BT.node (@PySem.W.boot_o_2 P) (PySem.W.BT.node (@PySem.W.boot_o_4 P) (PySem.W.BT.node (@PySem.W.boot_o_8 P) (PySem.W.BT.node (@Mine.hO16 P) (PySem.W.BT.node (@Mine.hO63 P) PySem.W.BT.nil PySem.W.BT.nil) PySem.W.BT.nil) (PySem.W.BT.node (@Mine.hO48 P) PySem.W.BT.nil PySem.W.BT.nil)) (PySem.W.BT.node (@Mine.hO14 P) (PySem.W.BT.node (@Mine.hO20 P) (PySem.W.BT.node (@Mine.hO74 P) PySem.W.BT.nil PySem.W.BT.nil) PySem.W.BT.nil) (PySem.W.BT.node (@Mine.hO55 P) PySem.W.BT.nil PySem.W.BT.nil))) (PySem.W.BT.node (@PySem.W.boot_o_6 P) (PySem.W.BT.node (@PySem.W.boot_o_10 P) (PySem.W.BT.node (@Mine.hO18 P) (PySem.W.BT.node (@Mine.hO65 P) PySem.W.BT.nil PySem.W.BT.nil) PySem.W.BT.nil) (PySem.W.BT.node (@Mine.hO50 P) PySem.W.BT.nil PySem.W.BT.nil)) (PySem.W.BT.node (@Mine.hO9 P) (PySem.W.BT.node (@Mine.hO46 P) PySem.W.BT.nil PySem.W.BT.nil) (PySem.W.BT.node (@Mine.hO57 P) PySem.W.BT.nil PySem.W.BT.nil)))))
theorem hRun5_0q (w : PySem.World) : (@Eq.{1} (∀ (x0 : @PySem.OsState), (@Option.{0} (@Prod.{0, 0} @PySem.Flow (@Prod.{0, 0} @PySem.W.SharedT (@Prod.{0, 0} @PySem.Code @PySem.Pos))))) (fun (x0 : @PySem.OsState) => (@PySem.W.Fast.tw10110043849684766642 @PySem.W.Fast.tw14364793385576792824 @Mine.hProg (@PySem.World.withFollow w "special-get-raises" Bool.false) 11 (some (PySem.Value.ref 6)) 1 4322 (PySem.W.SharedT.mk (@Mine.hT69 (@PySem.World.params (@PySem.World.withFollow w "special-get-raises" Bool.false))) 35 (PySem.Life.mk [] [] [] 0 [] [] Bool.false #[] [] 0 Bool.false Bool.false Bool.false (@OfNat.ofNat.{0} @Int 0 (@instOfNat 0)) [(@OfNat.ofNat.{0} @Int 2000 (@instOfNat 2000)), (@OfNat.ofNat.{0} @Int 10 (@instOfNat 10)), (@OfNat.ofNat.{0} @Int 10 (@instOfNat 10))] Bool.false 0 Bool.true [] [] 0 Bool.false) (Array.mk []) (PySem.Drawn.mk 0 0 0 0) 1455 x0) (@PySem.W.piecesOf @Mine.hSts5 @Mine.hEnv (PySem.Code.body (@PySem.W.behindTheImports @Mine.hProg) @Mine.hEnv) (PySem.Pos.mk 19 0 19 28) [(@PySem.W.topFrame (PySem.Pos.mk 0 0 0 0))]))) (fun (x0 : @PySem.OsState) => (some (PySem.Flow.next, ((PySem.W.SharedT.mk (@Mine.hT76 (@PySem.World.params (@PySem.World.withFollow w "special-get-raises" Bool.false))) 38 (PySem.Life.mk [] [] [] 0 [] [] Bool.false #[] [] 0 Bool.false Bool.false Bool.false (@OfNat.ofNat.{0} @Int 0 (@instOfNat 0)) [(@OfNat.ofNat.{0} @Int 2000 (@instOfNat 2000)), (@OfNat.ofNat.{0} @Int 10 (@instOfNat 10)), (@OfNat.ofNat.{0} @Int 10 (@instOfNat 10))] Bool.false 0 Bool.true [] [] 0 Bool.false) (Array.mk []) (PySem.Drawn.mk 0 0 0 0) 1741 x0), ((PySem.Code.body (@PySem.W.behindTheImports @Mine.hProg) @Mine.hEnv), (PySem.Pos.mk 20 9 20 110))))))) := by kernel_rfl
theorem hRun5_0 (w : PySem.World) : (@Eq.{1} (∀ (x0 : @PySem.OsState), (@Option.{0} (@Prod.{0, 0} @PySem.Flow (@Prod.{0, 0} @PySem.W.SharedT (@Prod.{0, 0} @PySem.Code @PySem.Pos))))) (fun (x0 : @PySem.OsState) => (@PySem.W.segRunT @PySem.treeTable @Mine.hProg (@PySem.World.withFollow w "special-get-raises" Bool.false) 11 (some (PySem.Value.ref 6)) 1 4322 (PySem.W.SharedT.mk (@Mine.hT69 (@PySem.World.params (@PySem.World.withFollow w "special-get-raises" Bool.false))) 35 (PySem.Life.mk [] [] [] 0 [] [] Bool.false #[] [] 0 Bool.false Bool.false Bool.false (@OfNat.ofNat.{0} @Int 0 (@instOfNat 0)) [(@OfNat.ofNat.{0} @Int 2000 (@instOfNat 2000)), (@OfNat.ofNat.{0} @Int 10 (@instOfNat 10)), (@OfNat.ofNat.{0} @Int 10 (@instOfNat 10))] Bool.false 0 Bool.true [] [] 0 Bool.false) (Array.mk []) (PySem.Drawn.mk 0 0 0 0) 1455 x0) (@PySem.W.piecesOf @Mine.hSts5 @Mine.hEnv (PySem.Code.body (@PySem.W.behindTheImports @Mine.hProg) @Mine.hEnv) (PySem.Pos.mk 19 0 19 28) [(@PySem.W.topFrame (PySem.Pos.mk 0 0 0 0))]))) (fun (x0 : @PySem.OsState) => (some (PySem.Flow.next, ((PySem.W.SharedT.mk (@Mine.hT76 (@PySem.World.params (@PySem.World.withFollow w "special-get-raises" Bool.false))) 38 (PySem.Life.mk [] [] [] 0 [] [] Bool.false #[] [] 0 Bool.false Bool.false Bool.false (@OfNat.ofNat.{0} @Int 0 (@instOfNat 0)) [(@OfNat.ofNat.{0} @Int 2000 (@instOfNat 2000)), (@OfNat.ofNat.{0} @Int 10 (@instOfNat 10)), (@OfNat.ofNat.{0} @Int 10 (@instOfNat 10))] Bool.false 0 Bool.true [] [] 0 Bool.false) (Array.mk []) (PySem.Drawn.mk 0 0 0 0) 1741 x0), ((PySem.Code.body (@PySem.W.behindTheImports @Mine.hProg) @Mine.hEnv), (PySem.Pos.mk 20 9 20 110))))))) := by
  rw [PySem.W.Fast.te10110043849684766642, PySem.W.Fast.te14364793385576792824]
  exact hRun5_0q w
theorem hRun5_1q (w : PySem.World) : (@Eq.{1} (∀ (x0 : @PySem.OsState), (@Option.{0} (@Prod.{0, 0} @PySem.Flow (@Prod.{0, 0} @PySem.W.SharedT (@Prod.{0, 0} @PySem.Code @PySem.Pos))))) (fun (x0 : @PySem.OsState) => (@PySem.W.Fast.tw10110043849684766642 @PySem.W.Fast.tw14364793385576792824 @Mine.hProg (@PySem.World.withFollow w "special-get-raises" Bool.true) 11 (some (PySem.Value.ref 6)) 1 4322 (PySem.W.SharedT.mk (@Mine.hT69 (@PySem.World.params (@PySem.World.withFollow w "special-get-raises" Bool.true))) 35 (PySem.Life.mk [] [] [] 0 [] [] Bool.false #[] [] 0 Bool.false Bool.false Bool.false (@OfNat.ofNat.{0} @Int 0 (@instOfNat 0)) [(@OfNat.ofNat.{0} @Int 2000 (@instOfNat 2000)), (@OfNat.ofNat.{0} @Int 10 (@instOfNat 10)), (@OfNat.ofNat.{0} @Int 10 (@instOfNat 10))] Bool.false 0 Bool.true [] [] 0 Bool.false) (Array.mk []) (PySem.Drawn.mk 0 0 0 0) 1455 x0) (@PySem.W.piecesOf @Mine.hSts5 @Mine.hEnv (PySem.Code.body (@PySem.W.behindTheImports @Mine.hProg) @Mine.hEnv) (PySem.Pos.mk 19 0 19 28) [(@PySem.W.topFrame (PySem.Pos.mk 0 0 0 0))]))) (fun (x0 : @PySem.OsState) => (some (PySem.Flow.next, ((PySem.W.SharedT.mk (@Mine.hT76 (@PySem.World.params (@PySem.World.withFollow w "special-get-raises" Bool.true))) 38 (PySem.Life.mk [] [] [] 0 [] [] Bool.false #[] [] 0 Bool.false Bool.false Bool.false (@OfNat.ofNat.{0} @Int 0 (@instOfNat 0)) [(@OfNat.ofNat.{0} @Int 2000 (@instOfNat 2000)), (@OfNat.ofNat.{0} @Int 10 (@instOfNat 10)), (@OfNat.ofNat.{0} @Int 10 (@instOfNat 10))] Bool.false 0 Bool.true [] [] 0 Bool.false) (Array.mk []) (PySem.Drawn.mk 0 0 0 0) 1741 x0), ((PySem.Code.body (@PySem.W.behindTheImports @Mine.hProg) @Mine.hEnv), (PySem.Pos.mk 20 9 20 110))))))) := by kernel_rfl
theorem hRun5_1 (w : PySem.World) : (@Eq.{1} (∀ (x0 : @PySem.OsState), (@Option.{0} (@Prod.{0, 0} @PySem.Flow (@Prod.{0, 0} @PySem.W.SharedT (@Prod.{0, 0} @PySem.Code @PySem.Pos))))) (fun (x0 : @PySem.OsState) => (@PySem.W.segRunT @PySem.treeTable @Mine.hProg (@PySem.World.withFollow w "special-get-raises" Bool.true) 11 (some (PySem.Value.ref 6)) 1 4322 (PySem.W.SharedT.mk (@Mine.hT69 (@PySem.World.params (@PySem.World.withFollow w "special-get-raises" Bool.true))) 35 (PySem.Life.mk [] [] [] 0 [] [] Bool.false #[] [] 0 Bool.false Bool.false Bool.false (@OfNat.ofNat.{0} @Int 0 (@instOfNat 0)) [(@OfNat.ofNat.{0} @Int 2000 (@instOfNat 2000)), (@OfNat.ofNat.{0} @Int 10 (@instOfNat 10)), (@OfNat.ofNat.{0} @Int 10 (@instOfNat 10))] Bool.false 0 Bool.true [] [] 0 Bool.false) (Array.mk []) (PySem.Drawn.mk 0 0 0 0) 1455 x0) (@PySem.W.piecesOf @Mine.hSts5 @Mine.hEnv (PySem.Code.body (@PySem.W.behindTheImports @Mine.hProg) @Mine.hEnv) (PySem.Pos.mk 19 0 19 28) [(@PySem.W.topFrame (PySem.Pos.mk 0 0 0 0))]))) (fun (x0 : @PySem.OsState) => (some (PySem.Flow.next, ((PySem.W.SharedT.mk (@Mine.hT76 (@PySem.World.params (@PySem.World.withFollow w "special-get-raises" Bool.true))) 38 (PySem.Life.mk [] [] [] 0 [] [] Bool.false #[] [] 0 Bool.false Bool.false Bool.false (@OfNat.ofNat.{0} @Int 0 (@instOfNat 0)) [(@OfNat.ofNat.{0} @Int 2000 (@instOfNat 2000)), (@OfNat.ofNat.{0} @Int 10 (@instOfNat 10)), (@OfNat.ofNat.{0} @Int 10 (@instOfNat 10))] Bool.false 0 Bool.true [] [] 0 Bool.false) (Array.mk []) (PySem.Drawn.mk 0 0 0 0) 1741 x0), ((PySem.Code.body (@PySem.W.behindTheImports @Mine.hProg) @Mine.hEnv), (PySem.Pos.mk 20 9 20 110))))))) := by
  rw [PySem.W.Fast.te10110043849684766642, PySem.W.Fast.te14364793385576792824]
  exact hRun5_1q w
theorem hRun5 (w : PySem.World) : (@Eq.{1} (∀ (x0 : @PySem.OsState), (@Option.{0} (@Prod.{0, 0} @PySem.Flow (@Prod.{0, 0} @PySem.W.SharedT (@Prod.{0, 0} @PySem.Code @PySem.Pos))))) (fun (x0 : @PySem.OsState) => (@PySem.W.segRunT @PySem.treeTable @Mine.hProg w 11 (some (PySem.Value.ref 6)) 1 4322 (PySem.W.SharedT.mk (@Mine.hT69 (@PySem.World.params w)) 35 (PySem.Life.mk [] [] [] 0 [] [] Bool.false #[] [] 0 Bool.false Bool.false Bool.false (@OfNat.ofNat.{0} @Int 0 (@instOfNat 0)) [(@OfNat.ofNat.{0} @Int 2000 (@instOfNat 2000)), (@OfNat.ofNat.{0} @Int 10 (@instOfNat 10)), (@OfNat.ofNat.{0} @Int 10 (@instOfNat 10))] Bool.false 0 Bool.true [] [] 0 Bool.false) (Array.mk []) (PySem.Drawn.mk 0 0 0 0) 1455 x0) (@PySem.W.piecesOf @Mine.hSts5 @Mine.hEnv (PySem.Code.body (@PySem.W.behindTheImports @Mine.hProg) @Mine.hEnv) (PySem.Pos.mk 19 0 19 28) [(@PySem.W.topFrame (PySem.Pos.mk 0 0 0 0))]))) (fun (x0 : @PySem.OsState) => (some (PySem.Flow.next, ((PySem.W.SharedT.mk (@Mine.hT76 (@PySem.World.params w)) 38 (PySem.Life.mk [] [] [] 0 [] [] Bool.false #[] [] 0 Bool.false Bool.false Bool.false (@OfNat.ofNat.{0} @Int 0 (@instOfNat 0)) [(@OfNat.ofNat.{0} @Int 2000 (@instOfNat 2000)), (@OfNat.ofNat.{0} @Int 10 (@instOfNat 10)), (@OfNat.ofNat.{0} @Int 10 (@instOfNat 10))] Bool.false 0 Bool.true [] [] 0 Bool.false) (Array.mk []) (PySem.Drawn.mk 0 0 0 0) 1741 x0), ((PySem.Code.body (@PySem.W.behindTheImports @Mine.hProg) @Mine.hEnv), (PySem.Pos.mk 20 9 20 110))))))) :=
  PySem.W.byRow2 "special-get-raises" (P := fun w => (@Eq.{1} (∀ (x0 : @PySem.OsState), (@Option.{0} (@Prod.{0, 0} @PySem.Flow (@Prod.{0, 0} @PySem.W.SharedT (@Prod.{0, 0} @PySem.Code @PySem.Pos))))) (fun (x0 : @PySem.OsState) => (@PySem.W.segRunT @PySem.treeTable @Mine.hProg w 11 (some (PySem.Value.ref 6)) 1 4322 (PySem.W.SharedT.mk (@Mine.hT69 (@PySem.World.params w)) 35 (PySem.Life.mk [] [] [] 0 [] [] Bool.false #[] [] 0 Bool.false Bool.false Bool.false (@OfNat.ofNat.{0} @Int 0 (@instOfNat 0)) [(@OfNat.ofNat.{0} @Int 2000 (@instOfNat 2000)), (@OfNat.ofNat.{0} @Int 10 (@instOfNat 10)), (@OfNat.ofNat.{0} @Int 10 (@instOfNat 10))] Bool.false 0 Bool.true [] [] 0 Bool.false) (Array.mk []) (PySem.Drawn.mk 0 0 0 0) 1455 x0) (@PySem.W.piecesOf @Mine.hSts5 @Mine.hEnv (PySem.Code.body (@PySem.W.behindTheImports @Mine.hProg) @Mine.hEnv) (PySem.Pos.mk 19 0 19 28) [(@PySem.W.topFrame (PySem.Pos.mk 0 0 0 0))]))) (fun (x0 : @PySem.OsState) => (some (PySem.Flow.next, ((PySem.W.SharedT.mk (@Mine.hT76 (@PySem.World.params w)) 38 (PySem.Life.mk [] [] [] 0 [] [] Bool.false #[] [] 0 Bool.false Bool.false Bool.false (@OfNat.ofNat.{0} @Int 0 (@instOfNat 0)) [(@OfNat.ofNat.{0} @Int 2000 (@instOfNat 2000)), (@OfNat.ofNat.{0} @Int 10 (@instOfNat 10)), (@OfNat.ofNat.{0} @Int 10 (@instOfNat 10))] Bool.false 0 Bool.true [] [] 0 Bool.false) (Array.mk []) (PySem.Drawn.mk 0 0 0 0) 1741 x0), ((PySem.Code.body (@PySem.W.behindTheImports @Mine.hProg) @Mine.hEnv), (PySem.Pos.mk 20 9 20 110)))))))) hRun5_0 hRun5_1 w
noncomputable abbrev hSts6 : List PySem.Stmt := (@List.take.{0} @PySem.Stmt 11 (@List.drop.{0} @PySem.Stmt 15 (@PySem.W.behindTheImports @Mine.hProg)))
noncomputable abbrev hO78 (P : PySem.Params) : PySem.Obj := (PySem.Obj.mk (PySem.Value.type "dict") none (PySem.Data.dict #[(PySem.DictEntry.mk (PySem.PyData.keyHash P (PySem.Str.ofString "__name__")) (PySem.Value.str (PySem.Str.ofString "__name__") 165) (PySem.Value.str (PySem.Str.ofString "law_tx0009_01") 1776)), (PySem.DictEntry.mk (PySem.PyData.keyHash P (PySem.Str.ofString "__doc__")) (PySem.Value.str (PySem.Str.ofString "__doc__") 166) PySem.Value.none), (PySem.DictEntry.mk (PySem.PyData.keyHash P (PySem.Str.ofString "__package__")) (PySem.Value.str (PySem.Str.ofString "__package__") 167) PySem.Value.none), (PySem.DictEntry.mk (PySem.PyData.keyHash P (PySem.Str.ofString "__loader__")) (PySem.Value.str (PySem.Str.ofString "__loader__") 168) (PySem.Value.builtin "__main__.__loader__#opaque")), (PySem.DictEntry.mk (PySem.PyData.keyHash P (PySem.Str.ofString "__spec__")) (PySem.Value.str (PySem.Str.ofString "__spec__") 169) PySem.Value.none), (PySem.DictEntry.mk (PySem.PyData.keyHash P (PySem.Str.ofString "__annotations__")) (PySem.Value.str (PySem.Str.ofString "__annotations__") 170) (PySem.Value.ref 6)), (PySem.DictEntry.mk (PySem.PyData.keyHash P (PySem.Str.ofString "__builtins__")) (PySem.Value.str (PySem.Str.ofString "__builtins__") 171) (PySem.Value.ref 4)), (PySem.DictEntry.mk (PySem.PyData.keyHash P (PySem.Str.ofString "__file__")) (PySem.Value.str (PySem.Str.ofString "__file__") 173) (PySem.Value.str (PySem.Str.ofString "/claim/cut.py") 172)), (PySem.DictEntry.mk (PySem.PyData.keyHash P (PySem.Str.ofString "__cached__")) (PySem.Value.str (PySem.Str.ofString "__cached__") 174) PySem.Value.none), (PySem.DictEntry.mk (PySem.PyData.keyHash P (PySem.Str.ofString "replace")) (PySem.Value.str (PySem.Str.ofString "replace") 196) (PySem.Value.ref 21)), (PySem.DictEntry.mk (PySem.PyData.keyHash P (PySem.Str.ofString "NL")) (PySem.Value.str (PySem.Str.ofString "NL") 198) (PySem.Value.str (PySem.Str.ofString "\n") 197)), (PySem.DictEntry.mk (PySem.PyData.keyHash P (PySem.Str.ofString "_QUOPRI_MAP")) (PySem.Value.str (PySem.Str.ofString "_QUOPRI_MAP") 1226) (PySem.Value.ref 24)), (PySem.DictEntry.mk (PySem.PyData.keyHash P (PySem.Str.ofString "_QUOPRI_HEADER_MAP")) (PySem.Value.str (PySem.Str.ofString "_QUOPRI_HEADER_MAP") 1227) (PySem.Value.ref 29)), (PySem.DictEntry.mk (PySem.PyData.keyHash P (PySem.Str.ofString "_QUOPRI_BODY_MAP")) (PySem.Value.str (PySem.Str.ofString "_QUOPRI_BODY_MAP") 1228) (PySem.Value.ref 31)), (PySem.DictEntry.mk (PySem.PyData.keyHash P (PySem.Str.ofString "ascii_lowercase")) (PySem.Value.str (PySem.Str.ofString "ascii_lowercase") 1230) (PySem.Value.str (PySem.Str.ofString "abcdefghijklmnopqrstuvwxyz") 1229)), (PySem.DictEntry.mk (PySem.PyData.keyHash P (PySem.Str.ofString "ascii_uppercase")) (PySem.Value.str (PySem.Str.ofString "ascii_uppercase") 1232) (PySem.Value.str (PySem.Str.ofString "ABCDEFGHIJKLMNOPQRSTUVWXYZ") 1231)), (PySem.DictEntry.mk (PySem.PyData.keyHash P (PySem.Str.ofString "ascii_letters")) (PySem.Value.str (PySem.Str.ofString "ascii_letters") 1234) (PySem.Value.str (PySem.Str.ofString "abcdefghijklmnopqrstuvwxyzABCDEFGHIJKLMNOPQRSTUVWXYZ") 1233)), (PySem.DictEntry.mk (PySem.PyData.keyHash P (PySem.Str.ofString "digits")) (PySem.Value.str (PySem.Str.ofString "digits") 1236) (PySem.Value.str (PySem.Str.ofString "0123456789") 1235)), (PySem.DictEntry.mk (PySem.PyData.keyHash P (PySem.Str.ofString "hexdigits")) (PySem.Value.str (PySem.Str.ofString "hexdigits") 1241) (PySem.Value.str (PySem.Str.ofString "0123456789abcdefABCDEF") 1240)), (PySem.DictEntry.mk (PySem.PyData.keyHash P (PySem.Str.ofString "unquote")) (PySem.Value.str (PySem.Str.ofString "unquote") 1747) (PySem.Value.ref 44)), (PySem.DictEntry.mk (PySem.PyData.keyHash P (PySem.Str.ofString "quote")) (PySem.Value.str (PySem.Str.ofString "quote") 1754) (PySem.Value.ref 51)), (PySem.DictEntry.mk (PySem.PyData.keyHash P (PySem.Str.ofString "_QUOPRI_BODY_ENCODE_MAP")) (PySem.Value.str (PySem.Str.ofString "_QUOPRI_BODY_ENCODE_MAP") 1755) (PySem.Value.ref 53)), (PySem.DictEntry.mk (PySem.PyData.keyHash P (PySem.Str.ofString "decode")) (PySem.Value.str (PySem.Str.ofString "decode") 1775) (PySem.Value.ref 64)), (PySem.DictEntry.mk (PySem.PyData.keyHash P (PySem.Str.ofString "_law_numbers")) (PySem.Value.str (PySem.Str.ofString "_law_numbers") 1783) (PySem.Value.ref 69)), (PySem.DictEntry.mk (PySem.PyData.keyHash P (PySem.Str.ofString "_law_order")) (PySem.Value.str (PySem.Str.ofString "_law_order") 1789) (PySem.Value.ref 74)), (PySem.DictEntry.mk (PySem.PyData.keyHash P (PySem.Str.ofString "_law_road")) (PySem.Value.str (PySem.Str.ofString "_law_road") 1806) (PySem.Value.ref 81)), (PySem.DictEntry.mk (PySem.PyData.keyHash P (PySem.Str.ofString "law")) (PySem.Value.str (PySem.Str.ofString "law") 1812) (PySem.Value.ref 86))] 29) #[])
noncomputable abbrev hO79 (P : PySem.Params) : PySem.Obj := (PySem.Obj.mk PySem.Value.none none (PySem.Data.fields #[(PySem.Value.int (@OfNat.ofNat.{0} @Int 2 (@instOfNat 2)) 0), (PySem.Value.int (@OfNat.ofNat.{0} @Int 0 (@instOfNat 0)) 0), (PySem.Value.ref 20), (PySem.Value.int (@OfNat.ofNat.{0} @Int 22 (@instOfNat 22)) 0), (PySem.Value.int (@OfNat.ofNat.{0} @Int 0 (@instOfNat 0)) 0), (PySem.Value.ref 43), (PySem.Value.int (@OfNat.ofNat.{0} @Int 24 (@instOfNat 24)) 0), (PySem.Value.int (@OfNat.ofNat.{0} @Int 0 (@instOfNat 0)) 0), (PySem.Value.ref 50), (PySem.Value.int (@OfNat.ofNat.{0} @Int 30 (@instOfNat 30)) 0), (PySem.Value.int (@OfNat.ofNat.{0} @Int 0 (@instOfNat 0)) 0), (PySem.Value.ref 63), (PySem.Value.int (@OfNat.ofNat.{0} @Int 61 (@instOfNat 61)) 0), (PySem.Value.int (@OfNat.ofNat.{0} @Int 0 (@instOfNat 0)) 0), (PySem.Value.ref 68), (PySem.Value.int (@OfNat.ofNat.{0} @Int 65 (@instOfNat 65)) 0), (PySem.Value.int (@OfNat.ofNat.{0} @Int 0 (@instOfNat 0)) 0), (PySem.Value.ref 73), (PySem.Value.int (@OfNat.ofNat.{0} @Int 71 (@instOfNat 71)) 0), (PySem.Value.int (@OfNat.ofNat.{0} @Int 0 (@instOfNat 0)) 0), (PySem.Value.ref 80), (PySem.Value.int (@OfNat.ofNat.{0} @Int 84 (@instOfNat 84)) 0), (PySem.Value.int (@OfNat.ofNat.{0} @Int 0 (@instOfNat 0)) 0), (PySem.Value.ref 85)]) #[])
noncomputable abbrev hO80 (P : PySem.Params) : PySem.Obj := (PySem.Obj.mk (PySem.Value.type "tuple") none (PySem.Data.seq #[] 0) #[])
noncomputable abbrev hO81 (P : PySem.Params) : PySem.Obj := (PySem.Obj.mk PySem.Value.none none (PySem.Data.fields #[]) #[])
noncomputable abbrev hO82 (P : PySem.Params) : PySem.Obj := (PySem.Obj.mk (PySem.Value.type "tuple") none (PySem.Data.seq #[(PySem.Value.str (PySem.Str.ofString "s") 1744)] 0) #[])
noncomputable abbrev hO83 (P : PySem.Params) : PySem.Obj := (PySem.Obj.mk (PySem.Value.type "tuple") none (PySem.Data.seq #[] 0) #[])
noncomputable abbrev hO84 (P : PySem.Params) : PySem.Obj := (PySem.Obj.mk PySem.Value.none none (PySem.Data.func (PySem.FuncData.mk (PySem.Str.ofString "unquote") (PySem.Str.ofString "unquote") (Mine.hFnA 15) (PySem.FuncBody.stmts (Mine.hFnB 15)) (Mine.hFnC 15) 0 [] PySem.Value.none PySem.Value.none PySem.Value.none PySem.Value.none none PySem.Value.none PySem.Value.none 0)) #[])
noncomputable abbrev hO85 (P : PySem.Params) : PySem.Obj := (PySem.Obj.mk (PySem.Value.type "code") none (PySem.Data.fields #[(PySem.Value.str (PySem.Str.ofString "unquote") 1741), (PySem.Value.str (PySem.Str.ofString "unquote") 1742), (PySem.Value.str (PySem.Str.ofString "/claim/cut.py") 1743), (PySem.Value.int (@OfNat.ofNat.{0} @Int 22 (@instOfNat 22)) 0), (PySem.Value.int (@OfNat.ofNat.{0} @Int 1 (@instOfNat 1)) 0), (PySem.Value.int (@OfNat.ofNat.{0} @Int 0 (@instOfNat 0)) 0), (PySem.Value.int (@OfNat.ofNat.{0} @Int 0 (@instOfNat 0)) 0), (PySem.Value.int (@OfNat.ofNat.{0} @Int 3 (@instOfNat 3)) 0), (PySem.Value.ref 38), (PySem.Value.bool Bool.true), (PySem.Value.int (@OfNat.ofNat.{0} @Int 181 (@instOfNat 181)) 0), (PySem.Value.ref 39), PySem.Value.none, (PySem.Value.ref 40), (PySem.Value.ref 41), (PySem.Value.ref 42), (PySem.Value.int (@OfNat.ofNat.{0} @Int 1745 (@instOfNat 1745)) 0), (PySem.Value.int (@OfNat.ofNat.{0} @Int 22 (@instOfNat 22)) 0), (PySem.Value.str (PySem.Str.ofString "/claim/cut.py") 1746)]) #[])
noncomputable abbrev hO86 (P : PySem.Params) : PySem.Obj := (PySem.Obj.mk (PySem.Value.type "function") none (PySem.Data.func (PySem.FuncData.mk (PySem.Str.ofString "unquote") (PySem.Str.ofString "unquote") (Mine.hFnA 15) (PySem.FuncBody.stmts (Mine.hFnB 15)) (Mine.hFnC 15) 3 [] PySem.Value.none PySem.Value.none PySem.Value.none (PySem.Value.str (PySem.Str.ofString "cpy313.email.quoprimime") 1242) none (PySem.Value.ref 43) PySem.Value.none 0)) #[])
noncomputable abbrev hO87 (P : PySem.Params) : PySem.Obj := (PySem.Obj.mk (PySem.Value.type "tuple") none (PySem.Data.seq #[] 0) #[])
noncomputable abbrev hO88 (P : PySem.Params) : PySem.Obj := (PySem.Obj.mk PySem.Value.none none (PySem.Data.fields #[]) #[])
noncomputable abbrev hO89 (P : PySem.Params) : PySem.Obj := (PySem.Obj.mk (PySem.Value.type "tuple") none (PySem.Data.seq #[(PySem.Value.str (PySem.Str.ofString "c") 1751)] 0) #[])
noncomputable abbrev hO90 (P : PySem.Params) : PySem.Obj := (PySem.Obj.mk (PySem.Value.type "tuple") none (PySem.Data.seq #[] 0) #[])
noncomputable abbrev hO91 (P : PySem.Params) : PySem.Obj := (PySem.Obj.mk PySem.Value.none none (PySem.Data.func (PySem.FuncData.mk (PySem.Str.ofString "quote") (PySem.Str.ofString "quote") (Mine.hFnA 16) (PySem.FuncBody.stmts (Mine.hFnB 16)) (Mine.hFnC 16) 0 [] PySem.Value.none PySem.Value.none PySem.Value.none PySem.Value.none none PySem.Value.none PySem.Value.none 0)) #[])
noncomputable abbrev hO92 (P : PySem.Params) : PySem.Obj := (PySem.Obj.mk (PySem.Value.type "code") none (PySem.Data.fields #[(PySem.Value.str (PySem.Str.ofString "quote") 1748), (PySem.Value.str (PySem.Str.ofString "quote") 1749), (PySem.Value.str (PySem.Str.ofString "/claim/cut.py") 1750), (PySem.Value.int (@OfNat.ofNat.{0} @Int 24 (@instOfNat 24)) 0), (PySem.Value.int (@OfNat.ofNat.{0} @Int 1 (@instOfNat 1)) 0), (PySem.Value.int (@OfNat.ofNat.{0} @Int 0 (@instOfNat 0)) 0), (PySem.Value.int (@OfNat.ofNat.{0} @Int 0 (@instOfNat 0)) 0), (PySem.Value.int (@OfNat.ofNat.{0} @Int 3 (@instOfNat 3)) 0), (PySem.Value.ref 45), (PySem.Value.bool Bool.true), (PySem.Value.int (@OfNat.ofNat.{0} @Int 181 (@instOfNat 181)) 0), (PySem.Value.ref 46), PySem.Value.none, (PySem.Value.ref 47), (PySem.Value.ref 48), (PySem.Value.ref 49), (PySem.Value.int (@OfNat.ofNat.{0} @Int 1752 (@instOfNat 1752)) 0), (PySem.Value.int (@OfNat.ofNat.{0} @Int 24 (@instOfNat 24)) 0), (PySem.Value.str (PySem.Str.ofString "/claim/cut.py") 1753)]) #[])
noncomputable abbrev hO93 (P : PySem.Params) : PySem.Obj := (PySem.Obj.mk (PySem.Value.type "function") none (PySem.Data.func (PySem.FuncData.mk (PySem.Str.ofString "quote") (PySem.Str.ofString "quote") (Mine.hFnA 16) (PySem.FuncBody.stmts (Mine.hFnB 16)) (Mine.hFnC 16) 3 [] PySem.Value.none PySem.Value.none PySem.Value.none (PySem.Value.str (PySem.Str.ofString "cpy313.email.quoprimime") 1242) none (PySem.Value.ref 50) PySem.Value.none 0)) #[])
noncomputable abbrev hO94 (P : PySem.Params) : PySem.Obj := (PySem.Obj.mk (PySem.Value.type "slice") none (PySem.Data.fields #[PySem.Value.none, PySem.Value.none, PySem.Value.none]) #[])
noncomputable abbrev hO95 (P : PySem.Params) : PySem.Obj := (PySem.Obj.mk (PySem.Value.type "list") none (PySem.Data.seq (List.toArray ((PySem.Value.str (PySem.Str.ofString "=00") 205) :: (PySem.Value.str (PySem.Str.ofString "=01") 209) :: (PySem.Value.str (PySem.Str.ofString "=02") 213) :: (PySem.Value.str (PySem.Str.ofString "=03") 217) :: (PySem.Value.str (PySem.Str.ofString "=04") 221) :: (PySem.Value.str (PySem.Str.ofString "=05") 225) :: (PySem.Value.str (PySem.Str.ofString "=06") 229) :: (PySem.Value.str (PySem.Str.ofString "=07") 233) :: (PySem.Value.str (PySem.Str.ofString "=08") 237) :: (PySem.Value.str (PySem.Str.ofString "\t") 1740) :: (PySem.Value.str (PySem.Str.ofString "\n") 1762) :: (PySem.Value.str (PySem.Str.ofString "=0B") 249) :: (PySem.Value.str (PySem.Str.ofString "=0C") 253) :: (PySem.Value.str (PySem.Str.ofString "\x0d") 1759) :: (PySem.Value.str (PySem.Str.ofString "=0E") 261) :: (PySem.Value.str (PySem.Str.ofString "=0F") 265) :: (PySem.Value.str (PySem.Str.ofString "=10") 269) :: (PySem.Value.str (PySem.Str.ofString "=11") 273) :: (PySem.Value.str (PySem.Str.ofString "=12") 277) :: (PySem.Value.str (PySem.Str.ofString "=13") 281) :: (PySem.Value.str (PySem.Str.ofString "=14") 285) :: (PySem.Value.str (PySem.Str.ofString "=15") 289) :: (PySem.Value.str (PySem.Str.ofString "=16") 293) :: (PySem.Value.str (PySem.Str.ofString "=17") 297) :: (PySem.Value.str (PySem.Str.ofString "=18") 301) :: (PySem.Value.str (PySem.Str.ofString "=19") 305) :: (PySem.Value.str (PySem.Str.ofString "=1A") 309) :: (PySem.Value.str (PySem.Str.ofString "=1B") 313) :: (PySem.Value.str (PySem.Str.ofString "=1C") 317) :: (PySem.Value.str (PySem.Str.ofString "=1D") 321) :: (PySem.Value.str (PySem.Str.ofString "=1E") 325) :: (PySem.Value.str (PySem.Str.ofString "=1F") 329) :: (PySem.Value.str (PySem.Str.ofString " ") 1458) :: (PySem.Value.str (PySem.Str.ofString "!") 1461) :: (PySem.Value.str (PySem.Str.ofString "\"") 1464) :: (PySem.Value.str (PySem.Str.ofString "#") 1467) :: (PySem.Value.str (PySem.Str.ofString "$") 1470) :: (PySem.Value.str (PySem.Str.ofString "%") 1473) :: (PySem.Value.str (PySem.Str.ofString "&") 1476) :: (PySem.Value.str (PySem.Str.ofString "'") 1479) :: (PySem.Value.str (PySem.Str.ofString "(") 1482) :: (PySem.Value.str (PySem.Str.ofString ")") 1485) :: (PySem.Value.str (PySem.Str.ofString "*") 1488) :: (PySem.Value.str (PySem.Str.ofString "+") 1491) :: (PySem.Value.str (PySem.Str.ofString ",") 1494) :: (PySem.Value.str (PySem.Str.ofString "-") 1497) :: (PySem.Value.str (PySem.Str.ofString ".") 1500) :: (PySem.Value.str (PySem.Str.ofString "/") 1503) :: (PySem.Value.str (PySem.Str.ofString "0") 1506) :: (PySem.Value.str (PySem.Str.ofString "1") 1509) :: (PySem.Value.str (PySem.Str.ofString "2") 1512) :: (PySem.Value.str (PySem.Str.ofString "3") 1515) :: (PySem.Value.str (PySem.Str.ofString "4") 1518) :: (PySem.Value.str (PySem.Str.ofString "5") 1521) :: (PySem.Value.str (PySem.Str.ofString "6") 1524) :: (PySem.Value.str (PySem.Str.ofString "7") 1527) :: (PySem.Value.str (PySem.Str.ofString "8") 1530) :: (PySem.Value.str (PySem.Str.ofString "9") 1533) :: (PySem.Value.str (PySem.Str.ofString ":") 1536) :: (PySem.Value.str (PySem.Str.ofString ";") 1539) :: (PySem.Value.str (PySem.Str.ofString "<") 1542) :: (PySem.Value.str (PySem.Str.ofString "=3D") 449) :: (PySem.Value.str (PySem.Str.ofString ">") 1545) :: (PySem.Value.str (PySem.Str.ofString "?") 1548) :: (PySem.Value.str (PySem.Str.ofString "@") 1551) :: (PySem.Value.str (PySem.Str.ofString "A") 1554) :: (PySem.Value.str (PySem.Str.ofString "B") 1557) :: (PySem.Value.str (PySem.Str.ofString "C") 1560) :: (PySem.Value.str (PySem.Str.ofString "D") 1563) :: (PySem.Value.str (PySem.Str.ofString "E") 1566) :: (PySem.Value.str (PySem.Str.ofString "F") 1569) :: (PySem.Value.str (PySem.Str.ofString "G") 1572) :: (PySem.Value.str (PySem.Str.ofString "H") 1575) :: (PySem.Value.str (PySem.Str.ofString "I") 1578) :: (PySem.Value.str (PySem.Str.ofString "J") 1581) :: (PySem.Value.str (PySem.Str.ofString "K") 1584) :: (PySem.Value.str (PySem.Str.ofString "L") 1587) :: (PySem.Value.str (PySem.Str.ofString "M") 1590) :: (PySem.Value.str (PySem.Str.ofString "N") 1593) :: (PySem.Value.str (PySem.Str.ofString "O") 1596) :: (PySem.Value.str (PySem.Str.ofString "P") 1599) :: (PySem.Value.str (PySem.Str.ofString "Q") 1602) :: (PySem.Value.str (PySem.Str.ofString "R") 1605) :: (PySem.Value.str (PySem.Str.ofString "S") 1608) :: (PySem.Value.str (PySem.Str.ofString "T") 1611) :: (PySem.Value.str (PySem.Str.ofString "U") 1614) :: (PySem.Value.str (PySem.Str.ofString "V") 1617) :: (PySem.Value.str (PySem.Str.ofString "W") 1620) :: (PySem.Value.str (PySem.Str.ofString "X") 1623) :: (PySem.Value.str (PySem.Str.ofString "Y") 1626) :: (PySem.Value.str (PySem.Str.ofString "Z") 1629) :: (PySem.Value.str (PySem.Str.ofString "[") 1632) :: (PySem.Value.str (PySem.Str.ofString "\\") 1635) :: (PySem.Value.str (PySem.Str.ofString "]") 1638) :: (PySem.Value.str (PySem.Str.ofString "^") 1641) :: (PySem.Value.str (PySem.Str.ofString "_") 1644) :: (PySem.Value.str (PySem.Str.ofString "`") 1647) :: (PySem.Value.str (PySem.Str.ofString "a") 1650) :: (PySem.Value.str (PySem.Str.ofString "b") 1653) :: (PySem.Value.str (PySem.Str.ofString "c") 1656) :: (PySem.Value.str (PySem.Str.ofString "d") 1659) :: (PySem.Value.str (PySem.Str.ofString "e") 1662) :: (PySem.Value.str (PySem.Str.ofString "f") 1665) :: (PySem.Value.str (PySem.Str.ofString "g") 1668) :: (PySem.Value.str (PySem.Str.ofString "h") 1671) :: (PySem.Value.str (PySem.Str.ofString "i") 1674) :: (PySem.Value.str (PySem.Str.ofString "j") 1677) :: (PySem.Value.str (PySem.Str.ofString "k") 1680) :: (PySem.Value.str (PySem.Str.ofString "l") 1683) :: (PySem.Value.str (PySem.Str.ofString "m") 1686) :: (PySem.Value.str (PySem.Str.ofString "n") 1689) :: (PySem.Value.str (PySem.Str.ofString "o") 1692) :: (PySem.Value.str (PySem.Str.ofString "p") 1695) :: (PySem.Value.str (PySem.Str.ofString "q") 1698) :: (PySem.Value.str (PySem.Str.ofString "r") 1701) :: (PySem.Value.str (PySem.Str.ofString "s") 1704) :: (PySem.Value.str (PySem.Str.ofString "t") 1707) :: (PySem.Value.str (PySem.Str.ofString "u") 1710) :: (PySem.Value.str (PySem.Str.ofString "v") 1713) :: (PySem.Value.str (PySem.Str.ofString "w") 1716) :: (PySem.Value.str (PySem.Str.ofString "x") 1719) :: (PySem.Value.str (PySem.Str.ofString "y") 1722) :: (PySem.Value.str (PySem.Str.ofString "z") 1725) :: (PySem.Value.str (PySem.Str.ofString "{") 1728) :: (PySem.Value.str (PySem.Str.ofString "|") 1731) :: (PySem.Value.str (PySem.Str.ofString "}") 1734) :: (PySem.Value.str (PySem.Str.ofString "~") 1737) :: (PySem.Value.str (PySem.Str.ofString "=7F") 713) :: (PySem.Value.str (PySem.Str.ofString "=80") 717) :: (PySem.Value.str (PySem.Str.ofString "=81") 721) :: (PySem.Value.str (PySem.Str.ofString "=82") 725) :: (PySem.Value.str (PySem.Str.ofString "=83") 729) :: (PySem.Value.str (PySem.Str.ofString "=84") 733) :: (PySem.Value.str (PySem.Str.ofString "=85") 737) :: (PySem.Value.str (PySem.Str.ofString "=86") 741) :: (PySem.Value.str (PySem.Str.ofString "=87") 745) :: (PySem.Value.str (PySem.Str.ofString "=88") 749) :: (PySem.Value.str (PySem.Str.ofString "=89") 753) :: (PySem.Value.str (PySem.Str.ofString "=8A") 757) :: (PySem.Value.str (PySem.Str.ofString "=8B") 761) :: (PySem.Value.str (PySem.Str.ofString "=8C") 765) :: (PySem.Value.str (PySem.Str.ofString "=8D") 769) :: (PySem.Value.str (PySem.Str.ofString "=8E") 773) :: (PySem.Value.str (PySem.Str.ofString "=8F") 777) :: (PySem.Value.str (PySem.Str.ofString "=90") 781) :: (PySem.Value.str (PySem.Str.ofString "=91") 785) :: (PySem.Value.str (PySem.Str.ofString "=92") 789) :: (PySem.Value.str (PySem.Str.ofString "=93") 793) :: (PySem.Value.str (PySem.Str.ofString "=94") 797) :: (PySem.Value.str (PySem.Str.ofString "=95") 801) :: (PySem.Value.str (PySem.Str.ofString "=96") 805) :: (PySem.Value.str (PySem.Str.ofString "=97") 809) :: (PySem.Value.str (PySem.Str.ofString "=98") 813) :: (PySem.Value.str (PySem.Str.ofString "=99") 817) :: (PySem.Value.str (PySem.Str.ofString "=9A") 821) :: (PySem.Value.str (PySem.Str.ofString "=9B") 825) :: (PySem.Value.str (PySem.Str.ofString "=9C") 829) :: (PySem.Value.str (PySem.Str.ofString "=9D") 833) :: (PySem.Value.str (PySem.Str.ofString "=9E") 837) :: (PySem.Value.str (PySem.Str.ofString "=9F") 841) :: (PySem.Value.str (PySem.Str.ofString "=A0") 845) :: (PySem.Value.str (PySem.Str.ofString "=A1") 849) :: (PySem.Value.str (PySem.Str.ofString "=A2") 853) :: (PySem.Value.str (PySem.Str.ofString "=A3") 857) :: (PySem.Value.str (PySem.Str.ofString "=A4") 861) :: (PySem.Value.str (PySem.Str.ofString "=A5") 865) :: (PySem.Value.str (PySem.Str.ofString "=A6") 869) :: (PySem.Value.str (PySem.Str.ofString "=A7") 873) :: (PySem.Value.str (PySem.Str.ofString "=A8") 877) :: (PySem.Value.str (PySem.Str.ofString "=A9") 881) :: (PySem.Value.str (PySem.Str.ofString "=AA") 885) :: (PySem.Value.str (PySem.Str.ofString "=AB") 889) :: (PySem.Value.str (PySem.Str.ofString "=AC") 893) :: (PySem.Value.str (PySem.Str.ofString "=AD") 897) :: (PySem.Value.str (PySem.Str.ofString "=AE") 901) :: (PySem.Value.str (PySem.Str.ofString "=AF") 905) :: (PySem.Value.str (PySem.Str.ofString "=B0") 909) :: (PySem.Value.str (PySem.Str.ofString "=B1") 913) :: (PySem.Value.str (PySem.Str.ofString "=B2") 917) :: (PySem.Value.str (PySem.Str.ofString "=B3") 921) :: (PySem.Value.str (PySem.Str.ofString "=B4") 925) :: (PySem.Value.str (PySem.Str.ofString "=B5") 929) :: (PySem.Value.str (PySem.Str.ofString "=B6") 933) :: (PySem.Value.str (PySem.Str.ofString "=B7") 937) :: (PySem.Value.str (PySem.Str.ofString "=B8") 941) :: (PySem.Value.str (PySem.Str.ofString "=B9") 945) :: (PySem.Value.str (PySem.Str.ofString "=BA") 949) :: (PySem.Value.str (PySem.Str.ofString "=BB") 953) :: (PySem.Value.str (PySem.Str.ofString "=BC") 957) :: (PySem.Value.str (PySem.Str.ofString "=BD") 961) :: (PySem.Value.str (PySem.Str.ofString "=BE") 965) :: (PySem.Value.str (PySem.Str.ofString "=BF") 969) :: (PySem.Value.str (PySem.Str.ofString "=C0") 973) :: (PySem.Value.str (PySem.Str.ofString "=C1") 977) :: (PySem.Value.str (PySem.Str.ofString "=C2") 981) :: (PySem.Value.str (PySem.Str.ofString "=C3") 985) :: (PySem.Value.str (PySem.Str.ofString "=C4") 989) :: (PySem.Value.str (PySem.Str.ofString "=C5") 993) :: (PySem.Value.str (PySem.Str.ofString "=C6") 997) :: (PySem.Value.str (PySem.Str.ofString "=C7") 1001) :: (PySem.Value.str (PySem.Str.ofString "=C8") 1005) :: (PySem.Value.str (PySem.Str.ofString "=C9") 1009) :: (PySem.Value.str (PySem.Str.ofString "=CA") 1013) :: (PySem.Value.str (PySem.Str.ofString "=CB") 1017) :: (PySem.Value.str (PySem.Str.ofString "=CC") 1021) :: (PySem.Value.str (PySem.Str.ofString "=CD") 1025) :: (PySem.Value.str (PySem.Str.ofString "=CE") 1029) :: (PySem.Value.str (PySem.Str.ofString "=CF") 1033) :: (PySem.Value.str (PySem.Str.ofString "=D0") 1037) :: (PySem.Value.str (PySem.Str.ofString "=D1") 1041) :: (PySem.Value.str (PySem.Str.ofString "=D2") 1045) :: (PySem.Value.str (PySem.Str.ofString "=D3") 1049) :: (PySem.Value.str (PySem.Str.ofString "=D4") 1053) :: (PySem.Value.str (PySem.Str.ofString "=D5") 1057) :: (PySem.Value.str (PySem.Str.ofString "=D6") 1061) :: (PySem.Value.str (PySem.Str.ofString "=D7") 1065) :: (PySem.Value.str (PySem.Str.ofString "=D8") 1069) :: (PySem.Value.str (PySem.Str.ofString "=D9") 1073) :: (PySem.Value.str (PySem.Str.ofString "=DA") 1077) :: (PySem.Value.str (PySem.Str.ofString "=DB") 1081) :: (PySem.Value.str (PySem.Str.ofString "=DC") 1085) :: (PySem.Value.str (PySem.Str.ofString "=DD") 1089) :: (PySem.Value.str (PySem.Str.ofString "=DE") 1093) :: (PySem.Value.str (PySem.Str.ofString "=DF") 1097) :: (PySem.Value.str (PySem.Str.ofString "=E0") 1101) :: (PySem.Value.str (PySem.Str.ofString "=E1") 1105) :: (PySem.Value.str (PySem.Str.ofString "=E2") 1109) :: (PySem.Value.str (PySem.Str.ofString "=E3") 1113) :: (PySem.Value.str (PySem.Str.ofString "=E4") 1117) :: (PySem.Value.str (PySem.Str.ofString "=E5") 1121) :: (PySem.Value.str (PySem.Str.ofString "=E6") 1125) :: (PySem.Value.str (PySem.Str.ofString "=E7") 1129) :: (PySem.Value.str (PySem.Str.ofString "=E8") 1133) :: (PySem.Value.str (PySem.Str.ofString "=E9") 1137) :: (PySem.Value.str (PySem.Str.ofString "=EA") 1141) :: (PySem.Value.str (PySem.Str.ofString "=EB") 1145) :: (PySem.Value.str (PySem.Str.ofString "=EC") 1149) :: (PySem.Value.str (PySem.Str.ofString "=ED") 1153) :: (PySem.Value.str (PySem.Str.ofString "=EE") 1157) :: (PySem.Value.str (PySem.Str.ofString "=EF") 1161) :: (PySem.Value.str (PySem.Str.ofString "=F0") 1165) :: (PySem.Value.str (PySem.Str.ofString "=F1") 1169) :: (PySem.Value.str (PySem.Str.ofString "=F2") 1173) :: (PySem.Value.str (PySem.Str.ofString "=F3") 1177) :: (PySem.Value.str (PySem.Str.ofString "=F4") 1181) :: (PySem.Value.str (PySem.Str.ofString "=F5") 1185) :: (PySem.Value.str (PySem.Str.ofString "=F6") 1189) :: (PySem.Value.str (PySem.Str.ofString "=F7") 1193) :: (PySem.Value.str (PySem.Str.ofString "=F8") 1197) :: (PySem.Value.str (PySem.Str.ofString "=F9") 1201) :: (PySem.Value.str (PySem.Str.ofString "=FA") 1205) :: (PySem.Value.str (PySem.Str.ofString "=FB") 1209) :: (PySem.Value.str (PySem.Str.ofString "=FC") 1213) :: (PySem.Value.str (PySem.Str.ofString "=FD") 1217) :: (PySem.Value.str (PySem.Str.ofString "=FE") 1221) :: (PySem.Value.str (PySem.Str.ofString "=FF") 1225) :: [])) 0) #[])
noncomputable abbrev hO96 (P : PySem.Params) : PySem.Obj := (PySem.Obj.mk (PySem.Value.type "bytes_iterator") none (PySem.Data.fields #[PySem.Value.none, (PySem.Value.int (@OfNat.ofNat.{0} @Int 2 (@instOfNat 2)) 0)]) #[])
noncomputable abbrev hO97 (P : PySem.Params) : PySem.Obj := (PySem.Obj.mk (PySem.Value.type "tuple") none (PySem.Data.seq #[] 0) #[])
noncomputable abbrev hO98 (P : PySem.Params) : PySem.Obj := (PySem.Obj.mk (PySem.Value.type "StopIteration") none (PySem.Data.fields #[(PySem.Value.ref 55), PySem.Value.none, PySem.Value.none, PySem.Value.none, (PySem.Value.bool Bool.false), PySem.Value.none]) #[])
noncomputable abbrev hO99 (P : PySem.Params) : PySem.Obj := (PySem.Obj.mk (PySem.Value.type "tuple") none (PySem.Data.seq #[(PySem.Value.str (PySem.Str.ofString "\n") 197)] 0) #[])
noncomputable abbrev hO100 (P : PySem.Params) : PySem.Obj := (PySem.Obj.mk (PySem.Value.type "tuple") none (PySem.Data.seq #[] 0) #[])
noncomputable abbrev hO101 (P : PySem.Params) : PySem.Obj := (PySem.Obj.mk PySem.Value.none none (PySem.Data.fields #[]) #[])
noncomputable abbrev hO102 (P : PySem.Params) : PySem.Obj := (PySem.Obj.mk (PySem.Value.type "tuple") none (PySem.Data.seq #[(PySem.Value.str (PySem.Str.ofString "encoded") 1766), (PySem.Value.str (PySem.Str.ofString "eol") 1767), (PySem.Value.str (PySem.Str.ofString "decoded") 1768), (PySem.Value.str (PySem.Str.ofString "line") 1769), (PySem.Value.str (PySem.Str.ofString "i") 1770), (PySem.Value.str (PySem.Str.ofString "n") 1771), (PySem.Value.str (PySem.Str.ofString "c") 1772)] 0) #[])
noncomputable abbrev hO103 (P : PySem.Params) : PySem.Obj := (PySem.Obj.mk (PySem.Value.type "tuple") none (PySem.Data.seq #[] 0) #[])
noncomputable abbrev hO104 (P : PySem.Params) : PySem.Obj := (PySem.Obj.mk PySem.Value.none none (PySem.Data.func (PySem.FuncData.mk (PySem.Str.ofString "decode") (PySem.Str.ofString "decode") (Mine.hFnA 20) (PySem.FuncBody.stmts (Mine.hFnB 20)) (Mine.hFnC 20) 0 [] PySem.Value.none PySem.Value.none PySem.Value.none PySem.Value.none none PySem.Value.none PySem.Value.none 0)) #[])
noncomputable abbrev hO105 (P : PySem.Params) : PySem.Obj := (PySem.Obj.mk (PySem.Value.type "code") none (PySem.Data.fields #[(PySem.Value.str (PySem.Str.ofString "decode") 1763), (PySem.Value.str (PySem.Str.ofString "decode") 1764), (PySem.Value.str (PySem.Str.ofString "/claim/cut.py") 1765), (PySem.Value.int (@OfNat.ofNat.{0} @Int 30 (@instOfNat 30)) 0), (PySem.Value.int (@OfNat.ofNat.{0} @Int 2 (@instOfNat 2)) 0), (PySem.Value.int (@OfNat.ofNat.{0} @Int 0 (@instOfNat 0)) 0), (PySem.Value.int (@OfNat.ofNat.{0} @Int 0 (@instOfNat 0)) 0), (PySem.Value.int (@OfNat.ofNat.{0} @Int 3 (@instOfNat 3)) 0), (PySem.Value.ref 58), (PySem.Value.bool Bool.true), (PySem.Value.int (@OfNat.ofNat.{0} @Int 181 (@instOfNat 181)) 0), (PySem.Value.ref 59), PySem.Value.none, (PySem.Value.ref 60), (PySem.Value.ref 61), (PySem.Value.ref 62), (PySem.Value.int (@OfNat.ofNat.{0} @Int 1773 (@instOfNat 1773)) 0), (PySem.Value.int (@OfNat.ofNat.{0} @Int 30 (@instOfNat 30)) 0), (PySem.Value.str (PySem.Str.ofString "/claim/cut.py") 1774)]) #[])
noncomputable abbrev hO106 (P : PySem.Params) : PySem.Obj := (PySem.Obj.mk (PySem.Value.type "function") none (PySem.Data.func (PySem.FuncData.mk (PySem.Str.ofString "decode") (PySem.Str.ofString "decode") (Mine.hFnA 20) (PySem.FuncBody.stmts (Mine.hFnB 20)) (Mine.hFnC 20) 3 [] (PySem.Value.ref 57) PySem.Value.none PySem.Value.none (PySem.Value.str (PySem.Str.ofString "cpy313.email.quoprimime") 1242) none (PySem.Value.ref 63) PySem.Value.none 0)) #[])
noncomputable abbrev hO107 (P : PySem.Params) : PySem.Obj := (PySem.Obj.mk (PySem.Value.type "tuple") none (PySem.Data.seq #[] 0) #[])
noncomputable abbrev hO108 (P : PySem.Params) : PySem.Obj := (PySem.Obj.mk PySem.Value.none none (PySem.Data.fields #[]) #[])
noncomputable abbrev hO109 (P : PySem.Params) : PySem.Obj := (PySem.Obj.mk PySem.Value.none none (PySem.Data.func (PySem.FuncData.mk (PySem.Str.ofString "_law_numbers") (PySem.Str.ofString "_law_numbers") (Mine.hFnA 22) (PySem.FuncBody.stmts (Mine.hFnB 22)) (Mine.hFnC 22) 0 [] PySem.Value.none PySem.Value.none PySem.Value.none PySem.Value.none none PySem.Value.none PySem.Value.none 0)) #[])
noncomputable abbrev hO110 (P : PySem.Params) : PySem.Obj := (PySem.Obj.mk (PySem.Value.type "code") none (PySem.Data.fields #[(PySem.Value.str (PySem.Str.ofString "_law_numbers") 1778), (PySem.Value.str (PySem.Str.ofString "_law_numbers") 1779), (PySem.Value.str (PySem.Str.ofString "/claim/cut.py") 1780), (PySem.Value.int (@OfNat.ofNat.{0} @Int 61 (@instOfNat 61)) 0), (PySem.Value.int (@OfNat.ofNat.{0} @Int 1 (@instOfNat 1)) 0), (PySem.Value.int (@OfNat.ofNat.{0} @Int 0 (@instOfNat 0)) 0), (PySem.Value.int (@OfNat.ofNat.{0} @Int 0 (@instOfNat 0)) 0), (PySem.Value.int (@OfNat.ofNat.{0} @Int 3 (@instOfNat 3)) 0), (PySem.Value.ref 65), (PySem.Value.bool Bool.true), (PySem.Value.int (@OfNat.ofNat.{0} @Int 181 (@instOfNat 181)) 0), (PySem.Value.ref 66), PySem.Value.none, PySem.Value.none, PySem.Value.none, (PySem.Value.ref 67), (PySem.Value.int (@OfNat.ofNat.{0} @Int 1781 (@instOfNat 1781)) 0), (PySem.Value.int (@OfNat.ofNat.{0} @Int 61 (@instOfNat 61)) 0), (PySem.Value.str (PySem.Str.ofString "/claim/cut.py") 1782)]) #[])
noncomputable abbrev hO111 (P : PySem.Params) : PySem.Obj := (PySem.Obj.mk (PySem.Value.type "function") none (PySem.Data.func (PySem.FuncData.mk (PySem.Str.ofString "_law_numbers") (PySem.Str.ofString "_law_numbers") (Mine.hFnA 22) (PySem.FuncBody.stmts (Mine.hFnB 22)) (Mine.hFnC 22) 3 [] PySem.Value.none PySem.Value.none PySem.Value.none (PySem.Value.str (PySem.Str.ofString "law_tx0009_01") 1776) none (PySem.Value.ref 68) PySem.Value.none 0)) #[])
noncomputable abbrev hO112 (P : PySem.Params) : PySem.Obj := (PySem.Obj.mk (PySem.Value.type "tuple") none (PySem.Data.seq #[] 0) #[])
noncomputable abbrev hO113 (P : PySem.Params) : PySem.Obj := (PySem.Obj.mk PySem.Value.none none (PySem.Data.fields #[]) #[])
noncomputable abbrev hO114 (P : PySem.Params) : PySem.Obj := (PySem.Obj.mk PySem.Value.none none (PySem.Data.func (PySem.FuncData.mk (PySem.Str.ofString "_law_order") (PySem.Str.ofString "_law_order") (Mine.hFnA 23) (PySem.FuncBody.stmts (Mine.hFnB 23)) (Mine.hFnC 23) 0 [] PySem.Value.none PySem.Value.none PySem.Value.none PySem.Value.none none PySem.Value.none PySem.Value.none 0)) #[])
noncomputable abbrev hO115 (P : PySem.Params) : PySem.Obj := (PySem.Obj.mk (PySem.Value.type "code") none (PySem.Data.fields #[(PySem.Value.str (PySem.Str.ofString "_law_order") 1784), (PySem.Value.str (PySem.Str.ofString "_law_order") 1785), (PySem.Value.str (PySem.Str.ofString "/claim/cut.py") 1786), (PySem.Value.int (@OfNat.ofNat.{0} @Int 65 (@instOfNat 65)) 0), (PySem.Value.int (@OfNat.ofNat.{0} @Int 1 (@instOfNat 1)) 0), (PySem.Value.int (@OfNat.ofNat.{0} @Int 0 (@instOfNat 0)) 0), (PySem.Value.int (@OfNat.ofNat.{0} @Int 0 (@instOfNat 0)) 0), (PySem.Value.int (@OfNat.ofNat.{0} @Int 3 (@instOfNat 3)) 0), (PySem.Value.ref 70), (PySem.Value.bool Bool.true), (PySem.Value.int (@OfNat.ofNat.{0} @Int 181 (@instOfNat 181)) 0), (PySem.Value.ref 71), PySem.Value.none, PySem.Value.none, PySem.Value.none, (PySem.Value.ref 72), (PySem.Value.int (@OfNat.ofNat.{0} @Int 1787 (@instOfNat 1787)) 0), (PySem.Value.int (@OfNat.ofNat.{0} @Int 65 (@instOfNat 65)) 0), (PySem.Value.str (PySem.Str.ofString "/claim/cut.py") 1788)]) #[])
noncomputable abbrev hO116 (P : PySem.Params) : PySem.Obj := (PySem.Obj.mk (PySem.Value.type "function") none (PySem.Data.func (PySem.FuncData.mk (PySem.Str.ofString "_law_order") (PySem.Str.ofString "_law_order") (Mine.hFnA 23) (PySem.FuncBody.stmts (Mine.hFnB 23)) (Mine.hFnC 23) 3 [] PySem.Value.none PySem.Value.none PySem.Value.none (PySem.Value.str (PySem.Str.ofString "law_tx0009_01") 1776) none (PySem.Value.ref 73) PySem.Value.none 0)) #[])
noncomputable abbrev hO117 (P : PySem.Params) : PySem.Obj := (PySem.Obj.mk (PySem.Value.type "tuple") none (PySem.Data.seq #[] 0) #[])
noncomputable abbrev hO118 (P : PySem.Params) : PySem.Obj := (PySem.Obj.mk PySem.Value.none none (PySem.Data.fields #[]) #[])
noncomputable abbrev hO119 (P : PySem.Params) : PySem.Obj := (PySem.Obj.mk (PySem.Value.type "tuple") none (PySem.Data.seq #[(PySem.Value.str (PySem.Str.ofString "places") 1793), (PySem.Value.str (PySem.Str.ofString "ranks") 1794), (PySem.Value.str (PySem.Str.ofString "signs") 1795), (PySem.Value.str (PySem.Str.ofString "free") 1796), (PySem.Value.str (PySem.Str.ofString "rounds") 1797), (PySem.Value.str (PySem.Str.ofString "bare") 1798), (PySem.Value.str (PySem.Str.ofString "road") 1799), (PySem.Value.str (PySem.Str.ofString "j") 1800), (PySem.Value.str (PySem.Str.ofString "best") 1801), (PySem.Value.str (PySem.Str.ofString "late") 1802), (PySem.Value.str (PySem.Str.ofString "i") 1803)] 0) #[])
noncomputable abbrev hO120 (P : PySem.Params) : PySem.Obj := (PySem.Obj.mk (PySem.Value.type "tuple") none (PySem.Data.seq #[] 0) #[])
noncomputable abbrev hO121 (P : PySem.Params) : PySem.Obj := (PySem.Obj.mk PySem.Value.none none (PySem.Data.func (PySem.FuncData.mk (PySem.Str.ofString "_law_road") (PySem.Str.ofString "_law_road") (Mine.hFnA 24) (PySem.FuncBody.stmts (Mine.hFnB 24)) (Mine.hFnC 24) 0 [] PySem.Value.none PySem.Value.none PySem.Value.none PySem.Value.none none PySem.Value.none PySem.Value.none 0)) #[])
noncomputable abbrev hO122 (P : PySem.Params) : PySem.Obj := (PySem.Obj.mk (PySem.Value.type "code") none (PySem.Data.fields #[(PySem.Value.str (PySem.Str.ofString "_law_road") 1790), (PySem.Value.str (PySem.Str.ofString "_law_road") 1791), (PySem.Value.str (PySem.Str.ofString "/claim/cut.py") 1792), (PySem.Value.int (@OfNat.ofNat.{0} @Int 71 (@instOfNat 71)) 0), (PySem.Value.int (@OfNat.ofNat.{0} @Int 6 (@instOfNat 6)) 0), (PySem.Value.int (@OfNat.ofNat.{0} @Int 0 (@instOfNat 0)) 0), (PySem.Value.int (@OfNat.ofNat.{0} @Int 0 (@instOfNat 0)) 0), (PySem.Value.int (@OfNat.ofNat.{0} @Int 3 (@instOfNat 3)) 0), (PySem.Value.ref 75), (PySem.Value.bool Bool.true), (PySem.Value.int (@OfNat.ofNat.{0} @Int 181 (@instOfNat 181)) 0), (PySem.Value.ref 76), PySem.Value.none, (PySem.Value.ref 77), (PySem.Value.ref 78), (PySem.Value.ref 79), (PySem.Value.int (@OfNat.ofNat.{0} @Int 1804 (@instOfNat 1804)) 0), (PySem.Value.int (@OfNat.ofNat.{0} @Int 71 (@instOfNat 71)) 0), (PySem.Value.str (PySem.Str.ofString "/claim/cut.py") 1805)]) #[])
noncomputable abbrev hO123 (P : PySem.Params) : PySem.Obj := (PySem.Obj.mk (PySem.Value.type "function") none (PySem.Data.func (PySem.FuncData.mk (PySem.Str.ofString "_law_road") (PySem.Str.ofString "_law_road") (Mine.hFnA 24) (PySem.FuncBody.stmts (Mine.hFnB 24)) (Mine.hFnC 24) 3 [] PySem.Value.none PySem.Value.none PySem.Value.none (PySem.Value.str (PySem.Str.ofString "law_tx0009_01") 1776) none (PySem.Value.ref 80) PySem.Value.none 0)) #[])
noncomputable abbrev hO124 (P : PySem.Params) : PySem.Obj := (PySem.Obj.mk (PySem.Value.type "tuple") none (PySem.Data.seq #[] 0) #[])
noncomputable abbrev hO125 (P : PySem.Params) : PySem.Obj := (PySem.Obj.mk PySem.Value.none none (PySem.Data.fields #[]) #[])
noncomputable abbrev hO126 (P : PySem.Params) : PySem.Obj := (PySem.Obj.mk PySem.Value.none none (PySem.Data.func (PySem.FuncData.mk (PySem.Str.ofString "law") (PySem.Str.ofString "law") (Mine.hFnA 25) (PySem.FuncBody.stmts (Mine.hFnB 25)) (Mine.hFnC 25) 0 [] PySem.Value.none PySem.Value.none PySem.Value.none PySem.Value.none none PySem.Value.none PySem.Value.none 0)) #[])
noncomputable abbrev hO127 (P : PySem.Params) : PySem.Obj := (PySem.Obj.mk (PySem.Value.type "code") none (PySem.Data.fields #[(PySem.Value.str (PySem.Str.ofString "law") 1807), (PySem.Value.str (PySem.Str.ofString "law") 1808), (PySem.Value.str (PySem.Str.ofString "/claim/cut.py") 1809), (PySem.Value.int (@OfNat.ofNat.{0} @Int 84 (@instOfNat 84)) 0), (PySem.Value.int (@OfNat.ofNat.{0} @Int 1 (@instOfNat 1)) 0), (PySem.Value.int (@OfNat.ofNat.{0} @Int 0 (@instOfNat 0)) 0), (PySem.Value.int (@OfNat.ofNat.{0} @Int 0 (@instOfNat 0)) 0), (PySem.Value.int (@OfNat.ofNat.{0} @Int 3 (@instOfNat 3)) 0), (PySem.Value.ref 82), (PySem.Value.bool Bool.true), (PySem.Value.int (@OfNat.ofNat.{0} @Int 181 (@instOfNat 181)) 0), (PySem.Value.ref 83), PySem.Value.none, PySem.Value.none, PySem.Value.none, (PySem.Value.ref 84), (PySem.Value.int (@OfNat.ofNat.{0} @Int 1810 (@instOfNat 1810)) 0), (PySem.Value.int (@OfNat.ofNat.{0} @Int 84 (@instOfNat 84)) 0), (PySem.Value.str (PySem.Str.ofString "/claim/cut.py") 1811)]) #[])
noncomputable abbrev hO128 (P : PySem.Params) : PySem.Obj := (PySem.Obj.mk (PySem.Value.type "function") none (PySem.Data.func (PySem.FuncData.mk (PySem.Str.ofString "law") (PySem.Str.ofString "law") (Mine.hFnA 25) (PySem.FuncBody.stmts (Mine.hFnB 25)) (Mine.hFnC 25) 3 [] PySem.Value.none PySem.Value.none PySem.Value.none (PySem.Value.str (PySem.Str.ofString "law_tx0009_01") 1776) none (PySem.Value.ref 85) PySem.Value.none 0)) #[])
noncomputable abbrev hT129 (P : PySem.Params) : PySem.W.BT := (PySem.W.BT.node (@PySem.W.boot_o_0 P) (PySem.W.BT.node (@PySem.W.boot_o_1 P) (PySem.W.BT.node (@Mine.hO78 P) (PySem.W.BT.node (@PySem.W.boot_o_7 P) (PySem.W.BT.node (@Mine.hO15 P) (PySem.W.BT.node (@Mine.hO72 P) (PySem.W.BT.node (@Mine.hO105 P) PySem.W.BT.nil PySem.W.BT.nil) PySem.W.BT.nil) (PySem.W.BT.node (@Mine.hO89 P) (PySem.W.BT.node (@Mine.hO121 P) PySem.W.BT.nil PySem.W.BT.nil) PySem.W.BT.nil)) (PySem.W.BT.node (@Mine.hO47 P) (PySem.W.BT.node (@Mine.hO81 P) (PySem.W.BT.node (@Mine.hO113 P) PySem.W.BT.nil PySem.W.BT.nil) PySem.W.BT.nil) (PySem.W.BT.node (@Mine.hO97 P) PySem.W.BT.nil PySem.W.BT.nil))) (PySem.W.BT.node (@Mine.hO6 P) (PySem.W.BT.node (@Mine.hO19 P) (PySem.W.BT.node (@Mine.hO73 P) (PySem.W.BT.node (@Mine.hO109 P) PySem.W.BT.nil PySem.W.BT.nil) PySem.W.BT.nil) (PySem.W.BT.node (@Mine.hO93 P) (PySem.W.BT.node (@Mine.hO125 P) PySem.W.BT.nil PySem.W.BT.nil) PySem.W.BT.nil)) (PySem.W.BT.node (@Mine.hO51 P) (PySem.W.BT.node (@Mine.hO85 P) (PySem.W.BT.node (@Mine.hO117 P) PySem.W.BT.nil PySem.W.BT.nil) PySem.W.BT.nil) (PySem.W.BT.node (@Mine.hO101 P) PySem.W.BT.nil PySem.W.BT.nil)))) (PySem.W.BT.node (@PySem.W.boot_o_5 P) (PySem.W.BT.node (@PySem.W.boot_o_9 P) (PySem.W.BT.node (@Mine.hO17 P) (PySem.W.BT.node (@Mine.hO64 P) (PySem.W.BT.node (@Mine.hO107 P) PySem.W.BT.nil PySem.W.BT.nil) PySem.W.BT.nil) (PySem.W.BT.node (@Mine.hO91 P) (PySem.W.BT.node (@Mine.hO123 P) PySem.W.BT.nil PySem.W.BT.nil) PySem.W.BT.nil)) (PySem.W.BT.node (@Mine.hO49 P) (PySem.W.BT.node (@Mine.hO83 P) (PySem.W.BT.node (@Mine.hO115 P) PySem.W.BT.nil PySem.W.BT.nil) PySem.W.BT.nil) (PySem.W.BT.node (@Mine.hO99 P) PySem.W.BT.nil PySem.W.BT.nil))) (PySem.W.BT.node (@Mine.hO8 P) (PySem.W.BT.node (@Mine.hO21 P) (PySem.W.BT.node (@Mine.hO75 P) (PySem.W.BT.node (@Mine.hO111 P) PySem.W.BT.nil PySem.W.BT.nil) PySem.W.BT.nil) (PySem.W.BT.node (@Mine.hO95 P) (PySem.W.BT.node (@Mine.hO127 P) PySem.W.BT.nil PySem.W.BT.nil) PySem.W.BT.nil)) (PySem.W.BT.node (@Mine.hO68 P) (PySem.W.BT.node (@Mine.hO87 P) (PySem.W.BT.node (@Mine.hO119 P) PySem.W.BT.nil PySem.W.BT.nil) PySem.W.BT.nil) (PySem.W.BT.node (@Mine.hO103 P) PySem.W.BT.nil PySem.W.BT.nil))))) (PySem.W.BT.node (@PySem.W.boot_o_2 P) (PySem.W.BT.node (@PySem.W.boot_o_4 P) (PySem.W.BT.node (@PySem.W.boot_o_8 P) (PySem.W.BT.node (@Mine.hO16 P) (PySem.W.BT.node (@Mine.hO63 P) (PySem.W.BT.node (@Mine.hO106 P) PySem.W.BT.nil PySem.W.BT.nil) PySem.W.BT.nil) (PySem.W.BT.node (@Mine.hO90 P) (PySem.W.BT.node (@Mine.hO122 P) PySem.W.BT.nil PySem.W.BT.nil) PySem.W.BT.nil)) (PySem.W.BT.node (@Mine.hO48 P) (PySem.W.BT.node (@Mine.hO82 P) (PySem.W.BT.node (@Mine.hO114 P) PySem.W.BT.nil PySem.W.BT.nil) PySem.W.BT.nil) (PySem.W.BT.node (@Mine.hO98 P) PySem.W.BT.nil PySem.W.BT.nil))) (PySem.W.BT.node (@Mine.hO79 P) (PySem.W.BT.node (@Mine.hO20 P) (PySem.W.BT.node (@Mine.hO74 P) (PySem.W.BT.node (@Mine.hO110 P) PySem.W.BT.nil PySem.W.BT.nil) PySem.W.BT.nil) (PySem.W.BT.node (@Mine.hO94 P) (PySem.W.BT.node (@Mine.hO126 P) PySem.W.BT.nil PySem.W.BT.nil) PySem.W.BT.nil)) (PySem.W.BT.node (@Mine.hO55 P) (PySem.W.BT.node (@Mine.hO86 P) (PySem.W.BT.node (@Mine.hO118 P) PySem.W.BT.nil PySem.W.BT.nil) PySem.W.BT.nil) (PySem.W.BT.node (@Mine.hO102 P) PySem.W.BT.nil PySem.W.BT.nil)))) (PySem.W.BT.node (@PySem.W.boot_o_6 P) (PySem.W.BT.node (@PySem.W.boot_o_10 P) (PySem.W.BT.node (@Mine.hO18 P) (PySem.W.BT.node (@Mine.hO65 P) (PySem.W.BT.node (@Mine.hO108 P) PySem.W.BT.nil PySem.W.BT.nil) PySem.W.BT.nil) (PySem.W.BT.node (@Mine.hO92 P) (PySem.W.BT.node (@Mine.hO124 P) PySem.W.BT.nil PySem.W.BT.nil) PySem.W.BT.nil)) (PySem.W.BT.node (@Mine.hO50 P) (PySem.W.BT.node (@Mine.hO84 P) (PySem.W.BT.node (@Mine.hO116 P) PySem.W.BT.nil PySem.W.BT.nil) PySem.W.BT.nil) (PySem.W.BT.node (@Mine.hO100 P) PySem.W.BT.nil PySem.W.BT.nil))) (PySem.W.BT.node (@Mine.hO9 P) (PySem.W.BT.node (@Mine.hO46 P) (PySem.W.BT.node (@Mine.hO80 P) (PySem.W.BT.node (@Mine.hO112 P) PySem.W.BT.nil PySem.W.BT.nil) PySem.W.BT.nil) (PySem.W.BT.node (@Mine.hO96 P) (PySem.W.BT.node (@Mine.hO128 P) PySem.W.BT.nil PySem.W.BT.nil) PySem.W.BT.nil)) (PySem.W.BT.node (@Mine.hO57 P) (PySem.W.BT.node (@Mine.hO88 P) (PySem.W.BT.node (@Mine.hO120 P) PySem.W.BT.nil PySem.W.BT.nil) PySem.W.BT.nil) (PySem.W.BT.node (@Mine.hO104 P) PySem.W.BT.nil PySem.W.BT.nil))))))
theorem hRun6_0q (w : PySem.World) : (@Eq.{1} (∀ (x0 : @PySem.OsState), (@Option.{0} (@Prod.{0, 0} @PySem.Flow (@Prod.{0, 0} @PySem.W.SharedT (@Prod.{0, 0} @PySem.Code @PySem.Pos))))) (fun (x0 : @PySem.OsState) => (@PySem.W.Fast.tw10110043849684766642 @PySem.W.Fast.tw14364793385576792824 @Mine.hProg (@PySem.World.withFollow w "special-get-raises" Bool.false) 11 (some (PySem.Value.ref 6)) 1 392 (PySem.W.SharedT.mk (@Mine.hT76 (@PySem.World.params (@PySem.World.withFollow w "special-get-raises" Bool.false))) 38 (PySem.Life.mk [] [] [] 0 [] [] Bool.false #[] [] 0 Bool.false Bool.false Bool.false (@OfNat.ofNat.{0} @Int 0 (@instOfNat 0)) [(@OfNat.ofNat.{0} @Int 2000 (@instOfNat 2000)), (@OfNat.ofNat.{0} @Int 10 (@instOfNat 10)), (@OfNat.ofNat.{0} @Int 10 (@instOfNat 10))] Bool.false 0 Bool.true [] [] 0 Bool.false) (Array.mk []) (PySem.Drawn.mk 0 0 0 0) 1741 x0) (@PySem.W.piecesOf @Mine.hSts6 @Mine.hEnv (PySem.Code.body (@PySem.W.behindTheImports @Mine.hProg) @Mine.hEnv) (PySem.Pos.mk 20 9 20 110) [(@PySem.W.topFrame (PySem.Pos.mk 0 0 0 0))]))) (fun (x0 : @PySem.OsState) => (some (PySem.Flow.next, ((PySem.W.SharedT.mk (@Mine.hT129 (@PySem.World.params (@PySem.World.withFollow w "special-get-raises" Bool.false))) 87 (PySem.Life.mk [] [] [] 0 [] [] Bool.false #[] [] 0 Bool.false Bool.false Bool.false (@OfNat.ofNat.{0} @Int 0 (@instOfNat 0)) [(@OfNat.ofNat.{0} @Int 2000 (@instOfNat 2000)), (@OfNat.ofNat.{0} @Int 10 (@instOfNat 10)), (@OfNat.ofNat.{0} @Int 10 (@instOfNat 10))] Bool.false 0 Bool.true [] [] 0 Bool.false) (Array.mk []) (PySem.Drawn.mk 0 0 0 0) 1813 x0), ((PySem.Code.body (@PySem.W.behindTheImports @Mine.hProg) @Mine.hEnv), (PySem.Pos.mk 84 0 106 15))))))) := by kernel_rfl
theorem hRun6_0 (w : PySem.World) : (@Eq.{1} (∀ (x0 : @PySem.OsState), (@Option.{0} (@Prod.{0, 0} @PySem.Flow (@Prod.{0, 0} @PySem.W.SharedT (@Prod.{0, 0} @PySem.Code @PySem.Pos))))) (fun (x0 : @PySem.OsState) => (@PySem.W.segRunT @PySem.treeTable @Mine.hProg (@PySem.World.withFollow w "special-get-raises" Bool.false) 11 (some (PySem.Value.ref 6)) 1 392 (PySem.W.SharedT.mk (@Mine.hT76 (@PySem.World.params (@PySem.World.withFollow w "special-get-raises" Bool.false))) 38 (PySem.Life.mk [] [] [] 0 [] [] Bool.false #[] [] 0 Bool.false Bool.false Bool.false (@OfNat.ofNat.{0} @Int 0 (@instOfNat 0)) [(@OfNat.ofNat.{0} @Int 2000 (@instOfNat 2000)), (@OfNat.ofNat.{0} @Int 10 (@instOfNat 10)), (@OfNat.ofNat.{0} @Int 10 (@instOfNat 10))] Bool.false 0 Bool.true [] [] 0 Bool.false) (Array.mk []) (PySem.Drawn.mk 0 0 0 0) 1741 x0) (@PySem.W.piecesOf @Mine.hSts6 @Mine.hEnv (PySem.Code.body (@PySem.W.behindTheImports @Mine.hProg) @Mine.hEnv) (PySem.Pos.mk 20 9 20 110) [(@PySem.W.topFrame (PySem.Pos.mk 0 0 0 0))]))) (fun (x0 : @PySem.OsState) => (some (PySem.Flow.next, ((PySem.W.SharedT.mk (@Mine.hT129 (@PySem.World.params (@PySem.World.withFollow w "special-get-raises" Bool.false))) 87 (PySem.Life.mk [] [] [] 0 [] [] Bool.false #[] [] 0 Bool.false Bool.false Bool.false (@OfNat.ofNat.{0} @Int 0 (@instOfNat 0)) [(@OfNat.ofNat.{0} @Int 2000 (@instOfNat 2000)), (@OfNat.ofNat.{0} @Int 10 (@instOfNat 10)), (@OfNat.ofNat.{0} @Int 10 (@instOfNat 10))] Bool.false 0 Bool.true [] [] 0 Bool.false) (Array.mk []) (PySem.Drawn.mk 0 0 0 0) 1813 x0), ((PySem.Code.body (@PySem.W.behindTheImports @Mine.hProg) @Mine.hEnv), (PySem.Pos.mk 84 0 106 15))))))) := by
  rw [PySem.W.Fast.te10110043849684766642, PySem.W.Fast.te14364793385576792824]
  exact hRun6_0q w
theorem hRun6_1q (w : PySem.World) : (@Eq.{1} (∀ (x0 : @PySem.OsState), (@Option.{0} (@Prod.{0, 0} @PySem.Flow (@Prod.{0, 0} @PySem.W.SharedT (@Prod.{0, 0} @PySem.Code @PySem.Pos))))) (fun (x0 : @PySem.OsState) => (@PySem.W.Fast.tw10110043849684766642 @PySem.W.Fast.tw14364793385576792824 @Mine.hProg (@PySem.World.withFollow w "special-get-raises" Bool.true) 11 (some (PySem.Value.ref 6)) 1 392 (PySem.W.SharedT.mk (@Mine.hT76 (@PySem.World.params (@PySem.World.withFollow w "special-get-raises" Bool.true))) 38 (PySem.Life.mk [] [] [] 0 [] [] Bool.false #[] [] 0 Bool.false Bool.false Bool.false (@OfNat.ofNat.{0} @Int 0 (@instOfNat 0)) [(@OfNat.ofNat.{0} @Int 2000 (@instOfNat 2000)), (@OfNat.ofNat.{0} @Int 10 (@instOfNat 10)), (@OfNat.ofNat.{0} @Int 10 (@instOfNat 10))] Bool.false 0 Bool.true [] [] 0 Bool.false) (Array.mk []) (PySem.Drawn.mk 0 0 0 0) 1741 x0) (@PySem.W.piecesOf @Mine.hSts6 @Mine.hEnv (PySem.Code.body (@PySem.W.behindTheImports @Mine.hProg) @Mine.hEnv) (PySem.Pos.mk 20 9 20 110) [(@PySem.W.topFrame (PySem.Pos.mk 0 0 0 0))]))) (fun (x0 : @PySem.OsState) => (some (PySem.Flow.next, ((PySem.W.SharedT.mk (@Mine.hT129 (@PySem.World.params (@PySem.World.withFollow w "special-get-raises" Bool.true))) 87 (PySem.Life.mk [] [] [] 0 [] [] Bool.false #[] [] 0 Bool.false Bool.false Bool.false (@OfNat.ofNat.{0} @Int 0 (@instOfNat 0)) [(@OfNat.ofNat.{0} @Int 2000 (@instOfNat 2000)), (@OfNat.ofNat.{0} @Int 10 (@instOfNat 10)), (@OfNat.ofNat.{0} @Int 10 (@instOfNat 10))] Bool.false 0 Bool.true [] [] 0 Bool.false) (Array.mk []) (PySem.Drawn.mk 0 0 0 0) 1813 x0), ((PySem.Code.body (@PySem.W.behindTheImports @Mine.hProg) @Mine.hEnv), (PySem.Pos.mk 84 0 106 15))))))) := by kernel_rfl
theorem hRun6_1 (w : PySem.World) : (@Eq.{1} (∀ (x0 : @PySem.OsState), (@Option.{0} (@Prod.{0, 0} @PySem.Flow (@Prod.{0, 0} @PySem.W.SharedT (@Prod.{0, 0} @PySem.Code @PySem.Pos))))) (fun (x0 : @PySem.OsState) => (@PySem.W.segRunT @PySem.treeTable @Mine.hProg (@PySem.World.withFollow w "special-get-raises" Bool.true) 11 (some (PySem.Value.ref 6)) 1 392 (PySem.W.SharedT.mk (@Mine.hT76 (@PySem.World.params (@PySem.World.withFollow w "special-get-raises" Bool.true))) 38 (PySem.Life.mk [] [] [] 0 [] [] Bool.false #[] [] 0 Bool.false Bool.false Bool.false (@OfNat.ofNat.{0} @Int 0 (@instOfNat 0)) [(@OfNat.ofNat.{0} @Int 2000 (@instOfNat 2000)), (@OfNat.ofNat.{0} @Int 10 (@instOfNat 10)), (@OfNat.ofNat.{0} @Int 10 (@instOfNat 10))] Bool.false 0 Bool.true [] [] 0 Bool.false) (Array.mk []) (PySem.Drawn.mk 0 0 0 0) 1741 x0) (@PySem.W.piecesOf @Mine.hSts6 @Mine.hEnv (PySem.Code.body (@PySem.W.behindTheImports @Mine.hProg) @Mine.hEnv) (PySem.Pos.mk 20 9 20 110) [(@PySem.W.topFrame (PySem.Pos.mk 0 0 0 0))]))) (fun (x0 : @PySem.OsState) => (some (PySem.Flow.next, ((PySem.W.SharedT.mk (@Mine.hT129 (@PySem.World.params (@PySem.World.withFollow w "special-get-raises" Bool.true))) 87 (PySem.Life.mk [] [] [] 0 [] [] Bool.false #[] [] 0 Bool.false Bool.false Bool.false (@OfNat.ofNat.{0} @Int 0 (@instOfNat 0)) [(@OfNat.ofNat.{0} @Int 2000 (@instOfNat 2000)), (@OfNat.ofNat.{0} @Int 10 (@instOfNat 10)), (@OfNat.ofNat.{0} @Int 10 (@instOfNat 10))] Bool.false 0 Bool.true [] [] 0 Bool.false) (Array.mk []) (PySem.Drawn.mk 0 0 0 0) 1813 x0), ((PySem.Code.body (@PySem.W.behindTheImports @Mine.hProg) @Mine.hEnv), (PySem.Pos.mk 84 0 106 15))))))) := by
  rw [PySem.W.Fast.te10110043849684766642, PySem.W.Fast.te14364793385576792824]
  exact hRun6_1q w
theorem hRun6 (w : PySem.World) : (@Eq.{1} (∀ (x0 : @PySem.OsState), (@Option.{0} (@Prod.{0, 0} @PySem.Flow (@Prod.{0, 0} @PySem.W.SharedT (@Prod.{0, 0} @PySem.Code @PySem.Pos))))) (fun (x0 : @PySem.OsState) => (@PySem.W.segRunT @PySem.treeTable @Mine.hProg w 11 (some (PySem.Value.ref 6)) 1 392 (PySem.W.SharedT.mk (@Mine.hT76 (@PySem.World.params w)) 38 (PySem.Life.mk [] [] [] 0 [] [] Bool.false #[] [] 0 Bool.false Bool.false Bool.false (@OfNat.ofNat.{0} @Int 0 (@instOfNat 0)) [(@OfNat.ofNat.{0} @Int 2000 (@instOfNat 2000)), (@OfNat.ofNat.{0} @Int 10 (@instOfNat 10)), (@OfNat.ofNat.{0} @Int 10 (@instOfNat 10))] Bool.false 0 Bool.true [] [] 0 Bool.false) (Array.mk []) (PySem.Drawn.mk 0 0 0 0) 1741 x0) (@PySem.W.piecesOf @Mine.hSts6 @Mine.hEnv (PySem.Code.body (@PySem.W.behindTheImports @Mine.hProg) @Mine.hEnv) (PySem.Pos.mk 20 9 20 110) [(@PySem.W.topFrame (PySem.Pos.mk 0 0 0 0))]))) (fun (x0 : @PySem.OsState) => (some (PySem.Flow.next, ((PySem.W.SharedT.mk (@Mine.hT129 (@PySem.World.params w)) 87 (PySem.Life.mk [] [] [] 0 [] [] Bool.false #[] [] 0 Bool.false Bool.false Bool.false (@OfNat.ofNat.{0} @Int 0 (@instOfNat 0)) [(@OfNat.ofNat.{0} @Int 2000 (@instOfNat 2000)), (@OfNat.ofNat.{0} @Int 10 (@instOfNat 10)), (@OfNat.ofNat.{0} @Int 10 (@instOfNat 10))] Bool.false 0 Bool.true [] [] 0 Bool.false) (Array.mk []) (PySem.Drawn.mk 0 0 0 0) 1813 x0), ((PySem.Code.body (@PySem.W.behindTheImports @Mine.hProg) @Mine.hEnv), (PySem.Pos.mk 84 0 106 15))))))) :=
  PySem.W.byRow2 "special-get-raises" (P := fun w => (@Eq.{1} (∀ (x0 : @PySem.OsState), (@Option.{0} (@Prod.{0, 0} @PySem.Flow (@Prod.{0, 0} @PySem.W.SharedT (@Prod.{0, 0} @PySem.Code @PySem.Pos))))) (fun (x0 : @PySem.OsState) => (@PySem.W.segRunT @PySem.treeTable @Mine.hProg w 11 (some (PySem.Value.ref 6)) 1 392 (PySem.W.SharedT.mk (@Mine.hT76 (@PySem.World.params w)) 38 (PySem.Life.mk [] [] [] 0 [] [] Bool.false #[] [] 0 Bool.false Bool.false Bool.false (@OfNat.ofNat.{0} @Int 0 (@instOfNat 0)) [(@OfNat.ofNat.{0} @Int 2000 (@instOfNat 2000)), (@OfNat.ofNat.{0} @Int 10 (@instOfNat 10)), (@OfNat.ofNat.{0} @Int 10 (@instOfNat 10))] Bool.false 0 Bool.true [] [] 0 Bool.false) (Array.mk []) (PySem.Drawn.mk 0 0 0 0) 1741 x0) (@PySem.W.piecesOf @Mine.hSts6 @Mine.hEnv (PySem.Code.body (@PySem.W.behindTheImports @Mine.hProg) @Mine.hEnv) (PySem.Pos.mk 20 9 20 110) [(@PySem.W.topFrame (PySem.Pos.mk 0 0 0 0))]))) (fun (x0 : @PySem.OsState) => (some (PySem.Flow.next, ((PySem.W.SharedT.mk (@Mine.hT129 (@PySem.World.params w)) 87 (PySem.Life.mk [] [] [] 0 [] [] Bool.false #[] [] 0 Bool.false Bool.false Bool.false (@OfNat.ofNat.{0} @Int 0 (@instOfNat 0)) [(@OfNat.ofNat.{0} @Int 2000 (@instOfNat 2000)), (@OfNat.ofNat.{0} @Int 10 (@instOfNat 10)), (@OfNat.ofNat.{0} @Int 10 (@instOfNat 10))] Bool.false 0 Bool.true [] [] 0 Bool.false) (Array.mk []) (PySem.Drawn.mk 0 0 0 0) 1813 x0), ((PySem.Code.body (@PySem.W.behindTheImports @Mine.hProg) @Mine.hEnv), (PySem.Pos.mk 84 0 106 15)))))))) hRun6_0 hRun6_1 w
noncomputable abbrev hH130 (P : PySem.Params) : PySem.Heap := (PySem.Heap.mk (Array.mk ((@PySem.W.boot_o_0 P) :: (@PySem.W.boot_o_1 P) :: (@PySem.W.boot_o_2 P) :: (@Mine.hO78 P) :: (@PySem.W.boot_o_4 P) :: (@PySem.W.boot_o_5 P) :: (@PySem.W.boot_o_6 P) :: (@PySem.W.boot_o_7 P) :: (@PySem.W.boot_o_8 P) :: (@PySem.W.boot_o_9 P) :: (@PySem.W.boot_o_10 P) :: (@Mine.hO6 P) :: (@Mine.hO79 P) :: (@Mine.hO8 P) :: (@Mine.hO9 P) :: (@Mine.hO15 P) :: (@Mine.hO16 P) :: (@Mine.hO17 P) :: (@Mine.hO18 P) :: (@Mine.hO19 P) :: (@Mine.hO20 P) :: (@Mine.hO21 P) :: (@Mine.hO46 P) :: (@Mine.hO47 P) :: (@Mine.hO48 P) :: (@Mine.hO49 P) :: (@Mine.hO50 P) :: (@Mine.hO51 P) :: (@Mine.hO55 P) :: (@Mine.hO68 P) :: (@Mine.hO57 P) :: (@Mine.hO72 P) :: (@Mine.hO63 P) :: (@Mine.hO64 P) :: (@Mine.hO65 P) :: (@Mine.hO73 P) :: (@Mine.hO74 P) :: (@Mine.hO75 P) :: (@Mine.hO80 P) :: (@Mine.hO81 P) :: (@Mine.hO82 P) :: (@Mine.hO83 P) :: (@Mine.hO84 P) :: (@Mine.hO85 P) :: (@Mine.hO86 P) :: (@Mine.hO87 P) :: (@Mine.hO88 P) :: (@Mine.hO89 P) :: (@Mine.hO90 P) :: (@Mine.hO91 P) :: (@Mine.hO92 P) :: (@Mine.hO93 P) :: (@Mine.hO94 P) :: (@Mine.hO95 P) :: (@Mine.hO96 P) :: (@Mine.hO97 P) :: (@Mine.hO98 P) :: (@Mine.hO99 P) :: (@Mine.hO100 P) :: (@Mine.hO101 P) :: (@Mine.hO102 P) :: (@Mine.hO103 P) :: (@Mine.hO104 P) :: (@Mine.hO105 P) :: (@Mine.hO106 P) :: (@Mine.hO107 P) :: (@Mine.hO108 P) :: (@Mine.hO109 P) :: (@Mine.hO110 P) :: (@Mine.hO111 P) :: (@Mine.hO112 P) :: (@Mine.hO113 P) :: (@Mine.hO114 P) :: (@Mine.hO115 P) :: (@Mine.hO116 P) :: (@Mine.hO117 P) :: (@Mine.hO118 P) :: (@Mine.hO119 P) :: (@Mine.hO120 P) :: (@Mine.hO121 P) :: (@Mine.hO122 P) :: (@Mine.hO123 P) :: (@Mine.hO124 P) :: (@Mine.hO125 P) :: (@Mine.hO126 P) :: (@Mine.hO127 P) :: (@Mine.hO128 P) :: [])) (PySem.Life.mk [] [] [] 0 [] [] Bool.false #[] [] 0 Bool.false Bool.false Bool.false (@OfNat.ofNat.{0} @Int 0 (@instOfNat 0)) [(@OfNat.ofNat.{0} @Int 2000 (@instOfNat 2000)), (@OfNat.ofNat.{0} @Int 10 (@instOfNat 10)), (@OfNat.ofNat.{0} @Int 10 (@instOfNat 10))] Bool.false 0 Bool.true [] [] 0 Bool.false))
theorem hFinq (w : PySem.World) : (@Eq.{1} (∀ (x0 : @PySem.OsState), (@Option.{0} @PySem.Shared)) (fun (x0 : @PySem.OsState) => (@PySem.W.Fast.tw14082659384304107361 @PySem.W.Fast.tw14364793385576792824 @Mine.hProg w 11 (some (PySem.Value.ref 6)) 2 (@PySem.W.SharedT.abs (PySem.W.SharedT.mk (@Mine.hT129 (@PySem.World.params w)) 87 (PySem.Life.mk [] [] [] 0 [] [] Bool.false #[] [] 0 Bool.false Bool.false Bool.false (@OfNat.ofNat.{0} @Int 0 (@instOfNat 0)) [(@OfNat.ofNat.{0} @Int 2000 (@instOfNat 2000)), (@OfNat.ofNat.{0} @Int 10 (@instOfNat 10)), (@OfNat.ofNat.{0} @Int 10 (@instOfNat 10))] Bool.false 0 Bool.true [] [] 0 Bool.false) (Array.mk []) (PySem.Drawn.mk 0 0 0 0) 1813 x0)) (PySem.Thread.mk (@PySem.W.doneF PySem.Flow.next) (PySem.Code.body (@PySem.W.behindTheImports @Mine.hProg) @Mine.hEnv) (PySem.Pos.mk 84 0 106 15) [(@PySem.W.topFrame (PySem.Pos.mk 0 0 0 0))]))) (fun (x0 : @PySem.OsState) => (some (PySem.Shared.mk (@Mine.hH130 (@PySem.World.params w)) (Array.mk []) (PySem.Drawn.mk 0 0 0 0) 1813 x0)))) := by kernel_rfl
theorem hFin (w : PySem.World) : (@Eq.{1} (∀ (x0 : @PySem.OsState), (@Option.{0} @PySem.Shared)) (fun (x0 : @PySem.OsState) => (@PySem.W.topRun @PySem.treeTable @Mine.hProg w 11 (some (PySem.Value.ref 6)) 2 (@PySem.W.SharedT.abs (PySem.W.SharedT.mk (@Mine.hT129 (@PySem.World.params w)) 87 (PySem.Life.mk [] [] [] 0 [] [] Bool.false #[] [] 0 Bool.false Bool.false Bool.false (@OfNat.ofNat.{0} @Int 0 (@instOfNat 0)) [(@OfNat.ofNat.{0} @Int 2000 (@instOfNat 2000)), (@OfNat.ofNat.{0} @Int 10 (@instOfNat 10)), (@OfNat.ofNat.{0} @Int 10 (@instOfNat 10))] Bool.false 0 Bool.true [] [] 0 Bool.false) (Array.mk []) (PySem.Drawn.mk 0 0 0 0) 1813 x0)) (PySem.Thread.mk (@PySem.W.doneF PySem.Flow.next) (PySem.Code.body (@PySem.W.behindTheImports @Mine.hProg) @Mine.hEnv) (PySem.Pos.mk 84 0 106 15) [(@PySem.W.topFrame (PySem.Pos.mk 0 0 0 0))]))) (fun (x0 : @PySem.OsState) => (some (PySem.Shared.mk (@Mine.hH130 (@PySem.World.params w)) (Array.mk []) (PySem.Drawn.mk 0 0 0 0) 1813 x0)))) := by
  rw [PySem.W.Fast.te14082659384304107361, PySem.W.Fast.te14364793385576792824]
  exact hFinq w
theorem hImpq (w : PySem.World) : (@Eq.{1} (@Option.{0} @PySem.Shared) (@PySem.W.Fast.tw10274390034422433532 @PySem.W.Fast.tw14364793385576792824 (@PySem.W.opening @Mine.hProg) w 1000 (@Prod.fst.{0, 0} @PySem.Shared @PySem.Thread (@PySem.W.Fast.tw1435165496053646825 (@PySem.W.opening @Mine.hProg))) (@Prod.snd.{0, 0} @PySem.Shared @PySem.Thread (@PySem.W.Fast.tw1435165496053646825 (@PySem.W.opening @Mine.hProg)))) (some (PySem.Shared.mk (@PySem.W.boot_heap (@PySem.World.params w)) (Array.mk []) @PySem.W.boot_drawn @PySem.W.boot_toks (@PySem.Shared.os (@Prod.fst.{0, 0} @PySem.Shared @PySem.Thread (@PySem.W.Fast.tw1435165496053646825 (@PySem.W.opening @Mine.hProg))))))) := by kernel_rfl
theorem hImp (w : PySem.World) : (@Eq.{1} (@Option.{0} @PySem.Shared) (@PySem.importEnds @PySem.treeTable (@PySem.W.opening @Mine.hProg) w 1000 (@Prod.fst.{0, 0} @PySem.Shared @PySem.Thread (@PySem.start (@PySem.W.opening @Mine.hProg))) (@Prod.snd.{0, 0} @PySem.Shared @PySem.Thread (@PySem.start (@PySem.W.opening @Mine.hProg)))) (some (PySem.Shared.mk (@PySem.W.boot_heap (@PySem.World.params w)) (Array.mk []) @PySem.W.boot_drawn @PySem.W.boot_toks (@PySem.Shared.os (@Prod.fst.{0, 0} @PySem.Shared @PySem.Thread (@PySem.start (@PySem.W.opening @Mine.hProg))))))) := by
  rw [PySem.W.Fast.te10274390034422433532, PySem.W.Fast.te14364793385576792824, PySem.W.Fast.te1435165496053646825]
  exact hImpq w
theorem hOpen : ∀ w : PySem.World, (PySem.W.fencedOpening PySem.treeTable hProg w 35136).map (fun s => (s.heap, s.gens, s.drawn, s.toks)) = some (PySem.W.boot_heap w.params, Array.mk [], PySem.W.boot_drawn, PySem.W.boot_toks) := PySem.W.open_cut (He := PySem.W.boot_heap) hImp (by decide) (fun w => by kernel_rfl)
theorem hSize : ∀ w : PySem.World, ((PySem.W.boot_heap w.params).isNs PySem.mainGlobals && (Array.mk [] : Array PySem.GenState).size == 0, (PySem.W.boot_heap w.params).objs.size, (PySem.W.boot_heap w.params).nsMap PySem.mainGlobals "__annotations__") = (true, 11, (some (PySem.Value.ref 6))) := fun w => by kernel_rfl
theorem hBody : hSts0 ++ (hSts1 ++ (hSts2 ++ (hSts3 ++ (hSts4 ++ (hSts5 ++ (hSts6 ++ ([]))))))) = PySem.W.behindTheImports hProg := by kernel_rfl
theorem hRunAll (w : PySem.World) (os : PySem.OsState) : PySem.W.topRun PySem.treeTable hProg w 11 (some (PySem.Value.ref 6)) (12 + (1 + (68 + (9571 + (152 + (3096 + (44 + (4322 + (392 + 2))))))))) ⟨PySem.W.boot_heap w.params, Array.mk [], PySem.W.boot_drawn, PySem.W.boot_toks, os⟩ (PySem.W.topStub hProg) = some (PySem.Shared.mk (@Mine.hH130 (@PySem.World.params w)) (Array.mk []) (PySem.Drawn.mk 0 0 0 0) 1813 os) := by
  have f7 := PySem.W.piece_nil (env := hEnv) (congrFun (hFin w) os)
  have f6 := PySem.W.piece_app (PySem.W.segRun_of (congrFun (hRun6 w) os)) f7
  have f5 := PySem.W.piece_app (PySem.W.segRun_of (congrFun (hRun5 w) os)) f6
  have f4 := PySem.W.piece_app (PySem.W.segRun_of (congrFun (hRun4 w) os)) f5
  have f3 := PySem.W.piece_app (PySem.W.segRun_of (congrFun (hRun3 w) os)) f4
  have f2 := PySem.W.piece_app (PySem.W.segRun_of (congrFun (hRun2 w) os)) f3
  have f1 := PySem.W.piece_app (hRun1 w os) f2
  have f0 := PySem.W.piece_app (PySem.W.segRun_of (congrFun (hRun0 w) os)) f1
  rw [hBody] at f0
  exact PySem.W.go_top (congrFun (hPre w) os) (PySem.W.piece_block (congrFun (hBlock w) os) f0)
noncomputable abbrev hLoose : List PySem.Str := [(PySem.Str.ofString "_QUOPRI_MAP"), (PySem.Str.ofString "_QUOPRI_HEADER_MAP"), (PySem.Str.ofString "_QUOPRI_BODY_MAP"), (PySem.Str.ofString "ascii_letters"), (PySem.Str.ofString "hexdigits"), (PySem.Str.ofString "_QUOPRI_BODY_ENCODE_MAP"), (PySem.Str.ofString "decode")]
noncomputable abbrev hLv : List (PySem.Str × PySem.W.WData) := [((PySem.Str.ofString "ascii_letters"), (PySem.W.WData.str (PySem.Str.mk (List.toArray (97 :: 98 :: 99 :: 100 :: 101 :: 102 :: 103 :: 104 :: 105 :: 106 :: 107 :: 108 :: 109 :: 110 :: 111 :: 112 :: 113 :: 114 :: 115 :: 116 :: 117 :: 118 :: 119 :: 120 :: 121 :: 122 :: 65 :: 66 :: 67 :: 68 :: 69 :: 70 :: 71 :: 72 :: 73 :: 74 :: 75 :: 76 :: 77 :: 78 :: 79 :: 80 :: 81 :: 82 :: 83 :: 84 :: 85 :: 86 :: 87 :: 88 :: 89 :: 90 :: []))))), ((PySem.Str.ofString "hexdigits"), (PySem.W.WData.str (PySem.Str.mk #[48, 49, 50, 51, 52, 53, 54, 55, 56, 57, 97, 98, 99, 100, 101, 102, 65, 66, 67, 68, 69, 70])))]
theorem hLook0q (w : PySem.World) : (@Eq.{1} (∀ (x0 : @PySem.OsState), @Bool) (fun (x0 : @PySem.OsState) => (@Bool.and (@Bool.and (@Bool.and (@PySem.W.staticsOk (@PySem.W.Fast.tw5923862056798008813 (@PySem.Module.body (@PySem.Program.main @Mine.hProg))) (@PySem.W.boot_heap (@PySem.World.params w)) (@PySem.Shared.heap (PySem.Shared.mk (@Mine.hH130 (@PySem.World.params w)) (Array.mk []) (PySem.Drawn.mk 0 0 0 0) 1813 x0))) (@PySem.W.namesBound @Mine.hProg (@PySem.Shared.heap (PySem.Shared.mk (@Mine.hH130 (@PySem.World.params w)) (Array.mk []) (PySem.Drawn.mk 0 0 0 0) 1813 x0)))) (@PySem.W.gensDone (PySem.Shared.mk (@Mine.hH130 (@PySem.World.params w)) (Array.mk []) (PySem.Drawn.mk 0 0 0 0) 1813 x0))) (@PySem.W.laidKept (@PySem.W.boot_heap (@PySem.World.params w)) (@PySem.Shared.heap (PySem.Shared.mk (@Mine.hH130 (@PySem.World.params w)) (Array.mk []) (PySem.Drawn.mk 0 0 0 0) 1813 x0))))) (fun (x0 : @PySem.OsState) => Bool.true)) := by kernel_rfl
theorem hLook0 (w : PySem.World) : (@Eq.{1} (∀ (x0 : @PySem.OsState), @Bool) (fun (x0 : @PySem.OsState) => (@Bool.and (@Bool.and (@Bool.and (@PySem.W.staticsOk (@PySem.importedModules (@PySem.Module.body (@PySem.Program.main @Mine.hProg))) (@PySem.W.boot_heap (@PySem.World.params w)) (@PySem.Shared.heap (PySem.Shared.mk (@Mine.hH130 (@PySem.World.params w)) (Array.mk []) (PySem.Drawn.mk 0 0 0 0) 1813 x0))) (@PySem.W.namesBound @Mine.hProg (@PySem.Shared.heap (PySem.Shared.mk (@Mine.hH130 (@PySem.World.params w)) (Array.mk []) (PySem.Drawn.mk 0 0 0 0) 1813 x0)))) (@PySem.W.gensDone (PySem.Shared.mk (@Mine.hH130 (@PySem.World.params w)) (Array.mk []) (PySem.Drawn.mk 0 0 0 0) 1813 x0))) (@PySem.W.laidKept (@PySem.W.boot_heap (@PySem.World.params w)) (@PySem.Shared.heap (PySem.Shared.mk (@Mine.hH130 (@PySem.World.params w)) (Array.mk []) (PySem.Drawn.mk 0 0 0 0) 1813 x0))))) (fun (x0 : @PySem.OsState) => Bool.true)) := by
  rw [PySem.W.Fast.te5923862056798008813]
  exact hLook0q w
theorem hLook1q (w : PySem.World) : (@Eq.{1} (∀ (x0 : @PySem.OsState), @PyProof.Rows.Seen) (fun (x0 : @PySem.OsState) => (@PySem.W.Fast.tw5160383126252970620 (@PySem.W.R.mapR.{0, 0} @PySem.DefRec @PySem.Str (fun (x1 : @PySem.DefRec) => (@PySem.DefRec.name x1)) (@PySem.W.Fast.tw3399658132070893891 @Mine.hView)) (@PySem.W.Fast.tw5991557255702980513 @Mine.hView) [] (PySem.Shared.mk (@PySem.Shared.heap (PySem.Shared.mk (@Mine.hH130 (@PySem.World.params w)) (Array.mk []) (PySem.Drawn.mk 0 0 0 0) 1813 x0)) #[] (@PySem.Shared.drawn (PySem.Shared.mk (@Mine.hH130 (@PySem.World.params w)) (Array.mk []) (PySem.Drawn.mk 0 0 0 0) 1813 x0)) (@PySem.Shared.toks (PySem.Shared.mk (@Mine.hH130 (@PySem.World.params w)) (Array.mk []) (PySem.Drawn.mk 0 0 0 0) 1813 x0)) (@PySem.Shared.os (PySem.Shared.mk (@Mine.hH130 (@PySem.World.params w)) (Array.mk []) (PySem.Drawn.mk 0 0 0 0) 1813 x0))))) (fun (x0 : @PySem.OsState) => (@PyProof.Rows.expectedOf @Mine.hView))) := by kernel_rfl
theorem hLook1 (w : PySem.World) : (@Eq.{1} (∀ (x0 : @PySem.OsState), @PyProof.Rows.Seen) (fun (x0 : @PySem.OsState) => (@PyProof.Rows.seen (@List.map.{0, 0} @PySem.DefRec @PySem.Str (fun (x1 : @PySem.DefRec) => (@PySem.DefRec.name x1)) (@PyProof.Rows.recsOf @Mine.hView)) (@PyProof.Rows.ownsOf @Mine.hView) [] (PySem.Shared.mk (@PySem.Shared.heap (PySem.Shared.mk (@Mine.hH130 (@PySem.World.params w)) (Array.mk []) (PySem.Drawn.mk 0 0 0 0) 1813 x0)) #[] (@PySem.Shared.drawn (PySem.Shared.mk (@Mine.hH130 (@PySem.World.params w)) (Array.mk []) (PySem.Drawn.mk 0 0 0 0) 1813 x0)) (@PySem.Shared.toks (PySem.Shared.mk (@Mine.hH130 (@PySem.World.params w)) (Array.mk []) (PySem.Drawn.mk 0 0 0 0) 1813 x0)) (@PySem.Shared.os (PySem.Shared.mk (@Mine.hH130 (@PySem.World.params w)) (Array.mk []) (PySem.Drawn.mk 0 0 0 0) 1813 x0))))) (fun (x0 : @PySem.OsState) => (@PyProof.Rows.expectedOf @Mine.hView))) := by
  rw [PySem.W.Fast.te5160383126252970620, PySem.W.R.mapR_eq, PySem.W.Fast.te3399658132070893891, PySem.W.Fast.te5991557255702980513]
  exact hLook1q w
theorem hLook2q (w : PySem.World) : (@Eq.{1} (∀ (x0 : @PySem.OsState), (@Prod.{0, 0} (@Option.{0} @PySem.Str) (@List.{0} (@Prod.{0, 0} @PySem.Str @PySem.Value)))) (fun (x0 : @PySem.OsState) => (@PySem.Heap.bltView (@PySem.Shared.heap (PySem.Shared.mk (@Mine.hH130 (@PySem.World.params w)) (Array.mk []) (PySem.Drawn.mk 0 0 0 0) 1813 x0)))) (fun (x0 : @PySem.OsState) => @PySem.bltViewBooted)) := by kernel_rfl
theorem hLook2 (w : PySem.World) : (@Eq.{1} (∀ (x0 : @PySem.OsState), (@Prod.{0, 0} (@Option.{0} @PySem.Str) (@List.{0} (@Prod.{0, 0} @PySem.Str @PySem.Value)))) (fun (x0 : @PySem.OsState) => (@PySem.Heap.bltView (@PySem.Shared.heap (PySem.Shared.mk (@Mine.hH130 (@PySem.World.params w)) (Array.mk []) (PySem.Drawn.mk 0 0 0 0) 1813 x0)))) (fun (x0 : @PySem.OsState) => @PySem.bltViewBooted)) := by
  rw []
  exact hLook2q w
theorem hLook3q (w : PySem.World) : (@Eq.{1} (∀ (x0 : @PySem.OsState), @Bool) (fun (x0 : @PySem.OsState) => (@Bool.and (@Bool.and (@Bool.and (@Bool.and (@Bool.and (@Bool.and (@PySem.W.Fast.tw10880121769531294198 (@PySem.Shared.heap (PySem.Shared.mk (@Mine.hH130 (@PySem.World.params w)) (Array.mk []) (PySem.Drawn.mk 0 0 0 0) 1813 x0)) (@PySem.W.Fast.tw821141287760084731 @Mine.hView @Mine.hLoose) (@PySem.W.R.mapR.{0, 0} @PySem.DefRec @PySem.Str (fun (x1 : @PySem.DefRec) => (@PySem.DefRec.name x1)) (@PySem.W.Fast.tw3399658132070893891 @Mine.hView)) (@PySem.W.R.mapR.{0, 0} (@Prod.{0, 0} @PySem.Str @PySem.PyData) @PySem.Str (fun (x1 : (@Prod.{0, 0} @PySem.Str @PySem.PyData)) => (@Prod.fst.{0, 0} @PySem.Str @PySem.PyData x1)) (@PySem.W.Fast.tw7409074990110511671 @Mine.hView)) (@PySem.W.R.mapR.{0, 0} @PySem.ClsRec @PySem.Str (fun (x1 : @PySem.ClsRec) => (@PySem.ClsRec.name x1)) (@PySem.W.Fast.tw13664370479719496447 @Mine.hView (@PySem.W.Fast.tw821141287760084731 @Mine.hView @Mine.hLoose)))) (@PySem.W.Fast.tw14722251495701143533 (@PySem.Shared.heap (PySem.Shared.mk (@Mine.hH130 (@PySem.World.params w)) (Array.mk []) (PySem.Drawn.mk 0 0 0 0) 1813 x0)) (@PySem.W.Fast.tw5923862056798008813 (@PySem.Module.body (@PySem.Program.main @Mine.hProg))))) (@PySem.Heap.isNs (@PySem.Shared.heap (PySem.Shared.mk (@Mine.hH130 (@PySem.World.params w)) (Array.mk []) (PySem.Drawn.mk 0 0 0 0) 1813 x0)) @PySem.mainGlobals)) (@PySem.Heap.isNs (@PySem.Shared.heap (PySem.Shared.mk (@Mine.hH130 (@PySem.World.params w)) (Array.mk []) (PySem.Drawn.mk 0 0 0 0) 1813 x0)) @PySem.builtinsNs)) (@PySem.W.Fast.tw10994771534591457954 @Mine.hView (@PySem.Shared.heap (PySem.Shared.mk (@Mine.hH130 (@PySem.World.params w)) (Array.mk []) (PySem.Drawn.mk 0 0 0 0) 1813 x0)))) ((fun (x1 : @PySem.Shared) => (@Bool.and (@PySem.W.xlAt @Mine.hView @Mine.hLv x1) (@PySem.W.recOk (@PySem.W.RowW.records (@PySem.W.OpenRow.toRowW (@PySem.W.Fast.tw2368527892694137696 @PySem.Challenge.rw_tx0009_01))) x1))) (PySem.Shared.mk (@Mine.hH130 (@PySem.World.params w)) (Array.mk []) (PySem.Drawn.mk 0 0 0 0) 1813 x0))) (@ite.{1} @Bool (@Eq.{1} @Bool Bool.true Bool.true) (@instDecidableEqBool Bool.true Bool.true) (@BEq.beq.{0} @Nat (@instBEqOfDecidableEq.{0} @Nat @instDecidableEqNat) (@Array.size.{0} @PySem.GenState (@PySem.Shared.gens (PySem.Shared.mk (@Mine.hH130 (@PySem.World.params w)) (Array.mk []) (PySem.Drawn.mk 0 0 0 0) 1813 x0))) 0) (@Bool.not (@PySem.leftWithCleanup (@PySem.Shared.gens (PySem.Shared.mk (@Mine.hH130 (@PySem.World.params w)) (Array.mk []) (PySem.Drawn.mk 0 0 0 0) 1813 x0))))))) (fun (x0 : @PySem.OsState) => Bool.true)) := by kernel_rfl
theorem hLook3 (w : PySem.World) : (@Eq.{1} (∀ (x0 : @PySem.OsState), @Bool) (fun (x0 : @PySem.OsState) => (@Bool.and (@Bool.and (@Bool.and (@Bool.and (@Bool.and (@Bool.and (@PySem.Heap.keysOk (@PySem.Shared.heap (PySem.Shared.mk (@Mine.hH130 (@PySem.World.params w)) (Array.mk []) (PySem.Drawn.mk 0 0 0 0) 1813 x0)) (@PySem.W.looseW @Mine.hView @Mine.hLoose) (@List.map.{0, 0} @PySem.DefRec @PySem.Str (fun (x1 : @PySem.DefRec) => (@PySem.DefRec.name x1)) (@PyProof.Rows.recsOf @Mine.hView)) (@List.map.{0, 0} (@Prod.{0, 0} @PySem.Str @PySem.PyData) @PySem.Str (fun (x1 : (@Prod.{0, 0} @PySem.Str @PySem.PyData)) => (@Prod.fst.{0, 0} @PySem.Str @PySem.PyData x1)) (@PyProof.Rows.litsOf @Mine.hView)) (@List.map.{0, 0} @PySem.ClsRec @PySem.Str (fun (x1 : @PySem.ClsRec) => (@PySem.ClsRec.name x1)) (@PyProof.Rows.clssOf @Mine.hView (@PySem.W.looseW @Mine.hView @Mine.hLoose)))) (@PySem.Heap.accountedOkI (@PySem.Shared.heap (PySem.Shared.mk (@Mine.hH130 (@PySem.World.params w)) (Array.mk []) (PySem.Drawn.mk 0 0 0 0) 1813 x0)) (@PySem.importedModules (@PySem.Module.body (@PySem.Program.main @Mine.hProg))))) (@PySem.Heap.isNs (@PySem.Shared.heap (PySem.Shared.mk (@Mine.hH130 (@PySem.World.params w)) (Array.mk []) (PySem.Drawn.mk 0 0 0 0) 1813 x0)) @PySem.mainGlobals)) (@PySem.Heap.isNs (@PySem.Shared.heap (PySem.Shared.mk (@Mine.hH130 (@PySem.World.params w)) (Array.mk []) (PySem.Drawn.mk 0 0 0 0) 1813 x0)) @PySem.builtinsNs)) (@PyProof.Rows.tablesOk @Mine.hView (@PySem.Shared.heap (PySem.Shared.mk (@Mine.hH130 (@PySem.World.params w)) (Array.mk []) (PySem.Drawn.mk 0 0 0 0) 1813 x0)))) ((fun (x1 : @PySem.Shared) => (@Bool.and (@PySem.W.xlAt @Mine.hView @Mine.hLv x1) (@PySem.W.recOk (@PySem.W.RowW.records (@PySem.W.OpenRow.toRowW (@PySem.W.OpenLaw.row @PySem.Challenge.rw_tx0009_01))) x1))) (PySem.Shared.mk (@Mine.hH130 (@PySem.World.params w)) (Array.mk []) (PySem.Drawn.mk 0 0 0 0) 1813 x0))) (@ite.{1} @Bool (@Eq.{1} @Bool Bool.true Bool.true) (@instDecidableEqBool Bool.true Bool.true) (@BEq.beq.{0} @Nat (@instBEqOfDecidableEq.{0} @Nat @instDecidableEqNat) (@Array.size.{0} @PySem.GenState (@PySem.Shared.gens (PySem.Shared.mk (@Mine.hH130 (@PySem.World.params w)) (Array.mk []) (PySem.Drawn.mk 0 0 0 0) 1813 x0))) 0) (@Bool.not (@PySem.leftWithCleanup (@PySem.Shared.gens (PySem.Shared.mk (@Mine.hH130 (@PySem.World.params w)) (Array.mk []) (PySem.Drawn.mk 0 0 0 0) 1813 x0))))))) (fun (x0 : @PySem.OsState) => Bool.true)) := by
  rw [PySem.W.Fast.te10880121769531294198, PySem.W.Fast.te821141287760084731, PySem.W.R.mapR_eq, PySem.W.Fast.te3399658132070893891, PySem.W.Fast.te7409074990110511671, PySem.W.Fast.te13664370479719496447, PySem.W.Fast.te14722251495701143533, PySem.W.Fast.te5923862056798008813, PySem.W.Fast.te10994771534591457954, PySem.W.Fast.te2368527892694137696]
  exact hLook3q w
theorem hLook4q (w : PySem.World) : (@Eq.{1} (∀ (x0 : @PySem.OsState), @Bool) (fun (x0 : @PySem.OsState) => (@PySem.W.Fast.tw479339242167458305 @Mine.hView (PySem.Shared.mk (@Mine.hH130 (@PySem.World.params w)) (Array.mk []) (PySem.Drawn.mk 0 0 0 0) 1813 x0))) (fun (x0 : @PySem.OsState) => Bool.true)) := by kernel_rfl
theorem hLook4 (w : PySem.World) : (@Eq.{1} (∀ (x0 : @PySem.OsState), @Bool) (fun (x0 : @PySem.OsState) => (@PyProof.Rows.tabsOk @Mine.hView (PySem.Shared.mk (@Mine.hH130 (@PySem.World.params w)) (Array.mk []) (PySem.Drawn.mk 0 0 0 0) 1813 x0))) (fun (x0 : @PySem.OsState) => Bool.true)) := by
  rw [PySem.W.Fast.te479339242167458305]
  exact hLook4q w
theorem hLook5q (w : PySem.World) : (@Eq.{1} (∀ (x0 : @PySem.OsState), (@Prod.{0, 0} (@List.{0} (@Option.{0} @PySem.FnShape)) @Bool)) (fun (x0 : @PySem.OsState) => (@PySem.W.Fast.tw16090120013241838585 @Mine.hView (@PySem.W.Fast.tw3247288618530077131 @Mine.hView) (PySem.Shared.mk (@Mine.hH130 (@PySem.World.params w)) (Array.mk []) (PySem.Drawn.mk 0 0 0 0) 1813 x0))) (fun (x0 : @PySem.OsState) => (@PySem.pinGoodD (@PySem.W.Fast.tw3247288618530077131 @Mine.hView)))) := by kernel_rfl
theorem hLook5 (w : PySem.World) : (@Eq.{1} (∀ (x0 : @PySem.OsState), (@Prod.{0, 0} (@List.{0} (@Option.{0} @PySem.FnShape)) @Bool)) (fun (x0 : @PySem.OsState) => (@PySem.pinSeenD @Mine.hView (@PyProof.Rows.drecsOf @Mine.hView) (PySem.Shared.mk (@Mine.hH130 (@PySem.World.params w)) (Array.mk []) (PySem.Drawn.mk 0 0 0 0) 1813 x0))) (fun (x0 : @PySem.OsState) => (@PySem.pinGoodD (@PyProof.Rows.drecsOf @Mine.hView)))) := by
  rw [PySem.W.Fast.te16090120013241838585, PySem.W.Fast.te3247288618530077131]
  exact hLook5q w
theorem hLook6q (w : PySem.World) : (@Eq.{1} (∀ (x0 : @PySem.OsState), (@List.{0} (@Option.{0} @PyProof.Rows.PlainShape))) (fun (x0 : @PySem.OsState) => (@PySem.W.Fast.tw2386780881361962483 @Mine.hView (@PySem.W.Fast.tw821141287760084731 @Mine.hView @Mine.hLoose) (PySem.Shared.mk (@Mine.hH130 (@PySem.World.params w)) (Array.mk []) (PySem.Drawn.mk 0 0 0 0) 1813 x0))) (fun (x0 : @PySem.OsState) => (@PyProof.Rows.plainGoodE @Mine.hView (@PySem.W.Fast.tw821141287760084731 @Mine.hView @Mine.hLoose)))) := by kernel_rfl
theorem hLook6 (w : PySem.World) : (@Eq.{1} (∀ (x0 : @PySem.OsState), (@List.{0} (@Option.{0} @PyProof.Rows.PlainShape))) (fun (x0 : @PySem.OsState) => (@PyProof.Rows.plainSeenE @Mine.hView (@PySem.W.looseW @Mine.hView @Mine.hLoose) (PySem.Shared.mk (@Mine.hH130 (@PySem.World.params w)) (Array.mk []) (PySem.Drawn.mk 0 0 0 0) 1813 x0))) (fun (x0 : @PySem.OsState) => (@PyProof.Rows.plainGoodE @Mine.hView (@PySem.W.looseW @Mine.hView @Mine.hLoose)))) := by
  rw [PySem.W.Fast.te2386780881361962483, PySem.W.Fast.te821141287760084731]
  exact hLook6q w
theorem hLook7q (w : PySem.World) : (@Eq.{1} (∀ (x0 : @PySem.OsState), (@List.{0} (@Option.{0} (@Prod.{0, 0} @PyProof.Rows.PlainShape @Bool)))) (fun (x0 : @PySem.OsState) => (@PySem.W.Fast.tw11698064438423848299 @Mine.hView @Mine.hLoose (PySem.Shared.mk (@Mine.hH130 (@PySem.World.params w)) (Array.mk []) (PySem.Drawn.mk 0 0 0 0) 1813 x0))) (fun (x0 : @PySem.OsState) => (@PyProof.Rows.plainGoodD @Mine.hView @Mine.hLoose))) := by kernel_rfl
theorem hLook7 (w : PySem.World) : (@Eq.{1} (∀ (x0 : @PySem.OsState), (@List.{0} (@Option.{0} (@Prod.{0, 0} @PyProof.Rows.PlainShape @Bool)))) (fun (x0 : @PySem.OsState) => (@PyProof.Rows.plainSeenD @Mine.hView @Mine.hLoose (PySem.Shared.mk (@Mine.hH130 (@PySem.World.params w)) (Array.mk []) (PySem.Drawn.mk 0 0 0 0) 1813 x0))) (fun (x0 : @PySem.OsState) => (@PyProof.Rows.plainGoodD @Mine.hView @Mine.hLoose))) := by
  rw [PySem.W.Fast.te11698064438423848299]
  exact hLook7q w
theorem hLook8q (w : PySem.World) : (@Eq.{1} (∀ (x0 : @PySem.OsState), (@Prod.{0, 0} (@List.{0} (@Option.{0} @PySem.FnShape)) @Bool)) (fun (x0 : @PySem.OsState) => (@PySem.W.Fast.tw7317090234206586261 @Mine.hView (PySem.Shared.mk (@Mine.hH130 (@PySem.World.params w)) (Array.mk []) (PySem.Drawn.mk 0 0 0 0) 1813 x0))) (fun (x0 : @PySem.OsState) => (@PySem.W.wideGood @Mine.hView))) := by kernel_rfl
theorem hLook8 (w : PySem.World) : (@Eq.{1} (∀ (x0 : @PySem.OsState), (@Prod.{0, 0} (@List.{0} (@Option.{0} @PySem.FnShape)) @Bool)) (fun (x0 : @PySem.OsState) => (@PySem.W.wideSeen @Mine.hView (PySem.Shared.mk (@Mine.hH130 (@PySem.World.params w)) (Array.mk []) (PySem.Drawn.mk 0 0 0 0) 1813 x0))) (fun (x0 : @PySem.OsState) => (@PySem.W.wideGood @Mine.hView))) := by
  rw [PySem.W.Fast.te7317090234206586261]
  exact hLook8q w
theorem hLook9q (w : PySem.World) : (@Eq.{1} (∀ (x0 : @PySem.OsState), (@List.{0} (@Prod.{0, 0} (@Option.{0} (@Prod.{0, 0} (@List.{0} (@Option.{0} @PySem.FnShape)) @Bool)) (@Option.{0} (@Prod.{0, 0} @PyProof.Rows.PlainShape @Bool))))) (fun (x0 : @PySem.OsState) => (@PySem.W.Fast.tw7369524293546568484 @Mine.hView @Mine.hLoose (PySem.Shared.mk (@Mine.hH130 (@PySem.World.params w)) (Array.mk []) (PySem.Drawn.mk 0 0 0 0) 1813 x0))) (fun (x0 : @PySem.OsState) => (@PySem.W.clsGoodW @Mine.hView @Mine.hLoose))) := by kernel_rfl
theorem hLook9 (w : PySem.World) : (@Eq.{1} (∀ (x0 : @PySem.OsState), (@List.{0} (@Prod.{0, 0} (@Option.{0} (@Prod.{0, 0} (@List.{0} (@Option.{0} @PySem.FnShape)) @Bool)) (@Option.{0} (@Prod.{0, 0} @PyProof.Rows.PlainShape @Bool))))) (fun (x0 : @PySem.OsState) => (@PySem.W.clsSeenW @Mine.hView @Mine.hLoose (PySem.Shared.mk (@Mine.hH130 (@PySem.World.params w)) (Array.mk []) (PySem.Drawn.mk 0 0 0 0) 1813 x0))) (fun (x0 : @PySem.OsState) => (@PySem.W.clsGoodW @Mine.hView @Mine.hLoose))) := by
  rw [PySem.W.Fast.te7369524293546568484]
  exact hLook9q w
theorem hLook10q (w : PySem.World) : (@Eq.{1} (∀ (x0 : @PySem.OsState), (@List.{0} (@Option.{0} @PySem.Obj))) (fun (x0 : @PySem.OsState) => (@PySem.W.R.mapR.{0, 0} @PySem.Addr (@Option.{0} @PySem.Obj) (@PySem.Heap.get? (@PySem.Shared.heap (PySem.Shared.mk (@Mine.hH130 (@PySem.World.params w)) (Array.mk []) (PySem.Drawn.mk 0 0 0 0) 1813 x0))) @Mine.hAs)) (fun (x0 : @PySem.OsState) => (@PySem.W.R.mapR.{0, 0} (@Prod.{0, 0} @PySem.Addr @PySem.Obj) (@Option.{0} @PySem.Obj) (fun (x1 : (@Prod.{0, 0} @PySem.Addr @PySem.Obj)) => (some (@Prod.snd.{0, 0} @PySem.Addr @PySem.Obj x1))) (@Mine.hHeap (@PySem.World.params w))))) := by kernel_rfl
theorem hLook10 (w : PySem.World) : (@Eq.{1} (∀ (x0 : @PySem.OsState), (@List.{0} (@Option.{0} @PySem.Obj))) (fun (x0 : @PySem.OsState) => (@List.map.{0, 0} @PySem.Addr (@Option.{0} @PySem.Obj) (@PySem.Heap.get? (@PySem.Shared.heap (PySem.Shared.mk (@Mine.hH130 (@PySem.World.params w)) (Array.mk []) (PySem.Drawn.mk 0 0 0 0) 1813 x0))) @Mine.hAs)) (fun (x0 : @PySem.OsState) => (@List.map.{0, 0} (@Prod.{0, 0} @PySem.Addr @PySem.Obj) (@Option.{0} @PySem.Obj) (fun (x1 : (@Prod.{0, 0} @PySem.Addr @PySem.Obj)) => (some (@Prod.snd.{0, 0} @PySem.Addr @PySem.Obj x1))) (@Mine.hHeap (@PySem.World.params w))))) := by
  rw [PySem.W.R.mapR_eq]
  exact hLook10q w
theorem hLeft : PySem.W.LeftO hProg hView hLoose (fun (x0 : @PySem.Shared) => (@Bool.and (@PySem.W.xlAt @Mine.hView @Mine.hLv x0) (@PySem.W.recOk (@PySem.W.RowW.records (@PySem.W.OpenRow.toRowW (@PySem.W.OpenLaw.row @PySem.Challenge.rw_tx0009_01))) x0))) (fun s => hAs.map s.heap.get?) (fun w => (hHeap w.params).map fun p => some p.2) 35136 :=
  PySem.W.LeftO.of_pieces (H₁ := hH130) hOpen hSize hRunAll (by decide) fun w => funext fun os => (PySem.W.looks_pair (congrFun (hLook0 w) os) (PySem.W.looks_pair (PySem.W.looks_pair (congrFun (hLook1 w) os) (PySem.W.looks_pair (congrFun (hLook2 w) os) (PySem.W.looks_pair (congrFun (hLook3 w) os) (PySem.W.looks_pair (congrFun (hLook4 w) os) (PySem.W.looks_pair (congrFun (hLook5 w) os) (PySem.W.looks_pair (congrFun (hLook6 w) os) (PySem.W.looks_pair (congrFun (hLook7 w) os) (PySem.W.looks_pair (congrFun (hLook8 w) os) (congrFun (hLook9 w) os))))))))) (congrFun (hLook10 w) os)))
end Mine
end
set_option linter.all false
local macro_rules | `(tactic| walk_at "exec While") => `(tactic| (k_here; k_dflt (refine whl_start 100 ?_)))
local macro_rules | `(tactic| walk_at "call builtin:str.split") => `(tactic| (k_here; (refine KSpl.split1 (by k_asm) (by k_asm) (by assumption) ?_ (by rw [PySem.sizeLine_eq]; omega)); intro D' l' h' k' e' a' F' N' l1; (try k_lt l1)))
local macro_rules | `(tactic| walk_at "call builtin:str.join") => `(tactic| (k_here; (refine SC.join (News.isList (by assumption) (by k_mem)) (by assumption) (Mine.joinOk_split (by assumption) (by assumption) (by assumption)) ?_); intro t' k'))
local macro_rules | `(tactic| walk_at "subscriptTail Name Slice ref ref") => `(tactic| (k_here; k_dflt (refine' Mine.tup_from (a := 2) ?tF ?tN ?tl ?tp ?tq ?te ?tz ?_ ?ts ?tt; (case tF => k_asm); (case tN => k_asm); (case tl => k_mem); (case tp => decide); (case tq => simp); (case te => kl_lit); (case tz => simp); (case ts => with_unfolding_all rfl); (case tt => kmk_pure)); intro D' h' F' N' l1; (try k_lt l1)))
set_option maxRecDepth 100000 in
set_option maxHeartbeats 0 in
theorem Mine.c_hNum : ∀ w p loose mean mg mb, Mine.NumbersC (PySem.W.OpenRow.toRowW (PySem.W.OpenLaw.row PySem.Challenge.rw_tx0009_01)).prog w (Mine.hHeap w.params) p loose mean mg mb 69 := by
  w_strict (
   k_fill
   intro w p loose mean mg mb
   unfold Mine.NumbersC
   intro l vs ns hi hns
   unfold Mine.Call1
   intro dp un gd cn cs a ccd cl outer A₀ base h₀ L m s Q E B F X T hk hd hu hpre hret
   refine wpAny_call ?_
   k_dflt (refine' Mine.enter0C ?k1 ?k2 ?k3 ?k5 ?kA ?kF ?kK ?k6 ?k7 ?k8 ?k9 ?kB ?kD ?_ ?c2 ?c3 ?c4; (case kA => exact rfl); (case kF => exact rfl); (case kK => assumption); (case k1 => k_asm); (case k2 => k_asm); (case k3 => k_asm); (case k5 => k_asm); (case k6 => k_is); (case k7 => k_is); (case k8 => ktr_room); (case k9 => exact BindsTo.of_eq rfl); (case kB => exact rfl); (case kD => decide +kernel); (case c2 => exact rfl); (case c3 => exact rfl); (case c4 => exact rfl); k_whole; intro g' L' h' tk' cells' kG' F' N' Y' B' X' T'; k_cells Y'; (try simp only [List.cons_append, List.nil_append] at N'); (try dsimp only); (try k_fold))
   replace hpre : g'.IsList l vs.toArray := hpre.at fun o e => kG' _ o e
   repeat' (first
     | ((with_reducible show wpAny _ _ (subscriptTail _ _ (Value.ref _) (Value.int _ _)) _ _ _); k_dflt (refine' item_anyK (ns := [3, 4, 3, 5, 0, 4, 0, 1, 3, 5, 0, 2]) ?k1 ?k2 ?k3 ?k4 ?k5 ?_ ?k6; (case k1 => exact News.isList (by k_asm) (by k_mem)); (case k2 => repeat constructor); (case k3 => omega); (case k4 => (simp only [List.length_cons, List.length_nil]; omega)); (case k5 => omega); (case k6 => with_unfolding_all rfl)); intro _)
     | ((with_reducible show wpAny _ _ (subscriptTail _ (PySem.Expr.Slice _ _ (some _) _) (Value.ref _) (Value.ref _)) _ _ _); k_dflt (refine' Mine.twelfth_V ?tF ?tN ?tl ?ti ?tz ?_ ?ts ?tt; (case tF => k_asm); (case tN => k_asm); (case tl => exact News.isList (by k_asm) (by k_mem)); (case ti => assumption); (case tz => (simp only [List.length_map, List.length_take]; omega)); (case ts => with_unfolding_all rfl); (case tt => kmk_pure)); intro D' ws' h' F' N' l1 hI' hC'; (try k_lt l1))
     | (k_unfold; (try dsimp only)) | (k_end; wrow_close) | walk1 | (dsimp only; walk1) | (leave1; walk_say "STEP leave1"; try dsimp only) | fail "no step")
   all_goals exact Mine.call1_end (s := s) hret kG' (by k_asm) (by k_asm) (.head _) ⟨_, _, _, by assumption, by (simp only [List.length_map]; first | rfl | decide | simp | (simp [rangeKs])), rfl⟩)
set_option maxRecDepth 100000 in
set_option maxHeartbeats 0 in
theorem Mine.c_hOrd : ∀ w p loose mean mg mb, Mine.OrderC (PySem.W.OpenRow.toRowW (PySem.W.OpenLaw.row PySem.Challenge.rw_tx0009_01)).prog w (Mine.hHeap w.params) p loose mean mg mb 74 := by
  w_strict (
   k_fill
   intro w p loose mean mg mb
   unfold Mine.OrderC
   intro n tn hn0 hn6
   unfold Mine.Call1
   intro dp un gd cn cs a ccd cl outer A₀ base h₀ L m s Q E B F X T hk hd hu hpre hret
   refine wpAny_call ?_
   k_dflt (refine' Mine.enter0C ?k1 ?k2 ?k3 ?k5 ?kA ?kF ?kK ?k6 ?k7 ?k8 ?k9 ?kB ?kD ?_ ?c2 ?c3 ?c4; (case kA => exact rfl); (case kF => exact rfl); (case kK => assumption); (case k1 => k_asm); (case k2 => k_asm); (case k3 => k_asm); (case k5 => k_asm); (case k6 => k_is); (case k7 => k_is); (case k8 => ktr_room); (case k9 => exact BindsTo.of_eq rfl); (case kB => exact rfl); (case kD => decide +kernel); (case c2 => exact rfl); (case c3 => exact rfl); (case c4 => exact rfl); k_whole; intro g' L' h' tk' cells' kG' F' N' Y' B' X' T'; k_cells Y'; (try simp only [List.cons_append, List.nil_append] at N'); (try dsimp only); (try k_fold))
   have h6 : n = 0 ∨ n = 1 ∨ n = 2 ∨ n = 3 ∨ n = 4 ∨ n = 5 := by omega
   clear hn0 hn6
   rcases h6 with rfl | rfl | rfl | rfl | rfl | rfl
   all_goals (
     repeat' (first | (k_unfold; (try dsimp only)) | (k_end; wrow_close) | walk1 | (dsimp only; walk1) | (leave1; walk_say "STEP leave1"; try dsimp only) | fail "no step"))
   · exact Mine.call1_end (s := s) hret kG' (by k_asm) (by k_asm) (.head _) ⟨1, 2, 3, _, _, _, by unfold Mine.OrdOk; decide, by with_unfolding_all rfl⟩
   · exact Mine.call1_end (s := s) hret kG' (by k_asm) (by k_asm) (.head _) ⟨1, 3, 2, _, _, _, by unfold Mine.OrdOk; decide, by with_unfolding_all rfl⟩
   · exact Mine.call1_end (s := s) hret kG' (by k_asm) (by k_asm) (.head _) ⟨2, 1, 3, _, _, _, by unfold Mine.OrdOk; decide, by with_unfolding_all rfl⟩
   · exact Mine.call1_end (s := s) hret kG' (by k_asm) (by k_asm) (.head _) ⟨2, 3, 1, _, _, _, by unfold Mine.OrdOk; decide, by with_unfolding_all rfl⟩
   · exact Mine.call1_end (s := s) hret kG' (by k_asm) (by k_asm) (.head _) ⟨3, 1, 2, _, _, _, by unfold Mine.OrdOk; decide, by with_unfolding_all rfl⟩
   · exact Mine.call1_end (s := s) hret kG' (by k_asm) (by k_asm) (.head _) ⟨3, 2, 1, _, _, _, by unfold Mine.OrdOk; decide, by with_unfolding_all rfl⟩)
set_option maxRecDepth 100000 in
set_option maxHeartbeats 0 in
theorem Mine.c_hQuote : ∀ w p loose mean mg mb, Mine.QuoteC (PySem.W.OpenRow.toRowW (PySem.W.OpenLaw.row PySem.Challenge.rw_tx0009_01)).prog w (Mine.hHeap w.params) p loose mean mg mb 51 := by
  w_strict (
   k_fill
   intro w p loose mean mg mb
   unfold Mine.QuoteC
   intro n tx hn1 hn2
   unfold Mine.Call0
   intro dp un gd cn cs a ccd cl outer A₀ base h₀ L m s Q E B F X T hk hd hu hpre hret
   refine wpAny_call ?_
   k_dflt (refine' Mine.enter0 ?k1 ?k2 ?k3 ?k5 ?kA ?kF ?kK ?k6 ?k7 ?k8 ?k9 ?kB ?_ ?c2 ?c3 ?c4 ?c5; (case kA => exact rfl); (case kF => exact rfl); (case kK => assumption); (case k1 => k_asm); (case k2 => k_asm); (case k3 => k_asm); (case k5 => k_asm); (case k6 => k_is); (case k7 => k_is); (case k8 => ktr_room); (case k9 => exact BindsTo.of_eq rfl); (case c5 => decide); (case kB => exact locs rfl); (case c2 => exact rfl); (case c3 => exact rfl); (case c4 => exact rfl); k_whole; intro g' L' h' kG' F' N' B' X' T'; (try dsimp only); (try k_fold))
   repeat' (first
     | ((with_reducible show wpAny _ _ (PySem.call (Value.builtin "ord") [Value.str _ _]) _ _ _); (refine Mine.ord_V ?_); intro _ _)
     | ((with_reducible show wpAny _ _ (subscriptTail _ _ (Value.ref _) (Value.int _ _)) _ _ _); k_dflt (refine' Mine.table_V ?tF ?tX ?tl ?to hn1 hn2 ?_; (case tF => k_asm); (case tX => k_asm); (case tl => k_is); (case to => decide +kernel)); intro _)
     | (k_unfold; (try dsimp only)) | (k_end; wrow_close) | walk1 | (dsimp only; walk1) | (leave1; walk_say "STEP leave1"; try dsimp only) | fail "no step")
   all_goals exact hret _ _ _ (Mine.keep_end kG' (by k_asm)) ⟨_, rfl⟩)
set_option maxRecDepth 100000 in
set_option maxHeartbeats 0 in
theorem Mine.c_hRep : ∀ w p loose mean mg mb, Mine.ReplaceC (PySem.W.OpenRow.toRowW (PySem.W.OpenLaw.row PySem.Challenge.rw_tx0009_01)).prog w (Mine.hHeap w.params) p loose mean mg mb 21 := by
  w_strict (
   k_fill
   intro w p loose mean mg mb
   unfold Mine.ReplaceC
   intro news x p0 p1 p2 p3 p4 p5 tx t0 t1 t2 t3 t4 t5 hx h0 h2 h4 h1 h3 h5 hl1 hl2
   unfold Mine.Call
   intro dp un gd cn cs a ccd cl outer A₀ base h₀ L m s Q E B F X N T hk hd hu hret
   unfold Mine.repS at hl1 hl2 hret
   refine wpAny_call ?_
   k_dflt (refine' kp_rest ?k1 ?k2 ?k3 ?k4 ?k5 ?kA ?kF ?kK ?k6 ?k7 ?k8 ?kV ?kP ?kG ?kB ?_ ?c2 ?c3 ?c4 ?c5; (case kA => exact rfl); (case kF => exact rfl); (case kK => assumption); (case k1 => k_asm); (case k2 => k_asm); (case k3 => k_asm); (case k4 => k_asm); (case k5 => k_asm); (case k6 => k_is); (case k7 => k_is); (case k8 => ktr_room); (case kV => kl_lit); (case kP => exact rfl); (case kG => exact fun _ => rfl); (case kB => exact fun _ => locs rfl); (case c5 => decide); (case c2 => exact rfl); (case c3 => exact rfl); (case c4 => exact rfl); k_whole; intro D' g' L' h' l1 FG' F' N' B' X' T'; (try k_lt l1); (try dsimp only); (try k_lift B'); (try k_fold))
   k_steps
   all_goals (refine Mine.call_post hret (by k_asm) (cb_drop (by assumption) ?_) ⟨rfl, _, rfl⟩; intro p hp; k_ownIn))
set_option maxRecDepth 100000 in
set_option maxHeartbeats 0 in
theorem Mine.c_hRoad : ∀ w p loose mean mg mb, Mine.RoadC (PySem.W.OpenRow.toRowW (PySem.W.OpenLaw.row PySem.Challenge.rw_tx0009_01)).prog w (Mine.hHeap w.params) p loose mean mg mb 81 := by
  w_strict (
   k_fill
   intro w p loose mean mg mb
   unfold Mine.RoadC
   intro pl rl sl pvs rvs ps rs cs free tf T tT bare hps hrs hrl hcl hpl hbb
   unfold Mine.Call0
   intro dp un gd cn cs' a ccd cl outer A₀ base h₀ L m s Q E B F X Tp hk hd hu hpre hret
   obtain ⟨hl1, hl2, hl3⟩ := hpre
   refine wpAny_call ?_
   k_dflt (refine' Mine.enter0 ?k1 ?k2 ?k3 ?k5 ?kA ?kF ?kK ?k6 ?k7 ?k8 ?k9 ?kB ?_ ?c2 ?c3 ?c4 ?c5; (case kA => exact rfl); (case kF => exact rfl); (case kK => assumption); (case k1 => k_asm); (case k2 => k_asm); (case k3 => k_asm); (case k5 => k_asm); (case k6 => k_is); (case k7 => k_is); (case k8 => ktr_room); (case k9 => exact BindsTo.of_eq rfl); (case c5 => decide); (case kB => exact locs rfl); (case c2 => exact rfl); (case c3 => exact rfl); (case c4 => exact rfl); k_whole; intro g' L' h' kG' F' N' B' X' T'; (try dsimp only); (try k_fold))
   replace hl1 : g'.IsList pl pvs.toArray := hl1.at fun o e => kG' _ o e
   replace hl2 : g'.IsList rl rvs.toArray := hl2.at fun o e => kG' _ o e
   replace hl3 : g'.IsList sl (Mine.rv cs).toArray := hl3.at fun o e => kG' _ o e
   repeat' ((fail_if_success (with_reducible show wpAny _ _ (pyIter _) _ _ _)); first
     | (k_unfold; (try dsimp only)) | (k_end; wrow_close) | walk1 | (dsimp only; walk1) | (leave1; walk_say "STEP leave1"; try dsimp only) | fail "no step")
   rename IsRange _ _ _ _ _ _ _ _ => hR
   rename News _ _ _ _ => N1
   have N2 := Mine.news_head N1
   refine Mine.road_outer (n := ps.length) (c₀ := List.replicate 12 (free, tf)) [Str.ofString "best", Str.ofString "late", Str.ofString "i"] (Mine.laidB ps rs bare T (cs.map (·.1)) free) rfl hR hpl (by assumption) (by with_unfolding_all exact N2) (by simp [Mine.laidB]) ?turn ?done
   case turn =>
     clear hR N1 N2
     intro c j pre tj u hh tk own hj hpre hc hoff F1 N1
     (try k_fold)
     repeat' ((fail_if_success (with_reducible show wpAny _ _ (pyIter _) _ _ _)); first
       | (k_unfold; (try dsimp only)) | (k_end; wrow_close) | walk1 | (dsimp only; walk1) | (leave1; walk_say "STEP leave1"; try dsimp only) | fail "no step")
     rename IsRange _ _ _ _ _ _ _ _ => hR2
     rename News _ _ _ _ => N3
     refine Mine.road_inner (n := ps.length - j) (nb := Str.ofString "best") (nl := Str.ofString "late") (fun k b l => Mine.runB ps rs bare T j (ps.length - j - k) k b l = Mine.bestB ps rs bare T j) rfl hR2 (by omega) (by omega) (by assumption) N3 rfl rfl rfl ?turn2 ?done2
     case turn2 =>
       clear hR2 N3 F1 N1
       intro k pre2 b l tb tl ti hh2 tk2 own2 hk2 hpre2 hP hoff2 F2 N2
       (try k_fold)
       repeat' (first
         | ((with_reducible show wpAny _ _ (subscriptTail _ _ (Value.ref _) (Value.int _ _)) _ _ _); k_dflt (first
             | (refine' Mine.ints_B (j := j + k) ?tF hl1 hps ?te ?tj ?tf ?_ ?ts; (case tF => k_asm); (case te => omega); (case tj => omega); (case tf => omega); (case ts => with_unfolding_all rfl))
             | (refine' Mine.ints_B (j := j + k) ?tF hl2 hrs ?te ?tj ?tf ?_ ?ts; (case tF => k_asm); (case te => omega); (case tj => omega); (case tf => omega); (case ts => with_unfolding_all rfl))
             | (refine' Mine.ints_B (j := j + k - 1) ?tF hl2 hrs ?te ?tj ?tf ?_ ?ts; (case tF => k_asm); (case te => omega); (case tj => omega); (case tf => omega); (case ts => with_unfolding_all rfl))); intro _)
         | ((with_reducible show wpAny _ _ (PySem.call (Value.builtin "min") [Value.int _ _, Value.int _ _]) _ _ _); (refine Mine.min_V rfl (by k_asm) (by k_asm) ?_); intro _ _ _ F' N')
         | ((with_reducible show wpAny _ _ (subscriptTail _ _ (Value.ref _) (Value.int _ _)) _ _ _); k_dflt (refine' Mine.sign_B (j := j) ?tF hl3 ?te ?tj ?tf ?_ ?ts; (case tF => k_asm); (case te => rfl); (case tj => omega); (case tf => omega); (case ts => with_unfolding_all rfl)); intro _)
         | ((fail_if_success (with_reducible show InvEndN _ _ _ _ _ _ _)); (fail_if_success (with_reducible show wpAny _ _ (setItem _ _ _) _ _ _)); first | (k_unfold; (try dsimp only)) | (k_end; wrow_close) | walk1 | (dsimp only; walk1) | (leave1; walk_say "STEP leave1"; try dsimp only)) | fail "no step")
       all_goals (first
         | (refine Mine.inner_end hpre2 (by assumption) (by assumption) (fun p hp => List.mem_append_left _ hp) (fun p hp => List.mem_append_right _ hp) rfl rfl (Mine.go_val hk2 hP ?lc (by assumption)) ?dd
            (case lc => first | exact Mine.late_C (by assumption) (by assumption) | exact Mine.late_D (by assumption) (by assumption) | exact Mine.late_B (by assumption) (by assumption) | exact Mine.late_A (by assumption))
            (case dd => (intro z h1 h2 h3; simp only [h1, h2, h3, if_false])))
         | skip)
       skip
       all_goals (
         have hb : b = Mine.bestB ps rs bare T j := Mine.brk_val hk2 hP (by first | exact Mine.late_C (by assumption) (by assumption) | exact Mine.late_D (by assumption) (by assumption) | exact Mine.late_B (by assumption) (by assumption) | exact Mine.late_A (by assumption)) (by assumption)
         have hb2 := hbb j hj
         have hcs := Mine.laid_size hc
         refine Mine.road_set (own := own ++ own2) (by k_asm) (by assumption) (Mine.off_both hoff hoff2) (by omega) (by omega) (by omega) ?_
         intro h3 F3 N3
         repeat' ((fail_if_success (with_reducible show InvEndN _ _ _ _ _ _ _)); first | (k_unfold; (try dsimp only)) | (k_end; wrow_close) | walk1 | (dsimp only; walk1) | (leave1; walk_say "STEP leave1"; try dsimp only) | fail "no step")
         refine Mine.outer_end hpre (by assumption) (by assumption) (.head _) (fun p hp => .tail _ (List.mem_append_left _ hp)) (Mine.laid_next hc hb) (by intro z hz hs; (have z1 : z ≠ Str.ofString "best" := fun e => by rw [e] at hs; exact absurd hs (by decide)); (have z2 : z ≠ Str.ofString "late" := fun e => by rw [e] at hs; exact absurd hs (by decide)); (have z3 : z ≠ Str.ofString "i" := fun e => by rw [e] at hs; exact absurd hs (by decide)); simp only [z1, z2, z3, hz, hs, if_false, Bool.false_eq_true]))
     case done2 =>
       clear hR2 N3 F1 N1
       intro b l tb tl u2 hh2 tk2 hP F2 N2
       have hb : b = Mine.bestB ps rs bare T j := by rw [Nat.sub_self] at hP; exact hP
       have hb2 := hbb j hj
       have hcs := Mine.laid_size hc
       (try k_fold)
       repeat' (first
         | ((with_reducible show wpAny _ _ (subscriptTail _ _ (Value.ref _) (Value.int _ _)) _ _ _); k_dflt (refine' Mine.sign_B (j := j) ?tF hl3 ?te ?tj ?tf ?_ ?ts; (case tF => k_asm); (case te => rfl); (case tj => omega); (case tf => omega); (case ts => with_unfolding_all rfl)); intro _)
         | ((with_reducible show wpAny _ _ (setItem _ _ _) _ _ _); (refine Mine.road_set (own := own) (by k_asm) (by assumption) hoff (by omega) (by omega) (by omega) ?_); intro h3 F3 N3)
         | ((fail_if_success (with_reducible show InvEndN _ _ _ _ _ _ _)); first | (k_unfold; (try dsimp only)) | (k_end; wrow_close) | walk1 | (dsimp only; walk1) | (leave1; walk_say "STEP leave1"; try dsimp only)) | fail "no step")
       skip
       refine Mine.outer_end hpre (by assumption) (by assumption) (.head _) (fun p hp => .tail _ hp) (Mine.laid_next hc hb) (by intro z hz hs; (have z1 : z ≠ Str.ofString "best" := fun e => by rw [e] at hs; exact absurd hs (by decide)); (have z2 : z ≠ Str.ofString "late" := fun e => by rw [e] at hs; exact absurd hs (by decide)); (have z3 : z ≠ Str.ofString "i" := fun e => by rw [e] at hs; exact absurd hs (by decide)); simp only [z1, z2, z3, hz, hs, if_false, Bool.false_eq_true])
   case done =>
     clear hR N1 N2
     intro c u hh tk hc F1 N1
     have hcs := Mine.laid_size hc
     (try dsimp only)
     (try k_fold)
     repeat' (first
       | ((with_reducible show wpAny _ _ (PySem.call (Value.builtin "str.join") [Value.str _ _, Value.ref _]) _ _ _); (refine Mine.join_V (News.isList (by assumption) (.head _)) hc (by omega) ?_); intro _ _)
       | (k_unfold; (try dsimp only)) | (k_end; wrow_close) | walk1 | (dsimp only; walk1) | (leave1; walk_say "STEP leave1"; try dsimp only) | fail "no step")
     skip
     all_goals (show Q _ _; (try dsimp only); exact hret _ _ _ (Mine.keep_end kG' (by assumption)) ⟨_, rfl⟩))
set_option maxRecDepth 100000 in
set_option maxHeartbeats 0 in
theorem Mine.c_hU : ∀ w p loose mean mg mb, Mine.UnquoteC (PySem.W.OpenRow.toRowW (PySem.W.OpenLaw.row PySem.Challenge.rw_tx0009_01)).prog w (Mine.hHeap w.params) p loose mean mg mb 44 := by
  w_strict (
   k_fill
   intro w p loose mean mg mb
   unfold Mine.UnquoteC
   intro n tx hn1 hn2
   unfold Mine.Call0
   intro dp un gd cn cs a ccd cl outer A₀ base h₀ L m s Q E B F X T hk hd hu hpre hret
   refine wpAny_call ?_
   k_dflt (refine' Mine.enter0 ?k1 ?k2 ?k3 ?k5 ?kA ?kF ?kK ?k6 ?k7 ?k8 ?k9 ?kB ?_ ?c2 ?c3 ?c4 ?c5; (case kA => exact rfl); (case kF => exact rfl); (case kK => assumption); (case k1 => k_asm); (case k2 => k_asm); (case k3 => k_asm); (case k5 => k_asm); (case k6 => k_is); (case k7 => k_is); (case k8 => ktr_room); (case k9 => exact BindsTo.of_eq rfl); (case c5 => decide); (case kB => exact locs rfl); (case c2 => exact rfl); (case c3 => exact rfl); (case c4 => exact rfl); k_whole; intro g' L' h' kG' F' N' B' X' T'; (try dsimp only); (try k_fold))
   repeat' (first
     | ((with_reducible show wpAny _ _ (subscriptTail _ (PySem.Expr.Slice _ _ _ _) (Value.str _ _) (Value.ref _)) _ _ _); (refine Mine.slice_V (s := ⟨_, _, _, _, _⟩) (by k_asm) (by k_asm) (Mine.slice_eq (k := 1) (cs := [Mine.hexd (n / 16), Mine.hexd (n % 16)]) rfl (by show 1 ≤ 3; decide) rfl rfl) (by show 3 ≤ 1000; decide) ?_ (by with_unfolding_all rfl) (by intro _; with_unfolding_all rfl)); intro _ _ _ F' N')
     | ((with_reducible show wpAny _ _ (PySem.call (Value.type "int") [Value.str _ _, Value.int _ _]) _ _ _); (refine Mine.int16_V (a := n / 16) (b := n % 16) rfl (by omega) (by omega) (by omega) ?_); intro _ _)
     | ((with_reducible show wpAny _ _ (PySem.call (Value.builtin "chr") [Value.int _ _]) _ _ _); (refine Mine.chr_V (n := n) (by omega) (by omega) ?_); intro _ _)
     | (k_unfold; (try dsimp only)) | (k_end; wrow_close) | walk1 | (dsimp only; walk1) | (leave1; walk_say "STEP leave1"; try dsimp only) | fail "no step")
   all_goals exact hret _ _ _ (Mine.keep_end kG' (by k_asm)) ⟨_, rfl⟩)
set_option maxRecDepth 100000 in
set_option maxHeartbeats 0 in
theorem Mine.c_hDec : ∀ w p loose mean mg mb, Mine.DecodeC (PySem.W.OpenRow.toRowW (PySem.W.OpenLaw.row PySem.Challenge.rw_tx0009_01)).prog w (Mine.hHeap w.params) p loose mean mg mb 64 := by
  w_strict (
   k_fill
   have hU := Mine.c_hU
   intro w p loose mean mg mb
   have hU' := hU w p loose mean mg mb
   clear hU
   unfold Mine.DecodeC
   intro l tx hne hlen hq
   have hx1 : 1 ≤ (Mine.S (Mine.flatN l)).length := by have := (Mine.flat_len (l := l)).1; have := List.length_pos_iff.mpr hne; rw [Mine.S_len]; omega
   have hx3 : (Mine.flatN l).length ≤ 36 := by have := (Mine.flat_len (l := l)).2; omega
   have hx2 : (Mine.S (Mine.flatN l)).length ≤ 36 := by rw [Mine.S_len]; exact hx3
   have hx4 := Mine.flat_ne hne
   have hx5 := Mine.flat_good hq
   unfold Mine.Call0
   intro dp un gd cn cs a ccd cl outer A₀ base h₀ L m s Q E B F X T hk hd hu hpre hret
   refine wpAny_call ?_
   k_dflt (refine' Mine.enter0 ?k1 ?k2 ?k3 ?k5 ?kA ?kF ?kK ?k6 ?k7 ?k8 ?k9 ?kB ?_ ?c2 ?c3 ?c4 ?c5; (case kA => exact rfl); (case kF => exact rfl); (case kK => assumption); (case k1 => k_asm); (case k2 => k_asm); (case k3 => k_asm); (case k5 => k_asm); (case k6 => k_is); (case k7 => k_is); (case k8 => ktr_room); (case k9 => first | exact BindsTo.of_eq rfl | exact binds_K (by k_in) rfl (by k_is) rfl rfl rfl | (refine' kp_binds ?kx ?ke; (case kx => k_in); (case ke => exact fun _ => rfl))); (case c5 => decide); (case kB => exact locs rfl); (case c2 => exact rfl); (case c3 => exact rfl); (case c4 => exact rfl); k_whole; intro g' L' h' kG' F' N' B' X' T'; (try dsimp only); (try k_fold))
   repeat' ((fail_if_success (with_reducible show WhlRest _ _ _ _ _ _ _ _ _ _ _)); first
     | ((with_reducible show wpAny _ _ (truthy (Value.str _ _)) _ _ _); (refine KXt.truthy_pos hx1 hx2 (by decide) ?_); intro _)
     | ((with_reducible show wpAny _ _ (PySem.call (Value.builtin "str.splitlines") [Value.str _ _]) _ _ _); (refine Mine.splitlines_one (by assumption) (by assumption) hx4 hx5 (by omega) ?_); intro D' t' h' k' F' N' l1; (try k_lt l1))
     | ((with_reducible show wpAny _ _ (PySem.call (Value.builtin "str.rstrip") [Value.str _ _]) _ _ _); (refine Mine.rstrip_V (Mine.rstrip_same hx5) (by omega) ?_); intro _ _)
     | ((with_reducible show wpAny _ _ (exec (Stmt.While _ _ _ _) _) _ _ _); k_dflt (refine whl_start 100 ?_))
     | (k_unfold; (try dsimp only)) | (k_end; wrow_close) | walk1 | (dsimp only; walk1) | (leave1; walk_say "STEP leave1"; try dsimp only) | fail "no step")
   refine Mine.dec_loop (l := l) ?step hne ?D (by assumption) (by assumption)
   case D => exact ⟨⟨_, rfl⟩, ⟨_, by rw [Mine.str_nil]; rfl⟩, ⟨_, rfl⟩, ⟨_, rfl⟩, ⟨_, by rw [Mine.str_nl]; rfl⟩, ⟨_, rfl⟩⟩
   case step =>
     intro done q rest he ih m' hh tk' D Fm Nm
     have hq1 := hq q (by rw [he]; simp)
     have hdl : done.length + 1 ≤ 12 := by rw [he] at hlen; simp at hlen; omega
     have hat := Mine.at3_of he
     have hlo : (Mine.flatN done).length ≤ (Mine.flatN l).length := by rw [he, Mine.flat_append]; simp
     have hbd := hat.bound hlo
     have hSl := Mine.S_len (Mine.flatN l)
     have hfl : (Mine.flatN (done ++ [q])).length = (Mine.flatN done).length + (Mine.encN q).length := by rw [Mine.flat_append, Mine.flat_cons]; simp [Mine.flatN]
     obtain ⟨lc, hlc, hlg⟩ := Mine.last_of hx4 hx5
     have hlast : rest = [] → (Mine.flatN l).length = (Mine.flatN done).length + (Mine.encN q).length := by intro hr; rw [he, hr, ← hfl]
     have hmore : rest ≠ [] → (Mine.flatN done).length + (Mine.encN q).length < (Mine.flatN l).length := by
       intro hr
       have := (Mine.flat_len (l := rest)).1
       have := List.length_pos_iff.mpr hr
       rw [he, Mine.flat_append, Mine.flat_cons]
       simp only [List.length_append]
       omega
     obtain ⟨⟨ti, ei⟩, ⟨td, ed⟩, ⟨tl, el⟩, ⟨tn, en⟩, ⟨te, ee⟩, ⟨tx', ex⟩⟩ := D
     have Fk := Mine.fr_known [(Str.ofString "i", .int ((Mine.flatN done).length : Int) ti), (Str.ofString "decoded", .str (Mine.S (done.map (·.1))) td), (Str.ofString "line", .str (Mine.S (Mine.flatN l)) tl), (Str.ofString "n", .int ((Mine.S (Mine.flatN l)).length : Int) tn), (Str.ofString "eol", .str (Mine.S [10]) te), (Str.ofString "encoded", .str (Mine.S (Mine.flatN l)) tx')] Fm (by simp only [List.forall_mem_cons, List.not_mem_nil, false_imp_iff, implies_true, and_true]; exact ⟨ei, ed, el, en, ee, ex⟩)
     dsimp only [kstB] at Fk
     clear ei ed el en ee ex Fm
     generalize hrest : decide (rest = []) = rb
     obtain ⟨n, b⟩ := q
     cases b
     · -- a bare sign
       have hk1 : (Mine.encN (n, false)).length = 1 := rfl
       have hgot : (Mine.flatN l)[(Mine.flatN done).length]? = some n := hat.get (j := 0) rfl
       k_dflt (refine' whl_turn ?hE ?_; (case hE => first | passes_own | with_unfolding_all passes_own))
       repeat' ((fail_if_success (with_reducible show WhlRest _ _ _ _ _ _ _ _ _ _ _)); first
         | ((with_reducible show WhlIf _ _ _); first | (refine WhlIf.yes (by rw [decide_eq_true_iff]; omega) ?_) | (refine WhlIf.no (by rw [decide_eq_false_iff_not]; omega) ?_))
         | ((with_reducible show wpAny _ _ (subscriptTail _ _ (Value.str _ _) (Value.int _ _)) _ _ _); k_dflt (refine' Mine.item_V (Mine.item_eq hgot ?ti) ?tlo ?thi ?tsz ?_ ?ts ?tg; (case ti => rfl); (case tlo => omega); (case thi => omega); (case tsz => omega); (case ts => with_unfolding_all rfl); (case tg => (intro _; with_unfolding_all rfl))); intro _ _)
         | ((with_reducible show wpAny _ _ (compareOp CmpOp.NotEq (Value.str _ _) (Value.str _ _)) _ _ _); refine Mine.ne_V (Mine.ne_eq_yes hq1.1) ?_)
         | ((with_reducible show wpAny _ _ (inplaceOp Operator.Add (Value.str _ _) (Value.str _ _)) _ _ _); (refine Mine.iadd_V (Mine.S_append _ _) (by rw [Mine.S_len, Mine.S_len]; simp; omega) ?_); intro _ _)
         | (k_unfold; (try dsimp only)) | (k_end; wrow_close) | walk1 | (dsimp only; walk1) | (leave1; walk_say "STEP leave1"; try dsimp only) | fail "no step")
       all_goals (first
         | (refine ih (fun hr => by have := hlast hr; omega) _ _ _ ?DD (by assumption) (by assumption)
            (case DD => exact ⟨⟨_, by rw [hfl, hk1]; rfl⟩, ⟨_, by rw [List.map_append]; rfl⟩, ⟨_, rfl⟩, ⟨_, rfl⟩, ⟨_, rfl⟩, ⟨_, rfl⟩⟩))
         | skip)
       have hr : rest = [] := Classical.byContradiction fun h => by have := hmore h; omega
       k_dflt (refine' whl_turn ?hE ?_; (case hE => first | passes_own | with_unfolding_all passes_own))
       repeat' ((fail_if_success (with_reducible show WhlRest _ _ _ _ _ _ _ _ _ _ _)); first
         | ((with_reducible show WhlIf _ _ _); first | (refine WhlIf.yes (by rw [decide_eq_true_iff]; omega) ?_) | (refine WhlIf.no (by rw [decide_eq_false_iff_not]; omega) ?_))
         | ((with_reducible show wpAny _ _ (subscriptTail _ _ (Value.str _ _) (Value.int _ _)) _ _ _); k_dflt (refine' Mine.item_V (Mine.item_last hlc) ?tlo ?thi ?tsz ?_ ?ts ?tg; (case tlo => omega); (case thi => omega); (case tsz => omega); (case ts => with_unfolding_all rfl); (case tg => (intro _; with_unfolding_all rfl))); intro _ _)
         | ((with_reducible show wpAny _ _ (compareOp CmpOp.NotIn (Value.str _ _) (Value.str _ _)) _ _ _); refine Mine.notin_V (Mine.notin_crnl hlg) ?_)
         | ((with_reducible show wpAny _ _ (PySem.call (Value.builtin "str.endswith") [Value.str _ _, Value.str _ _]) _ _ _); refine Mine.endswith_V Mine.ends_nl ?_)
         | ((with_reducible show wpAny _ _ (subscriptTail _ (PySem.Expr.Slice _ _ _ _) (Value.str _ _) (Value.ref _)) _ _ _); (refine Mine.slice_V_ns (s := ⟨_, _, _, _, _⟩) (by k_asm) (by k_asm) Mine.slice_nl (by rw [Mine.S_len]; simp; omega) ?_ (by with_unfolding_all rfl) (by intro _; with_unfolding_all rfl)); intro _ _ _ F' N')
         | ((with_reducible show wpAny _ _ (PySem.call (Value.builtin "len") [Value.str _ _]) _ _ _); (refine PyProof.Rows.len_str (by first | omega | decide) ?_))
         | (k_unfold; (try dsimp only)) | (k_end; wrow_close) | walk1 | (dsimp only; walk1) | (leave1; walk_say "STEP leave1"; try dsimp only) | fail "no step")
       all_goals (show Q _ _; dsimp only; refine hret _ _ _ (Mine.keep_end kG' (by k_asm)) (Mine.str_eq ?_); rw [he, hr, List.map_append]; rfl)
     · -- a quoted sign
       have hk1 : (Mine.encN (n, true)).length = 3 := rfl
       have hg0 : (Mine.flatN l)[(Mine.flatN done).length]? = some 61 := hat.get (j := 0) rfl
       have hg1 : (Mine.flatN l)[(Mine.flatN done).length + 1]? = some (Mine.hexd (n / 16)) := hat.get (j := 1) rfl
       have hg2 : (Mine.flatN l)[(Mine.flatN done).length + 2]? = some (Mine.hexd (n % 16)) := hat.get (j := 2) rfl
       have hd1 : n / 16 < 16 := by have := hq1.2; dsimp only at this; omega
       have hd2 : n % 16 < 16 := by omega
       generalize n / 16 = d1 at hg1 hd1
       generalize n % 16 = d2 at hg2 hd2
       k_dflt (refine' whl_turn ?hE ?_; (case hE => first | passes_own | with_unfolding_all passes_own))
       repeat' ((fail_if_success (with_reducible show WhlRest _ _ _ _ _ _ _ _ _ _ _)); first
         | ((with_reducible show WhlIf _ _ _); first | (refine WhlIf.yes (by rw [decide_eq_true_iff]; omega) ?_) | (refine WhlIf.no (by rw [decide_eq_false_iff_not]; omega) ?_))
         | ((with_reducible show wpAny _ _ (subscriptTail _ _ (Value.str _ _) (Value.int _ _)) _ _ _); k_dflt (first
             | (refine' Mine.item_V (Mine.item_eq hg0 ?ti) ?tlo ?thi ?tsz ?_ ?ts ?tg; (case ti => omega); (case tlo => omega); (case thi => omega); (case tsz => omega); (case ts => with_unfolding_all rfl); (case tg => (intro _; with_unfolding_all rfl)))
             | (refine' Mine.item_V (Mine.item_eq hg1 ?ti) ?tlo ?thi ?tsz ?_ ?ts ?tg; (case ti => omega); (case tlo => omega); (case thi => omega); (case tsz => omega); (case ts => with_unfolding_all rfl); (case tg => (intro _; with_unfolding_all rfl)))
             | (refine' Mine.item_V (Mine.item_eq hg2 ?ti) ?tlo ?thi ?tsz ?_ ?ts ?tg; (case ti => omega); (case tlo => omega); (case thi => omega); (case tsz => omega); (case ts => with_unfolding_all rfl); (case tg => (intro _; with_unfolding_all rfl)))); intro _ _)
         | ((with_reducible show ite _ _ _); refine ite_neg (by first | omega | (rw [decide_eq_true_iff]; omega) | (rw [beq_iff_eq]; omega)) ?_)
         | ((with_reducible show wpAny _ _ (compareOp CmpOp.NotEq (Value.str _ _) (Value.str _ _)) _ _ _); refine Mine.ne_V Mine.ne_eq_no ?_)
         | ((with_reducible show wpAny _ _ (compareOp CmpOp.In (Value.str _ _) (Value.str _ _)) _ _ _); first | (refine Mine.in_V (Mine.hex_in d1 hd1) ?_) | (refine Mine.in_V (Mine.hex_in d2 hd2) ?_))
         | ((with_reducible show wpAny _ _ (subscriptTail _ (PySem.Expr.Slice _ _ _ _) (Value.str _ _) (Value.ref _)) _ _ _); (refine Mine.slice_V (s := ⟨_, _, _, _, _⟩) (by k_asm) (by k_asm) (Mine.slice_eq hat hlo rfl (by rw [hk1]; rfl)) (by omega) ?_ (by with_unfolding_all rfl) (by intro _; with_unfolding_all rfl)); intro _ _ _ F' N')
         | ((with_reducible show wpAny _ _ (PySem.call (Value.ref _) [Value.str _ _]) _ _ _); k_dflt (refine' Mine.call0_use (hU' n _ hq1.1 hq1.2) ?u1 ?u2 ?u3 ?u4 ?u5 ?u6 ?u7 ?u8 trivial ?_; (case u1 => k_asm); (case u2 => k_asm); (case u3 => k_asm); (case u4 => k_asm); (case u5 => k_asm); (case u6 => exact rfl); (case u7 => first | omega | ktr_room); (case u8 => first | omega | ktr_units)); rintro v' h' tk' F' N' ⟨t', rfl⟩)
         | ((with_reducible show wpAny _ _ (inplaceOp Operator.Add (Value.str _ _) (Value.str _ _)) _ _ _); (refine Mine.iadd_V (Mine.S_append _ _) (by rw [Mine.S_len, Mine.S_len]; simp; omega) ?_); intro _ _)
         | (k_unfold; (try dsimp only)) | (k_end; wrow_close) | walk1 | (dsimp only; walk1) | (leave1; walk_say "STEP leave1"; try dsimp only) | fail "no step")
       all_goals (first
         | (refine ih (fun hr => by have := hlast hr; omega) _ _ _ ?DD (by assumption) (by assumption)
            (case DD => exact ⟨⟨_, by rw [hfl, hk1]; rfl⟩, ⟨_, by rw [List.map_append]; rfl⟩, ⟨_, rfl⟩, ⟨_, rfl⟩, ⟨_, rfl⟩, ⟨_, rfl⟩⟩))
         | skip)
       have hr : rest = [] := Classical.byContradiction fun h => by have := hmore h; omega
       k_dflt (refine' whl_turn ?hE ?_; (case hE => first | passes_own | with_unfolding_all passes_own))
       repeat' ((fail_if_success (with_reducible show WhlRest _ _ _ _ _ _ _ _ _ _ _)); first
         | ((with_reducible show WhlIf _ _ _); first | (refine WhlIf.yes (by rw [decide_eq_true_iff]; omega) ?_) | (refine WhlIf.no (by rw [decide_eq_false_iff_not]; omega) ?_))
         | ((with_reducible show wpAny _ _ (subscriptTail _ _ (Value.str _ _) (Value.int _ _)) _ _ _); k_dflt (refine' Mine.item_V (Mine.item_last hlc) ?tlo ?thi ?tsz ?_ ?ts ?tg; (case tlo => omega); (case thi => omega); (case tsz => omega); (case ts => with_unfolding_all rfl); (case tg => (intro _; with_unfolding_all rfl))); intro _ _)
         | ((with_reducible show wpAny _ _ (compareOp CmpOp.NotIn (Value.str _ _) (Value.str _ _)) _ _ _); refine Mine.notin_V (Mine.notin_crnl hlg) ?_)
         | ((with_reducible show wpAny _ _ (PySem.call (Value.builtin "str.endswith") [Value.str _ _, Value.str _ _]) _ _ _); refine Mine.endswith_V Mine.ends_nl ?_)
         | ((with_reducible show wpAny _ _ (subscriptTail _ (PySem.Expr.Slice _ _ _ _) (Value.str _ _) (Value.ref _)) _ _ _); (refine Mine.slice_V_ns (s := ⟨_, _, _, _, _⟩) (by k_asm) (by k_asm) Mine.slice_nl (by rw [Mine.S_len]; simp; omega) ?_ (by with_unfolding_all rfl) (by intro _; with_unfolding_all rfl)); intro _ _ _ F' N')
         | ((with_reducible show wpAny _ _ (PySem.call (Value.builtin "len") [Value.str _ _]) _ _ _); (refine PyProof.Rows.len_str (by first | omega | decide) ?_))
         | (k_unfold; (try dsimp only)) | (k_end; wrow_close) | walk1 | (dsimp only; walk1) | (leave1; walk_say "STEP leave1"; try dsimp only) | fail "no step")
       all_goals (show Q _ _; dsimp only; refine hret _ _ _ (Mine.keep_end kG' (by k_asm)) (Mine.str_eq ?_); rw [he, hr, List.map_append]; rfl))
set_option maxRecDepth 100000 in
set_option maxHeartbeats 0 in
theorem PySem.Challenge.cw_tx0009_01_holds : PySem.Challenge.rw_tx0009_01.Holds := by
  w_on; o_law
  refine PySem.W.holds_open (q := Mine.hView) (loose := Mine.hLoose) (Xt := fun s => xlAt Mine.hView Mine.hLv s && recOk (RowW.records (OpenRow.toRowW (OpenLaw.row PySem.Challenge.rw_tx0009_01))) s) (XP := XL Mine.hView Mine.hLv) (Yf := Hook.obs (kHook Mine.hHeap Mine.hAs Mine.hAsOk)) (Ya := Hook.val (kHook Mine.hHeap Mine.hAs Mine.hAsOk)) (YP := Hook.says (kHook Mine.hHeap Mine.hAs Mine.hAsOk)) (N := 35136) Mine.hLeft (Hook.of (kHook Mine.hHeap Mine.hAs Mine.hAsOk)) (Hook.keeps (kHook Mine.hHeap Mine.hAs Mine.hAsOk)) (fun s e => xl_of s (Bool.and_eq_true_iff.mp e).1) XL.keeps (by rfl) (by rfl) (by rfl) (fun s e => recFacts_of (Bool.and_eq_true_iff.mp e).2) (by rfl) (by first | assumption | decide +kernel) (by decide +kernel) ⟨rfl, rfl, rfl, rfl, rfl, by decide +kernel⟩ ?hw ?hc
  case hw => w_witness2
  rename_i hs
  clear hs
  w_strict (
   k_fill
   have hNum := Mine.c_hNum
   have hOrd := Mine.c_hOrd
   have hQuote := Mine.c_hQuote
   have hRep := Mine.c_hRep
   have hRoad := Mine.c_hRoad
   have hDec := Mine.c_hDec
   k_go0
   (try k_fold)
   repeat' ((fail_if_success (with_reducible show wpAny _ _ (PySem.call (Value.ref _) _) _ _ _)); first
      | (k_unfold; (try dsimp only)) | (k_end; wrow_close) | walk1 | (dsimp only; walk1) | (leave1; walk_say "STEP leave1"; try dsimp only) | fail "no step")
   k_dflt (refine' Mine.call1_use (hNum _ _ _ _ _ _ _ _ _ (by assumption) ?uz) ?u1 ?u2 ?u3 ?u4 ?u5 ?u6 ?u7 ?u8 ?u9 ?_; (case u1 => k_asm); (case u2 => k_asm); (case u3 => k_asm); (case u4 => k_asm); (case u5 => k_asm); (case u6 => exact rfl); (case u7 => ktr_room); (case u8 => ktr_units); (case uz => first | omega | l_fact | l_fit); (case u9 => (show Heap.IsList _ _ _; is_list)))
   intro D1 o1 h1 tk1 F1 N1 ne1 P1
   obtain ⟨ws, ms, kk, hI, hL, rfl⟩ := P1
   have ne1' := Mine.allNe_of ne1
   clear ne1
   dsimp only [Mine.AllNe] at ne1'
   (try k_fold)
   repeat' ((fail_if_success (with_reducible show wpAny _ _ (PySem.call (Value.ref _) _) _ _ _)); first
      | ((with_reducible show wpAny _ _ (eval (PySem.Expr.ListComp (PySem.Expr.Call (PySem.Expr.Name (Str.ofString "chr") _) _ _ _) _ _ _) _) _ _ _); k_dflt (refine LCg.ListComp_U (F₀ := by k_asm) (by with_unfolding_all rfl) (by decide) (by rfl) (by decide) (by rfl) ?_))
      | ((with_reducible show LCg.CompSrc _ _ _ _ _ _ _ (PySem.Expr.Call _ _ _ _) _ _ _ _ _ _); k_dflt (refine LCg.CompSrc.range (by rfl) (by k_asm) (by k_asm) (by assumption) (by decide) (by exact rangeSize_nat _ _) (by exact Nat.le_of_ble_eq_true rfl) ?_; intro g'; (refine' kct_range (fun k' => Mine.S [Mine.markN ms k']) (fun k' t' I' oI' C' oC' D' m' ys' h' tk' E' hlo' hhi' hC' hx' F' N' off' ne' => ?_) ?_); (all_goals (try (simp only [LCg.Off3, and_true] at off'))); (all_goals (try ((show KPfMark → _); intro hMark'))); kcf_last))
      | ((with_reducible show KPfDone (∀ ys, CarriedAll ys _ → _ → _)); unfold KPfDone; intro ysM hcM hlM; obtain ⟨cM, rfl, hcE⟩ := Mine.rv_of hcM; clear hcM)
      | ((with_reducible show KCtEl _ _ _ _); exact kct_el rfl rfl rfl)
      | ((with_reducible show wpAny _ _ (PySem.call (Value.builtin "chr") [Value.int _ _]) _ _ _); (refine Mine.chr_i (Mine.mark_lo (by omega)) (Mine.mark_hi (by omega)) ?_); intro _ _)
      | (k_unfold; (try dsimp only)) | (k_end; wrow_close) | walk1 | (dsimp only; walk1) | (leave1; walk_say "STEP leave1"; try dsimp only) | fail "no step")
   have hcM := Mine.marks_of hcE
   clear hcE
   obtain ⟨M, hM, hcM⟩ := hcM
   k_dflt (refine' Mine.call1_use (hOrd _ _ _ _ _ _ _ _ (Mine.fmod6 _).1 (Mine.fmod6 _).2) ?u1 ?u2 ?u3 ?u4 ?u5 ?u6 ?u7 ?u8 ?u9 ?_; (case u1 => k_asm); (case u2 => k_asm); (case u3 => k_asm); (case u4 => k_asm); (case u5 => k_asm); (case u6 => exact rfl); (case u7 => ktr_room); (case u8 => ktr_units); (case u9 => exact True.intro))
   intro D2 o2 h2 tk2 F2 N2 ne2 P2
   obtain ⟨a, b, c, ta, tb, tc, hO, rfl⟩ := P2
   have ne2' := Mine.allNe_of ne2
   clear ne2
   dsimp only [Mine.AllNe] at ne2'
   obtain ⟨⟨ha4, hb4, hc4⟩, ⟨ha0, hb0, hc0⟩, hab, hac, hbc⟩ := hO.lt
   repeat ((with_reducible rename (@Ne Nat _ _) => x'); clear x')
   k_sweep
   (try k_fold)
   repeat' ((fail_if_success (with_reducible show wpAny _ _ (exec (PySem.Stmt.Assign _ (PySem.Expr.ListComp _ _ _ _) _) _) _ _ _)); first
      | ((with_reducible show wpAny _ _ (PySem.call (Value.ref _) [Value.str (Mine.S [M _]) _]) _ _ _); k_dflt (refine' Mine.call0_use (hQuote _ _ _ _ _ _ _ _ (hM.lo _ ?ql) (hM.hi _ ?qh)) ?u1 ?u2 ?u3 ?u4 ?u5 ?u6 ?u7 ?u8 ?u9 ?_; (case u1 => k_asm); (case u2 => k_asm); (case u3 => k_asm); (case u4 => k_asm); (case u5 => k_asm); (case u6 => exact rfl); (case u7 => ktr_room); (case u8 => ktr_units); (case u9 => exact True.intro); (case ql => first | assumption | decide); (case qh => first | assumption | decide)); intro vq hq tkq Fq Nq Pq; obtain ⟨tq, rfl⟩ := Pq)
      | ((fail_if_success (with_reducible show wpAny _ _ (PySem.call (Value.ref _) _) _ _ _)); first
      | ((with_reducible show wpAny _ _ (subscriptTail _ _ (Value.ref _) (Value.int _ _)) _ _ _); k_dflt (refine' Mine.mark_V ?k1 ?k2 ?k3 ?k4 ?_ ?k6; (case k1 => exact News.isList (by k_asm) (by k_mem)); (case k2 => assumption); (case k3 => first | exact rfl | exact (rfl : (0 : Int) = ((0 : Nat) : Int))); (case k4 => first | assumption | decide); (case k6 => with_unfolding_all rfl)); intro _)
      | ((with_reducible show wpAny _ _ (PySem.binaryOp PySem.Operator.Add (Value.str (Mine.S _) _) (Value.str (Mine.S _) _)) _ _ _); (refine Mine.add_V (Mine.S_append _ _) (by simp [Mine.S_len, Mine.quoteL]) ?_); intro _ _; (try dsimp only [List.cons_append, List.nil_append]))
      | (k_unfold; (try dsimp only)) | (k_end; wrow_close) | walk1 | (dsimp only; walk1) | (leave1; walk_say "STEP leave1"; try dsimp only) | fail "no step"))
   k_sweep
   (rename IntsAre _ (List.map _ ms) => hKs)
   rw [Mine.kinds_nat] at hKs
   have hKl : (Mine.ksOf ms).length = 12 := by simp [Mine.ksOf, hL]
   repeat ((with_reducible rename (@Ne Nat _ _) => x'); clear x')
   repeat ((with_reducible rename (@Ne Nat _ _ ∧ _) => x'); clear x')
   repeat ((with_reducible rename (@LT.lt Nat _ _ _ ∧ _) => x'); clear x')
   k_sweep
   (with_reducible rename News _ _ _ _ => NR)
   replace NR := Mine.news_tail (Mine.news_tail (Mine.news_tail (Mine.news_tail (Mine.news_tail (Mine.news_tail NR)))))
   k_dflt (refine LCt.Assign_ListComp_T (F₀ := by k_asm) (by rfl) (by with_unfolding_all rfl) (by with_unfolding_all rfl) (by decide) (by rfl) (by decide) (by rfl) (by rfl) (by rfl) ?_)
   (try k_fold)
   repeat' ((fail_if_success (with_reducible show wpAny _ _ (exec (PySem.Stmt.Assign _ (PySem.Expr.ListComp _ _ _ _) _) _) _ _ _)); first
      | ((with_reducible show LCt.CompSrcT _ _ _ _ _ _ _ _ _ _ _ _ _ _ _); k_dflt (refine LCt.CompSrcT.range (by rfl) (by k_asm) (by k_asm) (by assumption) (by decide) (by exact rangeSize_nat _ _) (by exact Nat.le_of_ble_eq_true rfl) ?_; intro g'; (refine' kci_range (fun l k => if 0 < (Mine.ksOf ms).getD k.toNat 0 then l ++ [k] else l) (fun k' t' I' oI' C' oC' D' m' ys' l' h' tk' E' hlo' hhi' hI' hC' hx' F' N' off' ne' => ?_) ?_ (Mine.place_grows _)); (all_goals (try (have off3 := off'; simp only [LCg.Off3, and_true] at off'))); (all_goals (try ((show KPfMark → _); intro hMark'))); kcf_last))
      | ((with_reducible show LCg.CompEnd _ _ _ _ _ _ _ _ _ _ _ _ _ _); refine LCg.CompEnd.intro F' N' _ (fun p hp => hp) off3 True.intro ?_)
      | ((with_reducible show KPfDone (∀ ys, IntsAre ys _ → _ → _)); unfold KPfDone; intro ysP hP hPl; rw [Mine.places_eq hKl] at hP)
      | ((with_reducible show KCiEl _ _ _ _ _); exact kci_el (if_pos (Mine.pos_of (by assumption))) rfl rfl)
      | ((with_reducible show KCiNo _ _ _ _); exact kci_no (if_neg (Mine.npos_of (by assumption))) rfl)
      | ((with_reducible show wpAny _ _ (subscriptTail _ _ (Value.ref _) (Value.int _ _)) _ _ _); k_dflt (refine' Mine.kind_V ?k1 hKs hKl ?k3 ?k4 ?_ ?k6; (case k1 => exact News.isList (by k_asm) (by k_mem)); (case k3 => exact hlo'); (case k4 => exact Mine.lt12 hhi'); (case k6 => with_unfolding_all rfl)); intro _)
      | (k_unfold; (try dsimp only)) | (k_end; wrow_close) | walk1 | (dsimp only; walk1) | (leave1; walk_say "STEP leave1"; try dsimp only) | fail "no step")
   k_sweep
   k_dflt (refine LCg.Assign_ListComp_U (F₀ := by k_asm) (by rfl) (by with_unfolding_all rfl) (by with_unfolding_all rfl) (by decide) (by rfl) (by decide) (by rfl) (by rfl) (by rfl) ?_)
   (try k_fold)
   repeat' ((fail_if_success (with_reducible show wpAny _ _ (exec (PySem.Stmt.Assign _ (PySem.Expr.ListComp _ _ _ _) _) _) _ _ _)); first
      | ((with_reducible show LCg.CompSrc _ _ _ _ _ _ _ _ _ _ _ _ _ _); k_dflt (refine LCg.CompSrc.ledger (by rfl) (by k_asm) (by k_asm) (by k_mem) (Mine.size_le hPl) ?_; intro g'; (refine' kcf_list (fun k => ((Mine.rkOf a b ((Mine.ksOf ms).getD k.toNat 0) : Nat) : Int)) hP (fun k' t' I' oI' C' oC' D' m' ys' h' tk' E' hk' hC' hx' F' N' off' ne' hMark' => ?_) ?_); (all_goals (try (have off3 := off'; simp only [LCg.Off3, and_true] at off'))); kcf_last))
      | ((with_reducible show LCg.CompEnd _ _ _ _ _ _ _ _ _ _ _ _ _ _); refine LCg.CompEnd.intro F' N' _ (fun p hp => hp) off3 (Or.inr ⟨_, by k_mem, rfl, _, rfl⟩) ?_)
      | ((with_reducible show KPfDone (∀ ys, IntsAre ys _ → _)); unfold KPfDone; intro ysR hR; rw [Mine.ranks_eq] at hR)
      | ((with_reducible show KCfEl _ _ _ _); exact kcf_el rfl rfl rfl)
      | ((with_reducible show wpAny _ _ (subscriptTail _ _ (Value.ref _) (Value.int _ _)) _ _ _); k_dflt (refine' Mine.kind_V ?k1 hKs hKl ?k3 ?k4 ?_ ?k6; (case k1 => exact News.isList (by k_asm) (by k_mem)); (case k3 => exact (Mine.place_in hKl hk').1); (case k4 => exact (Mine.place_in hKl hk').2.1); (case k6 => with_unfolding_all rfl)); intro _)
      | ((with_reducible show wpAny _ _ (PySem.call (Value.builtin "list.index") [Value.ref _, Value.int _ _]) _ _ _); k_dflt (refine' Mine.index_V (a := a) (b := b) (c := c) ?k1 hO rfl ?k4 ?k5 ?_; (case k1 => exact News.isList (by k_asm) (by k_mem)); (case k4 => exact (Mine.place_in hKl hk').2.2); (case k5 => exact Mine.kind_lt _ _)))
      | (k_unfold; (try dsimp only)) | (k_end; wrow_close) | walk1 | (dsimp only; walk1) | (leave1; walk_say "STEP leave1"; try dsimp only) | fail "no step")
   k_sweep
   k_dflt (refine LCg.Assign_ListComp_U (F₀ := by k_asm) (by rfl) (by with_unfolding_all rfl) (by with_unfolding_all rfl) (by decide) (by rfl) (by decide) (by rfl) (by rfl) (by rfl) ?_)
   (try k_fold)
   repeat' ((fail_if_success (with_reducible show wpAny _ _ (eval (PySem.Expr.ListComp _ _ _ _) _) _ _ _)); first
      | ((with_reducible show LCg.CompSrc _ _ _ _ _ _ _ _ _ _ _ _ _ _); k_dflt (refine LCg.CompSrc.ledger (by rfl) (by k_asm) (by k_asm) (by k_mem) (Mine.size_le hPl) ?_; intro g'; (refine' kct_list (fun k => Mine.S [M ((Mine.ksOf ms).getD k.toNat 0)]) hP (fun k' t' I' oI' C' oC' D' m' ys' h' tk' E' hk' hC' hx' F' N' off' ne' hMark' => ?_) ?_); (all_goals (try (have off3 := off'; simp only [LCg.Off3, and_true] at off'))); kcf_last))
      | ((with_reducible show LCg.CompEnd _ _ _ _ _ _ _ _ _ _ _ _ _ _); refine LCg.CompEnd.intro F' N' _ (fun p hp => hp) off3 (Or.inr ⟨_, by k_mem, rfl, _, rfl⟩) ?_)
      | ((with_reducible show KPfDone (∀ ys, CarriedAll ys _ → _ → _)); unfold KPfDone; intro ysS hS hSl; obtain ⟨cS, rfl, hcS⟩ := Mine.rv_of hS; clear hS; rw [Mine.signs_eq] at hcS)
      | ((with_reducible show KCtEl _ _ _ _); exact kct_el rfl rfl rfl)
      | ((with_reducible show wpAny _ _ (subscriptTail (PySem.Expr.Name (Str.ofString "kinds") _) _ (Value.ref _) (Value.int _ _)) _ _ _); k_dflt (refine' Mine.kind_V ?k1 hKs hKl ?k3 ?k4 ?_ ?k6; (case k1 => exact News.isList (by k_asm) (by k_mem)); (case k3 => exact (Mine.place_in hKl hk').1); (case k4 => exact (Mine.place_in hKl hk').2.1); (case k6 => with_unfolding_all rfl)); intro _)
      | ((with_reducible show wpAny _ _ (subscriptTail (PySem.Expr.Name (Str.ofString "marks") _) _ (Value.ref _) (Value.int _ _)) _ _ _); k_dflt (refine' Mine.mark_V ?k1 hcM rfl (Mine.kind_lt _ _) ?_ ?k6; (case k1 => exact News.isList (by k_asm) (by k_mem)); (case k6 => with_unfolding_all rfl)); intro _)
      | (k_unfold; (try dsimp only)) | (k_end; wrow_close) | walk1 | (dsimp only; walk1) | (leave1; walk_say "STEP leave1"; try dsimp only) | fail "no step")
   k_sweep
   k_dflt (refine LCg.ListComp_U (F₀ := by k_asm) (by with_unfolding_all rfl) (by decide) (by rfl) (by decide) (by rfl) ?_)
   (try k_fold)
   repeat' ((fail_if_success (with_reducible show wpAny _ _ (PySem.call (Value.builtin "str.join") _) _ _ _)); first
      | ((with_reducible show LCg.CompSrc _ _ _ _ _ _ _ _ _ _ _ _ _ _); k_dflt (refine LCg.CompSrc.ledger (by rfl) (by k_asm) (by k_asm) (by k_mem) (Mine.size_ks hKs hKl) ?_; intro g'; (refine' kct_list (fun k => Mine.S [M k.toNat]) hKs (fun k' t' I' oI' C' oC' D' m' ys' h' tk' E' hk' hC' hx' F' N' off' ne' hMark' => ?_) ?_); (all_goals (try (have off3 := off'; simp only [LCg.Off3, and_true] at off'))); kcf_last))
      | ((with_reducible show LCg.CompEnd _ _ _ _ _ _ _ _ _ _ _ _ _ _); refine LCg.CompEnd.intro F' N' _ (fun p hp => hp) off3 (Or.inr ⟨_, by k_mem, rfl, _, rfl⟩) ?_)
      | ((with_reducible show KPfDone (∀ ys, CarriedAll ys _ → _ → _)); unfold KPfDone; intro ysO hO1 hOl; obtain ⟨cO, rfl, hcO⟩ := Mine.rv_of hO1; clear hO1; rw [Mine.kinds_one] at hcO)
      | ((with_reducible show KCtEl _ _ _ _); exact kct_el rfl rfl rfl)
      | ((with_reducible show wpAny _ _ (subscriptTail (PySem.Expr.Name (Str.ofString "marks") _) _ (Value.ref _) (Value.int _ _)) _ _ _); k_dflt (refine' Mine.mark_V ?k1 hcM (Mine.mem_kinds hk').1 (Mine.mem_kinds hk').2 ?_ ?k6; (case k1 => exact News.isList (by k_asm) (by k_mem)); (case k6 => with_unfolding_all rfl)); intro _)
      | (k_unfold; (try dsimp only)) | (k_end; wrow_close) | walk1 | (dsimp only; walk1) | (leave1; walk_say "STEP leave1"; try dsimp only) | fail "no step")
   k_sweep
   k_dflt (refine Mine.join_V (News.isList (by k_asm) (by k_mem)) hcO (Mine.size_rv hcO hKl) ?_)
   intro _ _
   repeat ((with_reducible rename (@Ne Nat _ _ ∧ _) => x'); clear x')
   k_sweep
   (with_reducible rename News _ _ _ _ => NR)
   replace NR := Mine.news_tail NR
   (try k_fold)
   repeat' ((fail_if_success (with_reducible show wpAny _ _ (pyIter _) _ _ _)); first | (k_unfold; (try dsimp only)) | (k_end; wrow_close) | walk1 | (dsimp only; walk1) | (leave1; walk_say "STEP leave1"; try dsimp only) | fail "no step")
   k_sweep
   rename IsRange _ _ _ _ _ _ _ _ => hR8
   have hcars := Mine.cars_ok hO hL
   refine Mine.law_loop (na := Str.ofString "one") (nb := Str.ofString "other") (fun k => (Mine.road (Mine.rkOf a b) true k (Mine.carsOf 0 (Mine.ksOf ms))).map M) (fun k => (Mine.road (Mine.rkOf a b) false k (Mine.carsOf 0 (Mine.ksOf ms))).map M) rfl hR8 (by k_asm) (by assumption) (by with_unfolding_all rfl) (by with_unfolding_all rfl) (by show _ = Mine.S (List.map M (Mine.road _ true 0 _)); rw [Mine.road_start hL]) (by show _ = Mine.S (List.map M (Mine.road _ false 0 _)); rw [Mine.road_start hL]) ?turn ?done
   case turn =>
    clear hR8
    intro k pre ta1 tb1 tr hh tk own hk hpre hoff F1 N1
    dsimp only at F1
    (try k_fold)
    repeat' (first
       | ((with_reducible show wpAny _ _ (PySem.call (Value.ref _) [Value.str _ _, Value.str (Mine.S [M _, M _]) _, Value.str (Mine.S [M _, M _]) _, Value.str _ _, Value.str _ _, Value.str _ _, Value.str _ _]) _ _ _); k_dflt (refine' Mine.call_use (Mine.bare_call (hRep _ _ _ _ _ _) hM hcars hO k) ?u1 ?u2 ?u3 ?u4 ?u5 ?u6 ?u7 ?u8 (fun _ _ hp => hp.1) ?_; (case u1 => k_asm); (case u2 => k_asm); (case u3 => k_asm); (case u4 => k_asm); (case u5 => k_asm); (case u6 => exact rfl); (case u7 => ktr_room); (case u8 => ktr_units)); intro v1 h1 tk1 F1 N1 P1; obtain ⟨_, t1, rfl⟩ := P1)
       | ((with_reducible show wpAny _ _ (PySem.call (Value.ref _) [Value.str _ _, Value.str _ _, Value.str _ _, Value.str _ _, Value.str _ _, Value.str _ _, Value.str _ _]) _ _ _); k_dflt (refine' Mine.call_use (Mine.quoted_call (rk := Mine.rkOf a b) (hRep _ _ _ _ _ _) hM hcars hO k) ?u1 ?u2 ?u3 ?u4 ?u5 ?u6 ?u7 ?u8 (fun _ _ hp => hp.1) ?_; (case u1 => k_asm); (case u2 => k_asm); (case u3 => k_asm); (case u4 => k_asm); (case u5 => k_asm); (case u6 => exact rfl); (case u7 => ktr_room); (case u8 => ktr_units)); intro v1 h1 tk1 F1 N1 P1; obtain ⟨_, lq, t1, gq1, gq2, gq3, gq4, rfl⟩ := P1)
       | ((with_reducible show wpAny _ _ (PySem.call (Value.ref _) [Value.ref _, Value.ref _, Value.ref _, Value.str _ _, Value.int _ _, Value.bool _]) _ _ _); k_dflt (refine' Mine.call0_use (Mine.road_call (rk := Mine.rkOf a b) (hRoad _ _ _ _ _ _) hcars (k + 1) _ hP hR hcS) ?u1 ?u2 ?u3 ?u4 ?u5 ?u6 ?u7 ?u8 ?u9 ?_; (case u1 => k_asm); (case u2 => k_asm); (case u3 => k_asm); (case u4 => k_asm); (case u5 => k_asm); (case u6 => exact rfl); (case u7 => ktr_room); (case u8 => ktr_units); (case u9 => exact ⟨News.isList (by k_asm) (by k_mem), News.isList (by k_asm) (by k_mem), News.isList (by k_asm) (by k_mem)⟩)); intro v1 h1 tk1 F1 N1 P1; obtain ⟨t1, rfl⟩ := P1)
       | ((with_reducible show wpAny _ _ (PySem.call (Value.ref _) [Value.str (Mine.S (Mine.flatN _)) _]) _ _ _); k_dflt (refine' Mine.call0_use (Mine.decode_call (hDec _ _ _ _ _ _) gq1 gq2 gq3 gq4) ?u1 ?u2 ?u3 ?u4 ?u5 ?u6 ?u7 ?u8 ?u9 ?_; (case u1 => k_asm); (case u2 => k_asm); (case u3 => k_asm); (case u4 => k_asm); (case u5 => k_asm); (case u6 => exact rfl); (case u7 => ktr_room); (case u8 => ktr_units); (case u9 => exact True.intro)); intro v1 h1 tk1 F1 N1 P1; obtain ⟨t1, rfl⟩ := P1)
       | ((with_reducible show wpAny _ _ (subscriptTail (PySem.Expr.Name (Str.ofString "marks") _) _ (Value.ref _) (Value.int _ _)) _ _ _); k_dflt (refine' Mine.mark_V (j := 0) ?k1 hcM ?k3 (by decide) ?_ ?k6; (case k3 => exact (rfl : (0 : Int) = ((0 : Nat) : Int))); (case k1 => exact News.isList (by k_asm) (by k_mem)); (case k6 => with_unfolding_all rfl)); intro _)
       | ((with_reducible show wpAny _ _ (PySem.compareOp PySem.CmpOp.NotEq (Value.str _ _) (Value.str _ _)) _ _ _); (refine Mine.ne_V (b := false) (bne_self_eq_false _) ?_))
       | ((with_reducible show InvEndN _ _ _ _ _ _ _); k_dflt (refine Mine.law_end hpre (by assumption) (by assumption) (fun p hp => List.mem_append_left _ hp) (fun p hp => List.mem_append_right _ hp) (by with_unfolding_all rfl) (by with_unfolding_all rfl) rfl rfl ?_); intro z z1 z2 z3; simp only [z1, z2, z3, if_false])
       | ((fail_if_success (with_reducible show wpAny _ _ (PySem.call (Value.ref _) _) _ _ _)); first | (k_unfold; (try dsimp only)) | (k_end; wrow_close) | walk1 | (dsimp only; walk1) | (leave1; walk_say "STEP leave1"; try dsimp only) | fail "no step"))
   case done =>
    clear hR8
    intro ta1 tb1 u1 hh tk F1 N1
    (try dsimp only at F1)
    (try dsimp only)
    (try k_fold)
    repeat' (first
      | (k_unfold; (try dsimp only)) | (k_end; wrow_close) | walk1 | (dsimp only; walk1) | (leave1; walk_say "STEP leave1"; try dsimp only) | fail "no step"))
