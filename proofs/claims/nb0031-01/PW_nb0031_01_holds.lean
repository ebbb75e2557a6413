import PyProof.Rows.All
import Wide.All
import OpenK.AllK
import Wide.FinOn
import Lean
import PySem.Challenge.RW_nb0031_01

/- Pure1 -/
section
/- plain laws of the merge; no program in sight -/
namespace Mine
def good (rs : List (List Int)) (c : Int) : Bool := rs.all fun s => !(s.tail.contains c)
def pick (rs : List (List Int)) : Option Int := (rs.filterMap List.head?).find? (good rs)
def drop1 (c : Int) : List Int → List Int
  | [] => []
  | x :: r => if x = c then r else x :: r

theorem good_iff {rs : List (List Int)} {c : Int} : good rs c = true ↔ ∀ s ∈ rs, c ∉ s.tail := by
  simp [good]
theorem pick_none {rs : List (List Int)} (h : ∀ s ∈ rs, ∀ x xs, s = x :: xs → ∃ s' ∈ rs, x ∈ s'.tail) : pick rs = none := by
  unfold pick
  rw [List.find?_eq_none]
  intro x hx
  obtain ⟨s, hs, hh⟩ := List.mem_filterMap.mp hx
  cases s with
  | nil => cases hh
  | cons y ys =>
    cases hh
    obtain ⟨s', hs', hm⟩ := h _ hs _ _ rfl
    intro hg
    exact good_iff.mp hg s' hs' hm
theorem find_first {α : Type} {p : α → Bool} : ∀ {l : List α} {i : Nat} {x : α}, l[i]? = some x → p x = true → (∀ j y, j < i → l[j]? = some y → p y = false) → l.find? p = some x
  | [], _, _, h, _, _ => by simp at h
  | a :: l, 0, x, h, hp, _ => by simp at h; subst h; simp [hp]
  | a :: l, i + 1, x, h, hp, hb => by
    have h0 := hb 0 a (Nat.zero_lt_succ _) rfl
    rw [List.find?_cons, h0]
    exact find_first (by simpa using h) hp fun j y hj e => hb (j + 1) y (Nat.succ_lt_succ hj) (by simpa using e)
theorem find_filterMap {α β : Type} {f : α → Option β} {p : β → Bool} : ∀ {l : List α} {i : Nat} {a : α} {x : β}, l[i]? = some a → f a = some x → p x = true → (∀ j b y, j < i → l[j]? = some b → f b = some y → p y = false) → (l.filterMap f).find? p = some x
  | [], _, _, _, h, _, _, _ => by simp at h
  | b :: l, 0, a, x, h, hf, hp, _ => by
    simp at h; subst h
    rw [List.filterMap_cons, hf]; simp [hp]
  | b :: l, i + 1, a, x, h, hf, hp, hb => by
    have ih := find_filterMap (l := l) (by simpa using h) hf hp fun j b y hj e hy => hb (j + 1) b y (Nat.succ_lt_succ hj) (by simpa using e) hy
    rw [List.filterMap_cons]
    cases hfb : f b with
    | none => simpa using ih
    | some y =>
      simp only []
      rw [List.find?_cons, hb 0 b y (Nat.zero_lt_succ _) rfl hfb]
      exact ih
theorem pick_some {rs : List (List Int)} {i : Nat} {x : Int} {xs : List Int} (hi : rs[i]? = some (x :: xs)) (hg : ∀ s ∈ rs, x ∉ s.tail)
    (hb : ∀ j s, j < i → rs[j]? = some s → ∀ y ys, s = y :: ys → ∃ s' ∈ rs, y ∈ s'.tail) : pick rs = some x := by
  refine find_filterMap hi rfl (good_iff.mpr hg) ?_
  intro j s y hj hs hy
  cases s with
  | nil => cases hy
  | cons z zs =>
    cases hy
    obtain ⟨s', hs', hm⟩ := hb j _ hj hs _ _ rfl
    rw [← Bool.not_eq_true, good_iff]
    exact fun g => g s' hs' hm
end Mine
namespace Mine
/-- the merge: rows, what is told so far; the outcome (none: refused), the rows at the end -/
inductive Mg : Nat → List (List Int) → List Int → Option (List Int) → List (List Int) → Prop
  | done {n : Nat} {rows : List (List Int)} {acc : List Int} : (∀ s ∈ rows, s = []) → Mg n rows acc (some acc) rows
  | stuck {n : Nat} {rows : List (List Int)} {acc : List Int} : (∃ s ∈ rows, s ≠ []) → pick rows = none → Mg n rows acc none rows
  | step {n : Nat} {rows : List (List Int)} {acc : List Int} {c : Int} {r : Option (List Int)} {rows' : List (List Int)} :
      pick rows = some c → Mg n (rows.map (drop1 c)) (acc ++ [c]) r rows' → Mg (n + 1) rows acc r rows'
def total (rows : List (List Int)) : Nat := (rows.map List.length).sum
theorem drop1_le (c : Int) (s : List Int) : (drop1 c s).length ≤ s.length := by
  cases s with
  | nil => simp [drop1]
  | cons x r => simp only [drop1]; split <;> simp
theorem total_drop1_le (c : Int) : ∀ rows : List (List Int), total (rows.map (drop1 c)) ≤ total rows
  | [] => Nat.le_refl _
  | s :: r => by
    have := total_drop1_le c r
    have h := drop1_le c s
    simp only [total, List.map_cons, List.sum_cons] at *
    omega
theorem total_drop1_lt {c : Int} : ∀ {rows : List (List Int)}, (∃ s ∈ rows, ∃ xs, s = c :: xs) → total (rows.map (drop1 c)) + 1 ≤ total rows
  | [], h => by obtain ⟨s, hs, _⟩ := h; cases hs
  | s :: r, h => by
    have hr := total_drop1_le c r
    have hs := drop1_le c s
    obtain ⟨t, ht, xs, rfl⟩ := h
    simp only [total, List.map_cons, List.sum_cons] at *
    rcases List.mem_cons.mp ht with h' | h'
    · subst h'
      have : (drop1 c (c :: xs)).length + 1 = (c :: xs).length := by simp [drop1]
      omega
    · have := total_drop1_lt (rows := r) ⟨_, h', xs, rfl⟩
      simp only [total] at this
      omega
theorem pick_head {rows : List (List Int)} {c : Int} (h : pick rows = some c) : ∃ s ∈ rows, ∃ xs, s = c :: xs := by
  have hm := List.mem_of_find?_eq_some h
  obtain ⟨s, hs, hh⟩ := List.mem_filterMap.mp hm
  cases s with
  | nil => cases hh
  | cons y ys => cases hh; exact ⟨_, hs, ys, rfl⟩
theorem pick_filter (rows : List (List Int)) : pick (rows.filter fun s => !s.isEmpty) = pick rows := by
  have h1 : (rows.filter fun s => !s.isEmpty).filterMap List.head? = rows.filterMap List.head? := by
    induction rows with
    | nil => rfl
    | cons s r ih =>
      cases s with
      | nil => simp only [List.filter_cons, List.isEmpty_nil, Bool.not_true, Bool.false_eq_true, if_false, List.filterMap_cons, List.head?_nil]; exact ih
      | cons x xs => simp [ih]
  have h2 : good (rows.filter fun s => !s.isEmpty) = good rows := by
    funext c
    unfold good
    clear h1
    induction rows with
    | nil => rfl
    | cons s r ih =>
      cases s with
      | nil => simpa using ih
      | cons x xs => simp only [List.filter_cons, List.isEmpty_cons, Bool.not_false, if_true, List.all_cons]; rw [ih]
  unfold pick
  rw [h1, h2]
end Mine

end

/- Pure3 -/
section
/- the merge of ways in a tree; no program in sight -/
namespace Mine

/-- the ways up in a tree: P k leads from k to 0 -/
structure Tree (P : Int → List Int) (d : Int → Int) : Prop where
  trans : ∀ {x y z : Int}, x ∈ P y → y ∈ P z → x ∈ P z
  anti : ∀ {x y : Int}, x ∈ P y → y ∈ P x → x = y
  lin : ∀ {x y z : Int}, x ∈ P z → y ∈ P z → x ∈ P y ∨ y ∈ P x
  pw : ∀ k, (P k).Pairwise fun a b => b ∈ P a ∧ b ≠ a
  zero : ∀ k, 0 ∈ P k
  self : ∀ {x k : Int}, x ∈ P k → x ∈ P x
  top : ∀ {x : Int}, x ∈ P 0 → x = 0
  dep : ∀ {x y : Int}, x ∈ P y → y ∈ P y → x ≠ y → d x < d y

def rowT (P : Int → List Int) (q : Int × Bool) : List Int := if q.2 then P q.1 else (P q.1).reverse
/-- the rows without S -/
def without' (S : List Int) (rows : List (List Int)) : List (List Int) := rows.map fun r => r.filter fun x => !S.contains x

theorem find_first' {α : Type} {p : α → Bool} {x : α} : ∀ {l : List α} {i : Nat}, l[i]? = some x → p x = true → (∀ j y, j < i → l[j]? = some y → p y = true → y = x) → l.find? p = some x
  | [], _, h, _, _ => by simp at h
  | a :: l, 0, h, hp, _ => by simp at h; subst h; simp [hp]
  | a :: l, i + 1, h, hp, hb => by
    rw [List.find?_cons]
    cases ha : p a with
    | true => rw [hb 0 a (Nat.zero_lt_succ _) rfl ha]
    | false => exact find_first' (by simpa using h) hp fun j y hj e => hb (j + 1) y (Nat.succ_lt_succ hj) (by simpa using e)

/-- the candidate: a good head, and any good head ahead of it is the same -/
theorem pick_is {rs : List (List Int)} {i : Nat} {x : Int} {xs : List Int} (hi : rs[i]? = some (x :: xs)) (hg : ∀ s ∈ rs, x ∉ s.tail)
    (hb : ∀ (j : Nat) (y : Int) (ys : List Int), j < i → rs[j]? = some (y :: ys) → (∀ s ∈ rs, y ∉ s.tail) → y = x) : pick rs = some x := by
  have key : ∀ (l : List (List Int)) (i : Nat), l[i]? = some (x :: xs) → (∀ (j : Nat) (y : Int) (ys : List Int), j < i → l[j]? = some (y :: ys) → good rs y = true → y = x) → (l.filterMap List.head?).find? (good rs) = some x := by
    intro l
    induction l with
    | nil => intro i h; simp at h
    | cons a l ih =>
      intro i h hb
      cases i with
      | zero =>
        simp at h; subst h
        rw [List.filterMap_cons]
        simp [good_iff.mpr hg]
      | succ i =>
        have ih' := ih i (by simpa using h) fun j y ys hj e => hb (j + 1) y ys (Nat.succ_lt_succ hj) (by simpa using e)
        cases a with
        | nil => rw [List.filterMap_cons]; simpa using ih'
        | cons y ys =>
          rw [List.filterMap_cons]
          simp only [List.head?_cons, List.find?_cons]
          cases hy : good rs y with
          | true => rw [hb 0 y ys (Nat.zero_lt_succ _) rfl hy]
          | false => exact ih'
  exact key rs i hi fun j y ys hj e hg' => hb j y ys hj e (good_iff.mp hg')

theorem drop1_filter {c : Int} {l : List Int} (hnd : l.Nodup) (ht : c ∉ l.tail) : drop1 c l = l.filter fun x => x != c := by
  cases l with
  | nil => rfl
  | cons a r =>
    simp only [List.tail_cons] at ht
    have hr : r.filter (fun x => x != c) = r := List.filter_eq_self.mpr fun x hx => by simp; exact fun e => ht (e ▸ hx)
    simp only [drop1]
    by_cases h : a = c
    · rw [if_pos h, List.filter_cons, hr]; simp [h]
    · rw [if_neg h, List.filter_cons, hr]; simp [h]

theorem without_step {S : List Int} {rows : List (List Int)} {c : Int} (hnd : ∀ r ∈ rows, r.Nodup) (hg : ∀ s ∈ without' S rows, c ∉ s.tail) : (without' S rows).map (drop1 c) = without' (S ++ [c]) rows := by
  unfold without' at *
  rw [List.map_map]
  apply List.map_congr_left
  intro r hr
  have h1 : (r.filter fun x => !S.contains x).Nodup := (hnd r hr).sublist List.filter_sublist
  have h2 := hg _ (List.mem_map_of_mem hr)
  show drop1 c (r.filter fun x => !S.contains x) = _
  rw [drop1_filter h1 h2, List.filter_filter]
  apply List.filter_congr
  intro x _
  by_cases hx : x = c
  · subst hx; simp
  · simp [hx]

section
variable {P : Int → List Int} {d : Int → Int} {ws : List (Int × Bool)} {S : List Int}

theorem Tree.nodup (T : Tree P d) (k : Int) : (P k).Nodup := (T.pw k).imp fun h e => h.2 e.symm
theorem Tree.rowNodup (T : Tree P d) {q : Int × Bool} : (rowT P q).Nodup := by
  unfold rowT
  split
  · exact T.nodup _
  · exact List.pairwise_reverse.mpr ((T.nodup _).imp fun h => Ne.symm h)

/-- in a row up, what is behind another has that one below it -/
theorem Tree.tail_up (T : Tree P d) {k x : Int} (h : x ∈ ((P k).filter fun x => !S.contains x).tail) : ∃ y ys, ((P k).filter fun x => !S.contains x) = y :: ys ∧ x ∈ P y ∧ x ≠ y := by
  have hp := (T.pw k).sublist (List.filter_sublist (p := fun x => !S.contains x))
  cases e : (P k).filter fun x => !S.contains x with
  | nil => rw [e] at h; simp at h
  | cons y ys =>
    rw [e] at h hp
    obtain ⟨h1, _⟩ := List.pairwise_cons.mp hp
    exact ⟨y, ys, rfl, h1 x h⟩
theorem Tree.tail_down (T : Tree P d) {k x : Int} (h : x ∈ ((P k).reverse.filter fun x => !S.contains x).tail) : ∃ y ys, ((P k).reverse.filter fun x => !S.contains x) = y :: ys ∧ y ∈ P x ∧ y ≠ x := by
  have hp := (List.pairwise_reverse.mpr (T.pw k)).sublist (List.filter_sublist (p := fun x => !S.contains x))
  cases e : (P k).reverse.filter fun x => !S.contains x with
  | nil => rw [e] at h; simp at h
  | cons y ys =>
    rw [e] at h hp
    obtain ⟨h1, _⟩ := List.pairwise_cons.mp hp
    exact ⟨y, ys, rfl, h1 x h⟩
end
end Mine

end

/- Pure4 -/
section
namespace Mine
section
variable {P : Int → List Int} {d : Int → Int} {ws : List (Int × Bool)} {S : List Int}

def Cn (P : Int → List Int) (ws : List (Int × Bool)) (x : Int) : Prop := x ≠ 0 ∧ ∃ q ∈ ws, q.2 = true ∧ x ∈ P q.1
def Wn (P : Int → List Int) (ws : List (Int × Bool)) (x : Int) : Prop := x ≠ 0 ∧ ∃ q ∈ ws, q.2 = false ∧ x ∈ P q.1

theorem mem_rowT {q : Int × Bool} {x : Int} : x ∈ rowT P q ↔ x ∈ P q.1 := by
  unfold rowT
  split <;> simp

theorem mem_without {rows : List (List Int)} {s : List Int} (h : s ∈ without' S rows) : ∃ r ∈ rows, s = r.filter fun x => !S.contains x := by
  obtain ⟨r, hr, e⟩ := List.mem_map.mp h
  exact ⟨r, hr, e.symm⟩

theorem without_nil (rows : List (List Int)) : without' [] rows = rows := by
  unfold without'
  conv => rhs; rw [← List.map_id rows]
  exact List.map_congr_left fun r _ => List.filter_eq_self.mpr (by simp)

theorem pick_spec {rs : List (List Int)} {c : Int} (h : pick rs = some c) : (∃ s ∈ rs, ∃ xs, s = c :: xs) ∧ ∀ s ∈ rs, c ∉ s.tail :=
  ⟨pick_head h, good_iff.mp (List.find?_some h)⟩

theorem Tree.tail0 (T : Tree P d) {q : Int × Bool} (hq : q.2 = true) {z : Int} (hz : z ∈ P q.1) (hz0 : z ≠ 0) (hzS : z ∉ S) (h0 : (0 : Int) ∉ S) : (0 : Int) ∈ ((rowT P q).filter fun x => !S.contains x).tail := by
  have hzr : z ∈ (rowT P q).filter fun x => !S.contains x := List.mem_filter.mpr ⟨mem_rowT.mpr hz, by simpa using hzS⟩
  have h0r : (0 : Int) ∈ (rowT P q).filter fun x => !S.contains x := List.mem_filter.mpr ⟨mem_rowT.mpr (T.zero _), by simpa using h0⟩
  have hp : ((rowT P q).filter fun x => !S.contains x).Pairwise fun a b => b ∈ P a ∧ b ≠ a := by
    rw [rowT, if_pos hq]
    exact (T.pw _).sublist List.filter_sublist
  cases e : (rowT P q).filter fun x => !S.contains x with
  | nil => rw [e] at hzr; simp at hzr
  | cons y ys =>
    rw [e] at hzr h0r hp
    rw [List.tail_cons]
    rcases List.mem_cons.mp h0r with h | h
    · subst h
      rcases List.mem_cons.mp hzr with h' | h'
      · exact absurd h' hz0
      · exact absurd (T.top ((List.pairwise_cons.mp hp).1 z h').1) hz0
    · exact h

theorem Tree.tailW (T : Tree P d) {q : Int × Bool} (hq : q.2 = false) {z : Int} (hz : z ∈ P q.1) (hz0 : z ≠ 0) (hzS : z ∉ S) (h0 : (0 : Int) ∉ S) : z ∈ ((rowT P q).filter fun x => !S.contains x).tail := by
  have hzr : z ∈ (rowT P q).filter fun x => !S.contains x := List.mem_filter.mpr ⟨mem_rowT.mpr hz, by simpa using hzS⟩
  have h0r : (0 : Int) ∈ (rowT P q).filter fun x => !S.contains x := List.mem_filter.mpr ⟨mem_rowT.mpr (T.zero _), by simpa using h0⟩
  have hp : ((rowT P q).filter fun x => !S.contains x).Pairwise fun a b => a ∈ P b ∧ a ≠ b := by
    rw [rowT, if_neg (by simp [hq])]
    exact (List.pairwise_reverse.mpr (T.pw _)).sublist List.filter_sublist
  cases e : (rowT P q).filter fun x => !S.contains x with
  | nil => rw [e] at hzr; simp at hzr
  | cons y ys =>
    rw [e] at hzr h0r hp
    rw [List.tail_cons]
    rcases List.mem_cons.mp hzr with h | h
    · subst h
      rcases List.mem_cons.mp h0r with h' | h'
      · exact absurd h'.symm hz0
      · exact absurd (T.top ((List.pairwise_cons.mp hp).1 0 h').1) hz0
    · exact h

theorem no_head (T : Tree P d) (hS : ∀ x ∈ S, Cn P ws x ∧ ¬ Wn P ws x) {z : Int} (hzC : Cn P ws z) (hzW : Wn P ws z) {c : Int} (h : pick (without' S (ws.map (rowT P))) = some c) : Cn P ws c ∧ ¬ Wn P ws c ∧ c ∉ S := by
  obtain ⟨⟨s, hs, xs, e⟩, hg⟩ := pick_spec h
  obtain ⟨r, hr, e1⟩ := mem_without hs
  obtain ⟨q, hq, rfl⟩ := List.mem_map.mp hr
  have h0S : (0 : Int) ∉ S := fun h => (hS 0 h).1.1 rfl
  have hzS : z ∉ S := fun h => (hS z h).2 hzW
  have hcm : c ∈ (rowT P q).filter fun x => !S.contains x := by rw [← e1, e]; exact List.mem_cons_self
  obtain ⟨hcr, hcS⟩ := List.mem_filter.mp hcm
  have hcS' : c ∉ S := by simpa using hcS
  have hcP := mem_rowT.mp hcr
  have memr : ∀ q' ∈ ws, ((rowT P q').filter fun x => !S.contains x) ∈ without' S (ws.map (rowT P)) := fun q' hq' => List.mem_map_of_mem (List.mem_map_of_mem hq')
  have hc0 : c ≠ 0 := by
    intro h0
    subst h0
    obtain ⟨hz0, q', hq', hu, hz⟩ := hzC
    exact hg _ (memr q' hq') (T.tail0 hu hz hz0 hzS h0S)
  have hnW : ¬ Wn P ws c := by
    rintro ⟨_, q', hq', hdn, hcq'⟩
    exact hg _ (memr q' hq') (T.tailW hdn hcq' hc0 hcS' h0S)
  refine ⟨⟨hc0, ?_⟩, hnW, hcS'⟩
  cases hu : q.2 with
  | true => exact ⟨q, hq, hu, hcP⟩
  | false => exact absurd ⟨hc0, q, hq, hu, hcP⟩ hnW

theorem exists_max (f : Int → Int) : ∀ {l : List Int}, l ≠ [] → ∃ x ∈ l, ∀ y ∈ l, f y ≤ f x
  | [], h => absurd rfl h
  | [a], _ => ⟨a, by simp, by simp⟩
  | a :: b :: l, _ => by
    obtain ⟨x, hx, hm⟩ := exists_max f (l := b :: l) (by simp)
    by_cases h : f x ≤ f a
    · exact ⟨a, by simp, fun y hy => by
        rcases List.mem_cons.mp hy with rfl | hy
        · exact Int.le_refl _
        · exact Int.le_trans (hm y hy) h⟩
    · exact ⟨x, List.mem_cons_of_mem _ hx, fun y hy => by
        rcases List.mem_cons.mp hy with rfl | hy
        · omega
        · exact hm y hy⟩

theorem some_head (T : Tree P d) {x : Int} (hxC : Cn P ws x) (hxW : ¬ Wn P ws x) (hxS : x ∉ S) : pick (without' S (ws.map (rowT P))) ≠ none := by
  classical
  let l := ((ws.map (rowT P)).flatten).filter fun y => decide (Cn P ws y ∧ ¬ Wn P ws y ∧ y ∉ S)
  have inl : ∀ y, Cn P ws y → ¬ Wn P ws y → y ∉ S → y ∈ l := fun y h1 h2 h3 => by
    refine List.mem_filter.mpr ⟨?_, by simp [h1, h2, h3]⟩
    obtain ⟨_, q, hq, _, hy⟩ := h1
    exact List.mem_flatten.mpr ⟨rowT P q, List.mem_map_of_mem hq, mem_rowT.mpr hy⟩
  obtain ⟨y, hy, hmax⟩ := exists_max d (l := l) (List.ne_nil_of_mem (inl x hxC hxW hxS))
  obtain ⟨hyf, hyp⟩ := List.mem_filter.mp hy
  have hyp' : Cn P ws y ∧ ¬ Wn P ws y ∧ y ∉ S := by simpa using hyp
  obtain ⟨hyC, hyW, hyS⟩ := hyp'
  have hg : ∀ s ∈ without' S (ws.map (rowT P)), y ∉ s.tail := by
    intro s hs ht
    obtain ⟨r, hr, rfl⟩ := mem_without hs
    obtain ⟨q, hq, rfl⟩ := List.mem_map.mp hr
    have hyr := mem_rowT.mp (List.mem_filter.mp (List.mem_of_mem_tail ht)).1
    cases hu : q.2 with
    | false => exact hyW ⟨hyC.1, q, hq, hu, hyr⟩
    | true =>
      rw [rowT, if_pos hu] at ht
      obtain ⟨w, wsx, e, h1, h2⟩ := T.tail_up ht
      have hwm : w ∈ (P q.1).filter fun x => !S.contains x := by rw [e]; exact List.mem_cons_self
      obtain ⟨hwP, hwS⟩ := List.mem_filter.mp hwm
      have hw0 : w ≠ 0 := fun h0 => hyC.1 (T.top (h0 ▸ h1))
      have hwW : ¬ Wn P ws w := fun ⟨_, q', hq', hd', hw'⟩ => hyW ⟨hyC.1, q', hq', hd', T.trans h1 hw'⟩
      have := hmax w (inl w ⟨hw0, q, hq, hu, hwP⟩ hwW (by simpa using hwS))
      have := T.dep h1 (T.self hwP) h2
      omega
  intro hn
  unfold pick at hn
  rw [List.find?_eq_none] at hn
  obtain ⟨_, q, hq, hu, hyq⟩ := hyC
  have hm : ((rowT P q).filter fun x => !S.contains x) ∈ without' S (ws.map (rowT P)) := List.mem_map_of_mem (List.mem_map_of_mem hq)
  have hyr : y ∈ (rowT P q).filter fun x => !S.contains x := List.mem_filter.mpr ⟨mem_rowT.mpr hyq, by simpa using hyS⟩
  have hg' := hg _ hm
  cases e : (rowT P q).filter fun x => !S.contains x with
  | nil => rw [e] at hyr; simp at hyr
  | cons a as =>
    rw [e] at hyr hg' hm
    rcases List.mem_cons.mp hyr with h | h
    · subst h
      exact hn y (List.mem_filterMap.mpr ⟨_, hm, rfl⟩) (good_iff.mpr hg)
    · exact hg' h

theorem le_total_of_mem : ∀ {rows : List (List Int)} {s : List Int}, s ∈ rows → s.length ≤ total rows
  | a :: r, s, h => by
    simp only [total, List.map_cons, List.sum_cons]
    rcases List.mem_cons.mp h with rfl | h
    · omega
    · have := le_total_of_mem h
      simp only [total] at this
      omega

theorem merge_no (T : Tree P d) {z : Int} (hzC : Cn P ws z) (hzW : Wn P ws z) : ∃ n S', Mg n (ws.map (rowT P)) [] none (without' S' (ws.map (rowT P))) ∧ ∀ x, x ∈ S' ↔ Cn P ws x ∧ ¬ Wn P ws x := by
  have key : ∀ (k : Nat) (S acc : List Int), total (without' S (ws.map (rowT P))) ≤ k → (∀ x ∈ S, Cn P ws x ∧ ¬ Wn P ws x) → ∃ n S', Mg n (without' S (ws.map (rowT P))) acc none (without' S' (ws.map (rowT P))) ∧ ∀ x, x ∈ S' ↔ Cn P ws x ∧ ¬ Wn P ws x := by
    intro k
    induction k with
    | zero =>
      intro S acc hk hS
      -- no element is left: but z is
      exfalso
      obtain ⟨_, q, hq, hu, hz⟩ := hzC
      have hzS : z ∉ S := fun h => (hS z h).2 hzW
      have hm : ((rowT P q).filter fun x => !S.contains x) ∈ without' S (ws.map (rowT P)) := List.mem_map_of_mem (List.mem_map_of_mem hq)
      have hzr : z ∈ (rowT P q).filter fun x => !S.contains x := List.mem_filter.mpr ⟨mem_rowT.mpr hz, by simpa using hzS⟩
      have h1 : 0 < ((rowT P q).filter fun x => !S.contains x).length := List.length_pos_of_mem hzr
      have h2 : ((rowT P q).filter fun x => !S.contains x).length ≤ total (without' S (ws.map (rowT P))) := le_total_of_mem hm
      omega
    | succ k ih =>
      intro S acc hk hS
      cases hp : pick (without' S (ws.map (rowT P))) with
      | none =>
        refine ⟨0, S, .stuck ?_ hp, fun x => ⟨hS x, fun ⟨h1, h2⟩ => ?_⟩⟩
        · obtain ⟨_, q, hq, hu, hz⟩ := hzC
          have hzS : z ∉ S := fun h => (hS z h).2 hzW
          refine ⟨_, List.mem_map_of_mem (List.mem_map_of_mem hq), fun e => ?_⟩
          have hzr : z ∈ (rowT P q).filter fun x => !S.contains x := List.mem_filter.mpr ⟨mem_rowT.mpr hz, by simpa using hzS⟩
          rw [e] at hzr
          simp at hzr
        · exact Classical.byContradiction fun h3 => some_head T h1 h2 h3 hp
      | some c =>
        obtain ⟨hc1, hc2, hc3⟩ := no_head T hS hzC hzW hp
        have hst := without_step (S := S) (rows := ws.map (rowT P)) (fun r hr => by obtain ⟨q, _, rfl⟩ := List.mem_map.mp hr; exact T.rowNodup) (pick_spec hp).2
        have hlt := total_drop1_lt (pick_spec hp).1
        rw [hst] at hlt
        obtain ⟨n, S', h1, h2⟩ := ih (S ++ [c]) (acc ++ [c]) (by omega) fun x hx => by
          rcases List.mem_append.mp hx with hx | hx
          · exact hS x hx
          · rw [List.mem_singleton.mp hx]; exact ⟨hc1, hc2⟩
        exact ⟨n + 1, S', .step hp (by rw [hst]; exact h1), h2⟩
  obtain ⟨n, S', h1, h2⟩ := key _ [] [] (Nat.le_refl _) (by simp)
  rw [without_nil] at h1
  exact ⟨n, S', h1, h2⟩
end
end Mine

end

/- Pure5 -/
section
namespace Mine
section
variable {P : Int → List Int} {d : Int → Int} {ws : List (Int × Bool)}

theorem mg_run {rows : List (List Int)} (hnd : ∀ r ∈ rows, r.Nodup) {n : Nat} {r : Option (List Int)} {rF : List (List Int)} : ∀ (L S acc : List Int), (∀ pre c post, L = pre ++ c :: post → pick (without' (S ++ pre) rows) = some c) → Mg n (without' (S ++ L) rows) (acc ++ L) r rF → Mg (n + L.length) (without' S rows) acc r rF
  | [], S, acc, _, h => by simpa using h
  | c :: L, S, acc, hp, h => by
    have h1 := hp [] c L rfl
    rw [List.append_nil] at h1
    have hst := without_step hnd (pick_spec h1).2
    refine .step (n := n + L.length) h1 ?_
    rw [hst]
    refine mg_run hnd L (S ++ [c]) (acc ++ [c]) (fun pre x post e => ?_) (by simpa using h)
    have := hp (c :: pre) x post (by rw [e]; rfl)
    simpa using this

theorem sorted_split {kc : Int → Int} {L pre post : List Int} {c : Int} (e : L = pre ++ c :: post) (hp : L.Pairwise fun a b => kc a < kc b) : ∀ y ∈ L, y ∈ pre ↔ kc y < kc c := by
  subst e
  obtain ⟨_, h2, h3⟩ := List.pairwise_append.mp hp
  obtain ⟨h4, _⟩ := List.pairwise_cons.mp h2
  intro y hy
  constructor
  · intro h; exact h3 y h c List.mem_cons_self
  · intro h
    rcases List.mem_append.mp hy with hy | hy
    · exact hy
    · rcases List.mem_cons.mp hy with rfl | hy
      · omega
      · have := h4 y hy; omega

/-- (i, k) is a lowest way up -/
def Low (P : Int → List Int) (ws : List (Int × Bool)) (i : Nat) (k : Int) : Prop := ws[i]? = some (k, true) ∧ ∀ q ∈ ws, q.2 = true → k ∈ P q.1 → q.1 = k

structure OrdC (P : Int → List Int) (d : Int → Int) (ws : List (Int × Bool)) (M kc : Int → Int) : Prop where
  at_ : ∀ x, Cn P ws x → ∃ i k, Low P ws i k ∧ x ∈ P k ∧ M x = (i : Int)
  max : ∀ x i k, Cn P ws x → Low P ws i k → x ∈ P k → (i : Int) ≤ M x
  lex : ∀ a b, Cn P ws a → Cn P ws b → ((M a < M b ∨ (M a = M b ∧ d b < d a)) ↔ kc a < kc b)
structure OrdW (P : Int → List Int) (d : Int → Int) (ws : List (Int × Bool)) (M kc : Int → Int) : Prop where
  at_ : ∀ x, Wn P ws x → ∃ (i : Nat) (k : Int), ws[i]? = some (k, false) ∧ x ∈ P k ∧ M x = (i : Int)
  min : ∀ x (i : Nat) (k : Int), Wn P ws x → ws[i]? = some (k, false) → x ∈ P k → M x ≤ (i : Int)
  lex : ∀ a b, Wn P ws a → Wn P ws b → ((M a < M b ∨ (M a = M b ∧ d a < d b)) ↔ kc a < kc b)

theorem row_at {S : List Int} {i : Nat} {q : Int × Bool} (h : ws[i]? = some q) : (without' S (ws.map (rowT P)))[i]? = some ((rowT P q).filter fun x => !S.contains x) := by
  unfold without'
  rw [List.getElem?_map, List.getElem?_map, h]; rfl
theorem row_of {S : List Int} {i : Nat} {r : List Int} (h : (without' S (ws.map (rowT P)))[i]? = some r) : ∃ q, ws[i]? = some q ∧ r = (rowT P q).filter fun x => !S.contains x := by
  unfold without' at h
  rw [List.getElem?_map, List.getElem?_map] at h
  cases e : ws[i]? with
  | none => rw [e] at h; cases h
  | some q => rw [e] at h; exact ⟨q, rfl, (Option.some.inj h).symm⟩

theorem phase1 (T : Tree P d) {M kc : Int → Int} (O : OrdC P d ws M kc) (hnd : (ws.map (·.1)).Nodup) (hself : ∀ q ∈ ws, q.1 ∈ P q.1 ∧ q.1 ≠ 0) (hdis : ∀ x, Cn P ws x → ¬ Wn P ws x) {L pre post : List Int} {c : Int} (hL : ∀ x, x ∈ L ↔ Cn P ws x) (hp : L.Pairwise fun a b => kc a < kc b) (e : L = pre ++ c :: post) :
    pick (without' pre (ws.map (rowT P))) = some c := by
  have hcC : Cn P ws c := (hL c).mp (by rw [e]; simp)
  have hsp := sorted_split e hp
  have hpre : ∀ x ∈ pre, Cn P ws x := fun x hx => (hL x).mp (by rw [e]; exact List.mem_append_left _ hx)
  have hpc : ∀ y, Cn P ws y → (y ∈ pre ↔ kc y < kc c) := fun y hy => hsp y ((hL y).mpr hy)
  have hcp : c ∉ pre := fun h => by have := (hpc c hcC).mp h; omega
  have h0p : (0 : Int) ∉ pre := fun h => (hpre 0 h).1 rfl
  obtain ⟨i, k, hlow, hck, hMc⟩ := O.at_ c hcC
  have memr : ∀ q' ∈ ws, ((rowT P q').filter fun x => !pre.contains x) ∈ without' pre (ws.map (rowT P)) := fun q' hq' => List.mem_map_of_mem (List.mem_map_of_mem hq')
  have below : ∀ y, Cn P ws y → c ∈ P y → c ≠ y → y ∈ pre := fun y hy h1 h2 => by
    obtain ⟨i', k', hl', hyk', hMy⟩ := O.at_ y hy
    have h3 := O.max c i' k' hcC hl' (T.trans h1 hyk')
    have h4 := T.dep h1 (T.self hyk') h2
    refine (hpc y hy).mpr ((O.lex y c hy hcC).mp ?_)
    by_cases h : M y < M c
    · exact .inl h
    · exact .inr ⟨by omega, h4⟩
  have upOnly : ∀ q ∈ ws, c ∈ P q.1 → q.2 = true := fun q hq h => by
    cases hu : q.2 with
    | true => rfl
    | false => exact absurd ⟨hcC.1, q, hq, hu, h⟩ (hdis c hcC)
  have hg : ∀ s ∈ without' pre (ws.map (rowT P)), c ∉ s.tail := by
    intro s hs ht
    obtain ⟨r, hr, rfl⟩ := mem_without hs
    obtain ⟨q, hq, rfl⟩ := List.mem_map.mp hr
    have hcr := mem_rowT.mp (List.mem_filter.mp (List.mem_of_mem_tail ht)).1
    have hu := upOnly q hq hcr
    rw [rowT, if_pos hu] at ht
    obtain ⟨y, ys, e1, h1, h2⟩ := T.tail_up ht
    have hym : y ∈ (P q.1).filter fun x => !pre.contains x := by rw [e1]; exact List.mem_cons_self
    obtain ⟨hyP, hyS⟩ := List.mem_filter.mp hym
    have hy0 : y ≠ 0 := fun h0 => hcC.1 (T.top (h0 ▸ h1))
    exact (by simpa using hyS : y ∉ pre) (below y ⟨hy0, q, hq, hu, hyP⟩ h1 h2)
  have hiw : (k, true) ∈ ws := List.mem_of_getElem? hlow.1
  have hrow := row_at (P := P) (S := pre) hlow.1
  have hcr : c ∈ (rowT P (k, true)).filter fun x => !pre.contains x := List.mem_filter.mpr ⟨mem_rowT.mpr hck, by simpa using hcp⟩
  obtain ⟨xs, hxs⟩ : ∃ xs, ((rowT P (k, true)).filter fun x => !pre.contains x) = c :: xs := by
    have hg' := hg _ (memr _ hiw)
    cases e2 : (rowT P (k, true)).filter fun x => !pre.contains x with
    | nil => rw [e2] at hcr; simp at hcr
    | cons a as =>
      rw [e2] at hcr hg'
      rcases List.mem_cons.mp hcr with h | h
      · exact ⟨as, by rw [h]⟩
      · exact absurd h hg'
  rw [hxs] at hrow
  refine pick_is hrow hg fun j h hs hj hr hgh => ?_
  obtain ⟨q, hq, er⟩ := row_of hr
  have hqm := List.mem_of_getElem? hq
  have hhm : h ∈ (rowT P q).filter fun x => !pre.contains x := by rw [← er]; exact List.mem_cons_self
  obtain ⟨hhr, hhS⟩ := List.mem_filter.mp hhm
  have hhP := mem_rowT.mp hhr
  have hhp : h ∉ pre := by simpa using hhS
  have hh0 : h ≠ 0 := fun h0 => by
    subst h0
    exact hgh _ (memr _ hiw) (T.tail0 (q := (k, true)) rfl hck hcC.1 hcp h0p)
  cases hu : q.2 with
  | false => exact absurd (T.tailW hu hhP hh0 hhp h0p) (hgh _ (memr q hqm))
  | true =>
    have hhC : Cn P ws h := ⟨hh0, q, hqm, hu, hhP⟩
    obtain ⟨l, kl, hll, hhl, hMh⟩ := O.at_ h hhC
    have hge : M c ≤ M h := by
      refine Classical.byContradiction fun hn => hhp ((hpc h hhC).mpr ((O.lex h c hhC hcC).mp (.inl (by omega))))
    have inj : ∀ (a b : Nat) (x : Int) (u v : Bool), ws[a]? = some (x, u) → ws[b]? = some (x, v) → a = b := fun a b x u v h1 h2 => by
      have e1 : (ws.map (·.1))[a]? = some x := by rw [List.getElem?_map, h1]; rfl
      have e2 : (ws.map (·.1))[b]? = some x := by rw [List.getElem?_map, h2]; rfl
      exact (List.getElem?_inj (List.getElem?_eq_some_iff.mp e1).1 hnd).mp (e1.trans e2.symm)
    have hlw : (kl, true) ∈ ws := List.mem_of_getElem? hll.1
    by_cases hkl : kl = h
    · subst hkl
      have hqe := hll.2 q hqm hu hhP
      have : ws[j]? = some (kl, true) := by rw [hq, ← hqe, ← hu]
      have := inj j l kl true true this hll.1
      omega
    · have hklC : Cn P ws kl := ⟨(hself _ hlw).2, _, hlw, rfl, (hself _ hlw).1⟩
      have hklp : kl ∈ pre := by
        refine Classical.byContradiction fun hn => ?_
        have hg2 := hgh _ (memr _ hlw)
        have m1 : h ∈ (rowT P (kl, true)).filter fun x => !pre.contains x := List.mem_filter.mpr ⟨mem_rowT.mpr hhl, by simpa using hhp⟩
        have m2 : kl ∈ (rowT P (kl, true)).filter fun x => !pre.contains x := List.mem_filter.mpr ⟨mem_rowT.mpr (hself _ hlw).1, by simpa using hn⟩
        have hpw : ((rowT P (kl, true)).filter fun x => !pre.contains x).Pairwise fun a b => b ∈ P a ∧ b ≠ a := by
          rw [rowT, if_pos rfl]; exact (T.pw _).sublist List.filter_sublist
        cases e2 : (rowT P (kl, true)).filter fun x => !pre.contains x with
        | nil => rw [e2] at m1; simp at m1
        | cons a as =>
          rw [e2] at m1 m2 hg2 hpw
          rcases List.mem_cons.mp m1 with ha | ha
          · subst ha
            rcases List.mem_cons.mp m2 with hb | hb
            · exact hkl hb
            · exact hkl (T.anti ((List.pairwise_cons.mp hpw).1 kl hb).1 hhl)
          · exact hg2 ha
      have h5 := (O.lex kl c hklC hcC).mpr ((hpc kl hklC).mp hklp)
      have h6 := O.max kl l kl hklC hll (hself _ hlw).1
      have hli : l = i := by omega
      subst hli
      have hke : kl = k := by
        have h7 := hll.1
        rw [hlow.1] at h7
        injection h7 with h7; injection h7 with h7; exact h7.symm
      subst hke
      refine Classical.byContradiction fun hne => ?_
      have m1 : h ∈ (rowT P (kl, true)).filter fun x => !pre.contains x := List.mem_filter.mpr ⟨mem_rowT.mpr hhl, by simpa using hhp⟩
      have hg2 := hgh _ (memr _ hlw)
      rw [hxs] at m1 hg2
      rcases List.mem_cons.mp m1 with ha | ha
      · exact hne ha
      · exact hg2 ha
end
end Mine

end

/- Pure6 -/
section
namespace Mine
section
variable {P : Int → List Int} {d : Int → Int} {ws : List (Int × Bool)}

theorem phase2 (T : Tree P d) (hne : ws ≠ []) (hdis : ∀ x, Cn P ws x → ¬ Wn P ws x) {L : List Int} (hL : ∀ x, x ∈ L ↔ Cn P ws x) : pick (without' L (ws.map (rowT P))) = some 0 := by
  have h0L : (0 : Int) ∉ L := fun h => ((hL 0).mp h).1 rfl
  have hg : ∀ s ∈ without' L (ws.map (rowT P)), (0 : Int) ∉ s.tail := by
    intro s hs ht
    obtain ⟨r, hr, rfl⟩ := mem_without hs
    obtain ⟨q, hq, rfl⟩ := List.mem_map.mp hr
    cases hu : q.2 with
    | true =>
      rw [rowT, if_pos hu] at ht
      obtain ⟨y, ys, e1, h1, h2⟩ := T.tail_up ht
      have hym : y ∈ (P q.1).filter fun x => !L.contains x := by rw [e1]; exact List.mem_cons_self
      obtain ⟨hyP, hyS⟩ := List.mem_filter.mp hym
      exact (by simpa using hyS : y ∉ L) ((hL y).mpr ⟨Ne.symm h2, q, hq, hu, hyP⟩)
    | false =>
      rw [rowT, if_neg (by simp [hu])] at ht
      obtain ⟨y, ys, e1, h1, h2⟩ := T.tail_down ht
      exact h2 (T.top h1)
  obtain ⟨q, ws', rfl⟩ := List.exists_cons_of_ne_nil hne
  have hrow := row_at (P := P) (S := L) (ws := q :: ws') (i := 0) (q := q) rfl
  have h0r : (0 : Int) ∈ (rowT P q).filter fun x => !L.contains x := List.mem_filter.mpr ⟨mem_rowT.mpr (T.zero _), by simpa using h0L⟩
  have hm := List.mem_of_getElem? hrow
  have hg' := hg _ hm
  cases e : (rowT P q).filter fun x => !L.contains x with
  | nil => rw [e] at h0r; simp at h0r
  | cons a as =>
    rw [e] at hrow h0r hg'
    rcases List.mem_cons.mp h0r with h | h
    · subst h
      exact pick_is hrow hg fun j _ _ hj => by omega
    · exact absurd h hg'

theorem phase3 (T : Tree P d) {M kc : Int → Int} (O : OrdW P d ws M kc) (hdis : ∀ x, Cn P ws x → ¬ Wn P ws x) {L1 L pre post : List Int} {c : Int} (hL1 : ∀ x, x ∈ L1 ↔ Cn P ws x) (hL : ∀ x, x ∈ L ↔ Wn P ws x) (hp : L.Pairwise fun a b => kc a < kc b) (e : L = pre ++ c :: post) :
    pick (without' (L1 ++ [0] ++ pre) (ws.map (rowT P))) = some c := by
  have hcW : Wn P ws c := (hL c).mp (by rw [e]; simp)
  have hsp := sorted_split e hp
  have hpc : ∀ y, Wn P ws y → (y ∈ pre ↔ kc y < kc c) := fun y hy => hsp y ((hL y).mpr hy)
  have hcp : c ∉ pre := fun h => by have := (hpc c hcW).mp h; omega
  have hcS : c ∉ L1 ++ [0] ++ pre := by
    intro h
    rcases List.mem_append.mp h with h | h
    · rcases List.mem_append.mp h with h | h
      · exact hdis c ((hL1 c).mp h) hcW
      · exact hcW.1 (List.mem_singleton.mp h)
    · exact hcp h
  obtain ⟨i, k, hi, hck, hMc⟩ := O.at_ c hcW
  have hiw : (k, false) ∈ ws := List.mem_of_getElem? hi
  have memr : ∀ q' ∈ ws, ((rowT P q').filter fun x => !(L1 ++ [0] ++ pre).contains x) ∈ without' (L1 ++ [0] ++ pre) (ws.map (rowT P)) := fun q' hq' => List.mem_map_of_mem (List.mem_map_of_mem hq')
  have ahead : ∀ y, y ∉ L1 ++ [0] ++ pre → y ∈ P c → y ≠ c → False := fun y hyS h1 h2 => by
    have hy0 : y ≠ 0 := fun h => hyS (by rw [h]; simp)
    have hyW : Wn P ws y := ⟨hy0, _, hiw, rfl, T.trans h1 hck⟩
    have h3 := O.min y i k hyW hi (T.trans h1 hck)
    have h4 := T.dep h1 (T.self hck) h2
    refine hyS (List.mem_append_right _ ((hpc y hyW).mpr ((O.lex y c hyW hcW).mp ?_)))
    by_cases h : M y < M c
    · exact .inl h
    · exact .inr ⟨by omega, h4⟩
  have hg : ∀ s ∈ without' (L1 ++ [0] ++ pre) (ws.map (rowT P)), c ∉ s.tail := by
    intro s hs ht
    obtain ⟨r, hr, rfl⟩ := mem_without hs
    obtain ⟨q, hq, rfl⟩ := List.mem_map.mp hr
    have hcr := mem_rowT.mp (List.mem_filter.mp (List.mem_of_mem_tail ht)).1
    cases hu : q.2 with
    | true => exact hdis c ⟨hcW.1, q, hq, hu, hcr⟩ hcW
    | false =>
      rw [rowT, if_neg (by simp [hu])] at ht
      obtain ⟨y, ys, e1, h1, h2⟩ := T.tail_down ht
      have hym : y ∈ (P q.1).reverse.filter fun x => !(L1 ++ [0] ++ pre).contains x := by rw [e1]; exact List.mem_cons_self
      obtain ⟨_, hyS⟩ := List.mem_filter.mp hym
      exact ahead y (by simpa using hyS) h1 h2
  have hrow := row_at (P := P) (S := L1 ++ [0] ++ pre) hi
  have hcr : c ∈ (rowT P (k, false)).filter fun x => !(L1 ++ [0] ++ pre).contains x := List.mem_filter.mpr ⟨mem_rowT.mpr hck, by simpa using hcS⟩
  have hg' := hg _ (memr _ hiw)
  cases e2 : (rowT P (k, false)).filter fun x => !(L1 ++ [0] ++ pre).contains x with
  | nil => rw [e2] at hcr; simp at hcr
  | cons a as =>
    rw [e2] at hcr hg' hrow
    rcases List.mem_cons.mp hcr with h | h
    · subst h
      refine pick_is hrow hg fun j h hs hj hr hgh => ?_
      exfalso
      obtain ⟨q, hq, er⟩ := row_of hr
      have hqm := List.mem_of_getElem? hq
      have hhm : h ∈ (rowT P q).filter fun x => !(L1 ++ [0] ++ pre).contains x := by rw [← er]; exact List.mem_cons_self
      obtain ⟨hhr, hhS⟩ := List.mem_filter.mp hhm
      have hhP := mem_rowT.mp hhr
      have hhp : h ∉ L1 ++ [0] ++ pre := by simpa using hhS
      have hh0 : h ≠ 0 := fun h0 => hhp (by rw [h0]; simp)
      cases hu : q.2 with
      | true => exact hhp (List.mem_append_left _ (List.mem_append_left _ ((hL1 h).mpr ⟨hh0, q, hqm, hu, hhP⟩)))
      | false =>
        have hhW : Wn P ws h := ⟨hh0, q, hqm, hu, hhP⟩
        have h3 := O.min h j q.1 hhW (by rw [hq, ← hu]) hhP
        exact hhp (List.mem_append_right _ ((hpc h hhW).mpr ((O.lex h c hhW hcW).mp (.inl (by omega)))))
    · exact absurd h hg'

theorem merge_ok (T : Tree P d) {M1 k1 M2 k2 : Int → Int} (O1 : OrdC P d ws M1 k1) (O2 : OrdW P d ws M2 k2) (hne : ws ≠ []) (hnd : (ws.map (·.1)).Nodup) (hself : ∀ q ∈ ws, q.1 ∈ P q.1 ∧ q.1 ≠ 0) (hdis : ∀ x, Cn P ws x → ¬ Wn P ws x)
    {L1 L2 : List Int} (hL1 : ∀ x, x ∈ L1 ↔ Cn P ws x) (hp1 : L1.Pairwise fun a b => k1 a < k1 b) (hL2 : ∀ x, x ∈ L2 ↔ Wn P ws x) (hp2 : L2.Pairwise fun a b => k2 a < k2 b) :
    ∃ n, Mg n (ws.map (rowT P)) [] (some (L1 ++ [0] ++ L2)) (ws.map fun _ => []) := by
  have hnr : ∀ r ∈ ws.map (rowT P), r.Nodup := fun r hr => by obtain ⟨q, _, rfl⟩ := List.mem_map.mp hr; exact T.rowNodup
  have hend : without' (L1 ++ [0] ++ L2) (ws.map (rowT P)) = ws.map fun _ => [] := by
    unfold without'
    rw [List.map_map]
    apply List.map_congr_left
    intro q hq
    show (rowT P q).filter _ = []
    rw [List.filter_eq_nil_iff]
    intro x hx
    have hxP := mem_rowT.mp hx
    simp only [Bool.not_eq_true', Bool.not_eq_false, List.contains_iff_mem]
    by_cases h0 : x = 0
    · rw [h0]; simp
    · cases hu : q.2 with
      | true => exact List.mem_append_left _ (List.mem_append_left _ ((hL1 x).mpr ⟨h0, q, hq, hu, hxP⟩))
      | false => exact List.mem_append_right _ ((hL2 x).mpr ⟨h0, q, hq, hu, hxP⟩)
  have m3 : Mg 0 (without' (L1 ++ [0] ++ L2) (ws.map (rowT P))) (L1 ++ [0] ++ L2) (some (L1 ++ [0] ++ L2)) (ws.map fun _ => []) := by
    rw [hend]
    exact .done fun s hs => by obtain ⟨q, _, rfl⟩ := List.mem_map.mp hs; rfl
  have m2 := mg_run hnr L2 (L1 ++ [0]) (L1 ++ [0]) (fun pre c post e => phase3 T O2 hdis hL1 hL2 hp2 e) m3
  have m1 := mg_run hnr [0] L1 L1 (fun pre c post e => by
    cases pre with
    | nil =>
      simp only [List.nil_append, List.cons.injEq] at e
      rw [List.append_nil, ← e.1]
      exact phase2 T hne hdis hL1
    | cons a as => simp at e) m2
  have m0 := mg_run hnr L1 [] [] (fun pre c post e => by
    rw [List.nil_append]
    exact phase1 T O1 hnd hself hdis hL1 hp1 e) (by simpa using m1)
  rw [without_nil] at m0
  have e : L1 ++ [0] ++ L2 = L1 ++ 0 :: L2 := by simp
  rw [e]
  exact ⟨_, m0⟩
end
end Mine

end

/- Base -/
section
open PySem PySem.W PyProof.Rows
set_option Elab.async false
namespace Mine

/-- from s to s' only the objects at addresses in W may have changed -/
def Chg (W : Addr → Prop) (s s' : Shared) : Prop :=
  ∃ h' tk, s' = { s with heap := h', toks := tk } ∧ ∀ b o, ¬ W b → s.heap.get? b = some o → h'.get? b = some o

theorem Chg.refl (W : Addr → Prop) (s : Shared) : Chg W s s := ⟨s.heap, s.toks, rfl, fun _ _ _ e => e⟩
theorem Chg.trans {W : Addr → Prop} {s s' s'' : Shared} (a : Chg W s s') (b : Chg W s' s'') : Chg W s s'' := by
  obtain ⟨h1, t1, rfl, k1⟩ := a
  obtain ⟨h2, t2, rfl, k2⟩ := b
  exact ⟨h2, t2, rfl, fun b o n e => k2 b o n (k1 b o n e)⟩
theorem Chg.mono {W W' : Addr → Prop} {s s' : Shared} (a : Chg W s s') (h : ∀ b o, s.heap.get? b = some o → W b → W' b) : Chg W' s s' := by
  obtain ⟨h1, t1, rfl, k1⟩ := a
  exact ⟨h1, t1, rfl, fun b o n e => k1 b o (fun w => n (h b o e w)) e⟩
theorem Chg.get {W : Addr → Prop} {s s' : Shared} (a : Chg W s s') {b : Addr} {o : Obj} (n : ¬ W b) (e : s.heap.get? b = some o) : s'.heap.get? b = some o := by
  obtain ⟨h1, t1, rfl, k1⟩ := a
  exact k1 b o n e
theorem Chg.of_keeps {s s' : Shared} (W : Addr → Prop) (a : Keeps s s') : Chg W s s' := by
  obtain ⟨h1, t1, rfl, k1⟩ := a
  exact ⟨h1, t1, rfl, fun b o _ e => k1 b o e⟩
theorem Chg.toks {W : Addr → Prop} {s s' : Shared} (a : Chg W s s') (tk : Nat) : Chg W s { s' with toks := tk } := by
  obtain ⟨h1, t1, rfl, k1⟩ := a
  exact ⟨h1, tk, rfl, k1⟩
theorem Chg.step {W : Addr → Prop} {s s' : Shared} (a : Chg W s s') {h' : Heap} {tk : Nat} (k : ∀ b o, ¬ W b → s'.heap.get? b = some o → h'.get? b = some o) : Chg W s { s' with heap := h', toks := tk } := by
  obtain ⟨h1, t1, rfl, k1⟩ := a
  exact ⟨h', tk, rfl, fun b o n e => k b o n (k1 b o n e)⟩
theorem Chg.stepH {W : Addr → Prop} {s s' : Shared} (a : Chg W s s') {h' : Heap} (k : ∀ b o, ¬ W b → s'.heap.get? b = some o → h'.get? b = some o) : Chg W s { s' with heap := h' } := by
  obtain ⟨h1, t1, rfl, k1⟩ := a
  exact ⟨h', t1, rfl, fun b o n e => k b o n (k1 b o n e)⟩

abbrev loopE (M : Model) (A : Around) (env : Env) (E : Value → Shared → Prop) : Value → Shared → Prop := notedBy M A env fun e s' => cameBackBy M A env E e s'

/-- a for by what holds of it -/
theorem for_walk {prog : Program} {w : World} {A : Around} {E : Value → Shared → Prop} {s : Shared} {env : Env} {target iter : Expr} {body orelse : List Stmt} {pos : Pos} {Q : Flow → Shared → Prop}
    (h : wpAny (model prog w) A (eval iter env) (fun xv s₁ => wpAny (model prog w) A (pyIter xv) (fun it s₂ =>
      ∃ I fp wr n P St, ∃ J : Nat → Shared → Prop, it = .ref I ∧ Walks prog w A I fp wr n P St ∧ (∀ i v s Q E, St i s.heap → Q () s → wpAny (model prog w) A (letOwnedTupleGo target (.ref I) v) Q E s) ∧ St 0 s₂.heap ∧ J 0 s₂ ∧
        (∀ i s₁ h' tk, J i s₁ → (∀ b o, b ∉ wr → s₁.heap.get? b = some o → h'.get? b = some o) → J i { s₁ with heap := h', toks := tk }) ∧
        (∀ i v s₁, i < n → P i v → J i s₁ → St (i + 1) s₁.heap → wpAny (model prog w) A (assign target env v) (fun _ s₂ => wpAny (model prog w) A (execs body env) (fun f s₃ => match f with
          | .next | .cont => J (i + 1) s₃ ∧ St (i + 1) s₃.heap
          | .brk => Q .next s₃
          | .ret v => Q (.ret v) s₃) (loopE (model prog w) A env E) s₂) (loopE (model prog w) A env E) s₁) ∧
        (∀ s₁, J n s₁ → wpAny (model prog w) A (execs orelse env) Q (loopE (model prog w) A env E) s₁)) E s₁) E s)
    (hs : ∀ x, foldedSetIterable iter env x = pure x := by intro _; rfl) :
    wpAny (model prog w) A (exec (.For target iter body orelse pos) env) Q E s := by
  apply wpAny_For _ hs
  apply wpAny_mono h _ fun _ _ x => x
  intro xv s₁ h₁
  apply wpAny_mono h₁ _ fun _ _ x => x
  rintro _ s₂ ⟨I, fp, wr, n, P, St, J, rfl, W, hlet, hst, hJ, hstab, hturn, hdone⟩
  -- by the number of items left
  suffices all : ∀ k s', (∃ i, i + k = n ∧ J i s' ∧ St i s'.heap) → _ from codeAny_forLoop_any (fun k s' => ∃ i, i + k = n ∧ J i s' ∧ St i s'.heap) all n ⟨0, Nat.zero_add n, hJ, hst⟩
  rintro (_ | k) s' ⟨i, e, j, st⟩
  · subst e
    exact W.done _ _ _ st fun h' tk keep => hdone _ (hstab _ s' h' tk j keep)
  · refine W.item i _ _ _ (by omega) st fun v h' tk hv st' keep => hlet _ v _ _ _ st' ?_
    refine wpAny_mono (hturn i v _ (by omega) hv (hstab i s' h' tk j keep) st') (fun _ _ h₂ => wpAny_mono h₂ ?_ fun _ _ x => x) fun _ _ x => x
    have on : ∀ s₃, J (i + 1) s₃ ∧ St (i + 1) s₃.heap → ∃ m, m < k + 1 ∧ ∃ i, i + m = n ∧ J i s₃ ∧ St i s₃.heap := fun s₃ x => ⟨k, Nat.lt_succ_self k, i + 1, by omega, x⟩
    rintro (_ | _ | _ | v) s₃ h₃
    all_goals first | exact on s₃ h₃ | exact h₃

end Mine
namespace Mine
section
variable {M : Model} {A : Around} {E : Value → Shared → Prop} {s : Shared} {env : Env}
theorem ldN {x : Str} {pos : Pos} {m : Str → Option Value} {v : Value} {Q : Value → Shared → Prop} (hn : s.heap.Ns env.locals m) (hv : m x = some v) (h : Q v s)
    (hk : env.scope.kind = .function := by rfl) (hl : env.kindOf x = some .local := by rfl) (hd : (x == ("__debug__" : Str)) = false := by decide) :
    wpAny M A (eval (.Name x pos) env) Q E s := wpAny_Name (wpAny_loadName_local hk hl hn hv h) hd
theorem stN' {x : Str} {m : Str → Option Value} {v : Value} {Q : Unit → Shared → Prop} (hn : s.heap.Ns env.locals m)
    (h : ∀ h', h'.Ns env.locals (fun y => if y = x then some v else m y) → Heap.SameBut env.locals s.heap h' → Q () { s with heap := h', toks := s.toks + 1 })
    (hl : env.kindOf x = some .local := by rfl) (hp : (env.scope.kind == .class || (env.scope.kind == .module && env.locals != env.globals)) = false := by rfl) :
    wpAny M A (storeName env x v) Q E s := wpAny_storeName_local hl hn h hp
end
theorem get_size (h : Heap) : h.get? h.objs.size = none := by
  cases e : h.get? h.objs.size with
  | none => rfl
  | some o => exact absurd (Heap.lt_size e) (Nat.lt_irrefl _)
theorem ne_of_get {h : Heap} {a b : Addr} {o : Obj} (ha : h.get? a = some o) (hb : h.get? b = none) : a ≠ b := Ne.symm (ne_of_none_some hb ha)

/-- a plain list of ints -/
def IntL (h : Heap) (a : Addr) (ns : List Int) : Prop := ∃ vs, h.PlainList a vs.toArray ∧ IntsAre vs ns
theorem IntL.live {h : Heap} {a : Addr} {ns : List Int} (x : IntL h a ns) : ∃ o, h.get? a = some o := let ⟨_, ⟨_, e⟩, _⟩ := x; ⟨_, e⟩
theorem IntL.at {h h' : Heap} {a : Addr} {ns : List Int} (x : IntL h a ns) (k : ∀ o, h.get? a = some o → h'.get? a = some o) : IntL h' a ns := let ⟨vs, p, i⟩ := x; ⟨vs, p.at k, i⟩
theorem IntL.isList {h : Heap} {a : Addr} {ns : List Int} (x : IntL h a ns) : ∃ vs, h.IsList a vs.toArray ∧ IntsAre vs ns := let ⟨vs, p, i⟩ := x; ⟨vs, p.isList, i⟩
theorem IntL.chg {W : Addr → Prop} {s s' : Shared} {a : Addr} {ns : List Int} (x : IntL s.heap a ns) (c : Chg W s s') (n : ¬ W a) : IntL s'.heap a ns := x.at fun _ e => c.get n e
theorem ns_chg {W : Addr → Prop} {s s' : Shared} {a : Addr} {m : Str → Option Value} (x : s.heap.Ns a m) (c : Chg W s s') (n : ¬ W a) : s'.heap.Ns a m := x.at' fun _ e => c.get n e
theorem isList_chg {W : Addr → Prop} {s s' : Shared} {a : Addr} {vs : Array Value} (x : s.heap.IsList a vs) (c : Chg W s s') (n : ¬ W a) : s'.heap.IsList a vs := x.at fun _ e => c.get n e
theorem isList_live {h : Heap} {a : Addr} {vs : Array Value} (x : h.IsList a vs) : ∃ o, h.get? a = some o := let ⟨o, e, _⟩ := x; ⟨o, e⟩
theorem ns_live {h : Heap} {a : Addr} {m : Str → Option Value} (x : h.Ns a m) : ∃ o, h.get? a = some o := let ⟨o, _, _, e, _⟩ := x; ⟨o, e⟩
end Mine
namespace Mine
/-- a for over a list of the heap -/
theorem for_list {prog : Program} {w : World} {A : Around} {E : Value → Shared → Prop} {s : Shared} {env : Env} {target iter : Expr} {body orelse : List Stmt} {pos : Pos} {Q : Flow → Shared → Prop} (hh : A.handled = none)
    (h : wpAny (model prog w) A (eval iter env) (fun xv s₁ => ∃ ax items, ∃ J : Nat → Shared → Prop, xv = .ref ax ∧ s₁.heap.IsList ax items ∧
        (∀ h', (∀ b o, s₁.heap.get? b = some o → h'.get? b = some o) → J 0 { s₁ with heap := h' }) ∧
        (∀ i s₂ h' tk, J i s₂ → (∀ b o, b ≠ s₁.heap.objs.size → s₂.heap.get? b = some o → h'.get? b = some o) → J i { s₂ with heap := h', toks := tk }) ∧
        (∀ i v s₂, items[i]? = some v → J i s₂ → s₂.heap.IsList ax items → (∃ o, s₂.heap.get? s₁.heap.objs.size = some o) → wpAny (model prog w) A (assign target env v) (fun _ s₃ => wpAny (model prog w) A (execs body env) (fun f s₄ => match f with
          | .next | .cont => J (i + 1) s₄ ∧ (∀ o, s₂.heap.get? s₁.heap.objs.size = some o → s₄.heap.get? s₁.heap.objs.size = some o) ∧ (∀ o, s₂.heap.get? ax = some o → s₄.heap.get? ax = some o)
          | .brk => Q .next s₄
          | .ret v => Q (.ret v) s₄) (loopE (model prog w) A env E) s₃) (loopE (model prog w) A env E) s₂) ∧
        (∀ s₂, J items.size s₂ → wpAny (model prog w) A (execs orelse env) Q (loopE (model prog w) A env E) s₂)) E s)
    (hs : ∀ x, foldedSetIterable iter env x = pure x := by intro _; rfl) :
    wpAny (model prog w) A (exec (.For target iter body orelse pos) env) Q E s := by
  refine for_walk (wpAny_mono h (fun xv s₁ h₁ => ?_) fun _ _ e => e) hs
  obtain ⟨ax, items, J, rfl, hl, hJ0, hst, hturn, hdone⟩ := h₁
  have hne : ax ≠ s₁.heap.objs.size := by obtain ⟨o, e⟩ := isList_live hl; exact ne_of_get e (get_size _)
  refine wpAny_pyIter_list hl ⟨s₁.heap.objs.size, [s₁.heap.objs.size, ax], [s₁.heap.objs.size], items.size, fun i v => items[i]? = some v, fun i h => h.IsListIter s₁.heap.objs.size ax i ∧ h.IsList ax items, J, rfl, Walks.list hh _ ax hne items, fun _ _ _ _ _ hS hq => letGo_listiter hS.1 hq, ?_, ?_, ?_, ?_, ?_⟩
  · exact ⟨⟨_, Heap.get?_push_size _ rfl, rfl, rfl⟩, hl.push _⟩
  · exact hJ0 _ fun b o e => Heap.get?_push_of_some _ e
  · intro i s₂ h' tk hJ hk
    exact hst i s₂ h' tk hJ fun b o hb e => hk b o (by simpa using hb) e
  · intro i v s₂ hi hP hJ hS
    refine wpAny_mono (hturn i v s₂ hP hJ hS.2 (by obtain ⟨o, e, _⟩ := hS.1; exact ⟨o, e⟩)) (fun _ s₃ h₃ => wpAny_mono h₃ (fun f s₄ h₄ => ?_) fun _ _ e => e) fun _ _ e => e
    have fin : (J (i + 1) s₄ ∧ (∀ o, s₂.heap.get? s₁.heap.objs.size = some o → s₄.heap.get? s₁.heap.objs.size = some o) ∧ (∀ o, s₂.heap.get? ax = some o → s₄.heap.get? ax = some o)) →
        J (i + 1) s₄ ∧ s₄.heap.IsListIter s₁.heap.objs.size ax (i + 1) ∧ s₄.heap.IsList ax items := fun ⟨a, b, c⟩ =>
      ⟨a, (by obtain ⟨o, e, r⟩ := hS.1; exact ⟨o, b o e, r⟩), hS.2.at c⟩
    cases f with
    | next => exact fin h₄
    | cont => exact fin h₄
    | brk => exact h₄
    | ret v => exact h₄
  · intro s₂ hJ
    exact hdone s₂ hJ
end Mine
namespace Mine
theorem push_plain (h : Heap) (xs : Array Value) : (h.push { cls := .type "list", data := .seq xs }).PlainList h.objs.size xs := ⟨_, Heap.get?_push_size _ rfl⟩
theorem push2_plain (h : Heap) (o : Obj) (xs : Array Value) : ((h.push o).push { cls := .type "list", data := .seq xs }).PlainList (h.objs.size + 1) xs := by
  have := push_plain (h.push o) xs
  rwa [Heap.size_push] at this
theorem push2_keep {h : Heap} {o o' : Obj} {b : Addr} {x : Obj} (e : h.get? b = some x) : ((h.push o).push o').get? b = some x := Heap.get?_push_of_some _ (Heap.get?_push_of_some _ e)
theorem Chg.at {W : Addr → Prop} {s s' : Shared} (a : Chg W s s') {h' : Heap} {tk : Nat} (k : ∀ b o, ¬ W b → (∃ x, s.heap.get? b = some x) → s'.heap.get? b = some o → h'.get? b = some o) : Chg W s { s' with heap := h', toks := tk } := by
  obtain ⟨h1, t1, rfl, k1⟩ := a
  exact ⟨h', tk, rfl, fun b o n e => k b o n ⟨o, e⟩ (k1 b o n e)⟩
end Mine

end

/- Ast -/
section
open PySem PySem.W PyProof.Rows
set_option Elab.async false
namespace Mine
abbrev pw : Program := PySem.Challenge.pw_nb0031_01
/-- the statements inside a statement -/
def bodyOf : Stmt → List Stmt
  | .FunctionDef _ _ b _ _ _ _ _ _ _ => b
  | .While _ b _ _ => b
  | .For _ _ b _ _ => b
  | .If _ b _ _ => b
  | .Try b _ _ _ _ => b
  | _ => []
def scopeOf : Stmt → Scope
  | .FunctionDef _ _ _ _ _ _ sc _ _ _ => sc
  | _ => default
def nth (l : List Stmt) (i : Nat) : Stmt := l.getD i (.Pass default)
def topStmt (i : Nat) : Stmt := nth pw.main.body i
def c3Body : List Stmt := bodyOf (topStmt 1)
def c3Scope : Scope := scopeOf (topStmt 1)
def c3W : List Stmt := bodyOf (nth c3Body 1)
def c3For1 : Stmt := nth c3W 2
def c3For2 : Stmt := nth (bodyOf c3For1) 1
def c3For3 : Stmt := nth c3W 5
end Mine
namespace Mine
def wuBody : List Stmt := bodyOf (topStmt 7)
def wuScope : Scope := scopeOf (topStmt 7)
def paBody : List Stmt := bodyOf (topStmt 8)
def paScope : Scope := scopeOf (topStmt 8)
def lawBody : List Stmt := bodyOf (topStmt 9)
def lawScope : Scope := scopeOf (topStmt 9)
def pmBody : List Stmt := bodyOf (topStmt 3)
def pmScope : Scope := scopeOf (topStmt 3)
def cxBody : List Stmt := bodyOf (topStmt 6)
def cxScope : Scope := scopeOf (topStmt 6)
end Mine

end

/- Comp -/
section
open PySem PySem.W PyProof.Rows
set_option Elab.async false
namespace Mine
set_option maxRecDepth 10000

/-- the element of a: a plain value, or an object made since h₀ -/
def Elt {α : Type} (F : α → Value → Option Obj → Prop) (h₀ h : Heap) (a : α) (y : Value) : Prop :=
  F a y none ∨ ∃ T o, y = .ref T ∧ h₀.get? T = none ∧ h.get? T = some o ∧ F a y (some o)
/-- the same, off C, I, D -/
def EltC {α : Type} (F : α → Value → Option Obj → Prop) (X : Addr → Prop) (h₀ h : Heap) (a : α) (y : Value) : Prop :=
  F a y none ∨ ∃ T o, y = .ref T ∧ ¬ X T ∧ h₀.get? T = none ∧ h.get? T = some o ∧ F a y (some o)
theorem EltC.keep {α : Type} {F : α → Value → Option Obj → Prop} {X : Addr → Prop} {h₀ h h' : Heap} {a : α} {y : Value} (x : EltC F X h₀ h a y) (k : ∀ b o, ¬ X b → h.get? b = some o → h'.get? b = some o) : EltC F X h₀ h' a y := by
  rcases x with x | ⟨T, o, rfl, hX, h0, ho, hF⟩
  · exact .inl x
  · exact .inr ⟨T, o, rfl, hX, h0, k T o hX ho, hF⟩

theorem get_ge {h : Heap} {a : Addr} (n : h.objs.size ≤ a) : h.get? a = none :=
  Option.eq_none_iff_forall_ne_some.mpr fun _ e => Nat.not_lt.mpr n (Heap.lt_size e)

section
variable {prog : Program} {w : World} {A : Around} {α : Type}

abbrev tests (ifs : List Expr) (cenv : Env) : Sem Bool := forIn ifs true fun c r => if r = true then do let ok ← isTrue c cenv (eval c cenv); pure (ForInStep.yield ok) else pure (ForInStep.yield r)

theorem lc_loop {R : Result → Shared → Prop} {s : Shared} {elt target iter : Expr} {ifs : List Expr} {scope : Scope} {pos : Pos} {I D : Addr} {cenv : Env} {src : List α} {Pv : α → Value → Prop}
    {fp : List Addr} {P : Nat → Value → Prop} {St : Nat → Heap → Prop} (W : Walks prog w A I fp [I] src.length P St) (hPv : ∀ i v, i < src.length → P i v → ∃ a, src[i]? = some a ∧ Pv a v)
    (p : α → Bool) (F : α → Value → Option Obj → Prop) (O : Addr → Prop) (Inv : Heap → Prop) (hIL : ∀ h, Inv h → ∀ b, O b → ∃ o, h.get? b = some o) (hIK : ∀ h h', Inv h → (∀ b o, O b → h.get? b = some o → h'.get? b = some o) → Inv h')
    (hDO : ¬ O D) (hDf : D ∉ fp) (hOf : ∀ b ∈ fp, ¬ O b) (hDI : D ≠ I) (hIO : ¬ O I) (hlive : ∀ i h, St i h → ∃ o, h.get? I = some o)
    (hst : St 0 s.heap) (hacc : s.heap.PlainList D #[]) (hn : Inv s.heap)
    (hlen : src.length ≤ 1000)
    (turn : ∀ a v s₃ E', a ∈ src → Pv a v → Inv s₃.heap → Chg (fun b => O b ∨ b = I ∨ b = D) s s₃ →
      wpAny (model prog w) A (assign target cenv v) (fun _ s₄ => Inv s₄.heap ∧ Chg O s₃ s₄ ∧
        wpAny (model prog w) A (tests ifs cenv) (fun ok s₅ => ok = p a ∧ Keeps s₄ s₅ ∧
          (ok = true → wpAny (model prog w) A (eval elt cenv) (fun y s₆ => Keeps s₅ s₆ ∧ Elt F s₅.heap s₆.heap a y) E' s₅)) E' s₄) E' s₃)
    (hR : ∀ s' ys, Inv s'.heap → s'.heap.PlainList D ys.toArray → Paired (EltC F (fun b => O b ∨ b = I ∨ b = D) s.heap s'.heap) (src.filter p) ys →
      Chg (fun b => O b ∨ b = I ∨ b = D) s s' → ((∀ a y, ¬ F a y none) → ys.Nodup) → R (.ok .next) s')
    (hlet : ∀ i v s Q E, St i s.heap → Q () s → wpAny (model prog w) A (letOwnedTupleGo target (.ref I) v) Q E s) :
    codeAny (model prog w) A (.compLoop (.ListComp elt [⟨target, iter, ifs, 0⟩] scope pos) 0 (.ref I) (.ref D) cenv) R s := by
  let X : Addr → Prop := fun b => O b ∨ b = I ∨ b = D
  let J : Nat → Shared → Prop := fun k s' => ∃ i ys, i ≤ src.length ∧ k = src.length - i ∧ St i s'.heap ∧ Inv s'.heap ∧ s'.heap.PlainList D ys.toArray ∧ Paired (EltC F X s.heap s'.heap) ((src.take i).filter p) ys ∧
      Chg X s s' ∧ ((∀ a y, ¬ F a y none) → ys.Nodup)
  refine codeAny_loop rfl J ?_ src.length ⟨0, [], Nat.zero_le _, by omega, hst, hn, hacc, by simpa using Paired.nil, Chg.refl _ _, fun _ => List.nodup_nil⟩
  rintro k s' ⟨i, ys, hi, rfl, hst', hn', hacc', hF, hC, hND⟩
  refine wpAny_noted (m := compTurn _ 0 (.ref I) (.ref D) cenv) ?_
  rw [compTurn_list]
  refine wpAny_bind (wpAny_standAt (wpAny_bind ?_))
  have neI : ∀ b, O b → b ≠ I := fun b hb h => hIO (h ▸ hb)
  have neD : ∀ b, O b → b ≠ D := fun b hb h => hDO (h ▸ hb)
  by_cases hlt : i < src.length
  · refine W.item i _ _ _ hlt hst' fun v h₁ tk₁ hP hst₁ hk₁ => ?_
    refine wpAny_bind (hlet (i + 1) v _ _ _ hst₁ ?_)
    obtain ⟨a, ha, hav⟩ := hPv i v hlt hP
    have ham := List.mem_of_getElem? ha
    have hk₁' : ∀ b o, b ≠ I → s'.heap.get? b = some o → h₁.get? b = some o := fun b o hb e => hk₁ b o (by simpa using hb) e
    have hC₁ : Chg X s { s' with heap := h₁, toks := tk₁ } := hC.step fun b o hb e => hk₁' b o (fun h => hb (.inr (.inl h))) e
    refine wpAny_bind (wpAny_mono (turn a v { s' with heap := h₁, toks := tk₁ } _ ham hav (hIK _ _ hn' fun b o hb e => hk₁' _ o (neI b hb) e) hC₁) (fun _ s₄ h₄ => ?_) fun _ _ e => e)
    obtain ⟨hn₄, hC₄, h₄⟩ := h₄
    refine wpAny_bind (wpAny_mono h₄ (fun ok s₅ h₅ => ?_) fun _ _ e => e)
    obtain ⟨rfl, hK₅, h₅⟩ := h₅
    have k5 : ∀ b o, s₄.heap.get? b = some o → s₅.heap.get? b = some o := fun b o e => (Chg.of_keeps (fun _ => False) hK₅).get id e
    have k15 : ∀ b o, ¬ O b → h₁.get? b = some o → s₅.heap.get? b = some o := fun b o hb e => k5 b o (hC₄.get hb e)
    have C₅ : Chg X s s₅ := hC₁.trans ((hC₄.mono fun b o _ h => .inl h).trans (Chg.of_keeps _ hK₅))
    have hst₅ : St (i + 1) s₅.heap := W.frame _ _ _ hst₁ fun b hb o e => k15 b o (hOf b hb) e
    have hn₅ : Inv s₅.heap := hIK _ _ hn₄ fun b o _ e => k5 _ o e
    have hacc₅ : s₅.heap.PlainList D ys.toArray := hacc'.at fun o e => k15 _ o hDO (hk₁' _ o hDI e)
    have hF₅ : Paired (EltC F X s.heap s₅.heap) ((src.take i).filter p) ys := Paired.mono (fun _ _ x => x.keep fun b o hb e => k15 b o (fun h => hb (.inl h)) (hk₁' b o (fun h => hb (.inr (.inl h))) e)) hF
    have htk : (src.take (i + 1)).filter p = (src.take i).filter p ++ (if p a then [a] else []) := by
      rw [List.take_add_one, ha, Option.toList_some, List.filter_append]; congr 1
      cases h : p a <;> simp [h]
    cases hpa : p a with
    | false =>
      simp only [Bool.false_eq_true, if_false]
      refine wpAny_pure ⟨rfl, src.length - (i + 1), by omega, i + 1, ys, hlt, rfl, hst₅, hn₅, hacc₅, ?_, C₅, hND⟩
      rw [htk, hpa]
      simpa using hF₅
    | true =>
      simp only [if_true]
      refine wpAny_bind (wpAny_bind (wpAny_mono (h₅ hpa) (fun y s₆ h₆ => ?_) fun _ _ e => e))
      obtain ⟨hK₆, hy⟩ := h₆
      have k6 : ∀ b o, s₅.heap.get? b = some o → s₆.heap.get? b = some o := fun b o e => (Chg.of_keeps (fun _ => False) hK₆).get id e
      have hysl : ys.length ≤ src.length := by
        have h1 := hF.length
        have h2 : ((src.take i).filter p).length ≤ (src.take i).length := List.length_filter_le _ _
        rw [List.length_take] at h2
        omega
      refine wpAny_bind (wpAny_list_append_plain (hsz := by simp [sizeLine]; omega) (hacc₅.at fun o e => k6 _ o e) fun h₇ hl₇ hs₇ => wpAny_pure (wpAny_pure ⟨rfl, ?_⟩))
      have k7 : ∀ b o, b ≠ D → s₆.heap.get? b = some o → h₇.get? b = some o := fun b o hb e => hs₇.extBut b o hb e
      refine ⟨src.length - (i + 1), by omega, i + 1, ys ++ [y], hlt, rfl, ?_, ?_, by simpa using hl₇, ?_, ?_, fun h0 => ?_⟩
      · exact W.frame _ _ _ hst₅ fun b hb o e => k7 b o (fun h => hDf (h ▸ hb)) (k6 b o e)
      · exact hIK _ _ hn₅ fun b o hb e => k7 _ o (neD b hb) (k6 _ o e)
      · rw [htk, hpa, if_pos rfl]
        refine Paired.snoc (Paired.mono (fun _ _ x => x.keep fun b o hb e => k7 b o (fun h => hb (.inr (.inr h))) (k6 b o e)) hF₅) ?_
        rcases hy with hy | ⟨T, o, rfl, hT, ho, hFT⟩
        · exact .inl hy
        · have hTC : ¬ O T := fun h => by obtain ⟨o, e⟩ := hIL _ hn₅ T h; exact ne_of_get e hT rfl
          have hTD : T ≠ D := by obtain ⟨n, e⟩ := hacc₅; exact Ne.symm (ne_of_get e hT)
          have hTI : T ≠ I := by obtain ⟨o, e⟩ := hlive _ _ hst₅; exact Ne.symm (ne_of_get e hT)
          have hX : ¬ X T := fun h => h.elim hTC fun h => h.elim hTI hTD
          refine .inr ⟨T, o, rfl, hX, ?_, k7 T o hTD ho, hFT⟩
          cases e : s.heap.get? T with
          | none => rfl
          | some o' => have := C₅.get hX e; rw [hT] at this; cases this
      · exact C₅.trans ((Chg.of_keeps _ hK₆).stepH fun b o hb e => k7 b o (fun h => hb (.inr (.inr h))) e)
      · rw [List.nodup_append]
        refine ⟨hND h0, by simp, fun y1 h1 y2 h2 e => ?_⟩
        rw [List.mem_singleton] at h2
        rcases hy with hy | ⟨T, o, rfl, hT, ho, hFT⟩
        · exact h0 _ _ hy
        · obtain ⟨a', hx⟩ := Paired.right hF₅ y1 h1
          rcases hx with hx | ⟨T', o', rfl, _, _, ho', _⟩
          · exact h0 _ _ hx
          · rw [h2] at e
            injection e with e
            rw [e, hT] at ho'; cases ho'
  · have hin : i = src.length := by omega
    subst hin
    refine W.done _ _ _ hst' fun h₁ tk₁ hk₁ => ?_
    have hk₁' : ∀ b o, b ≠ I → s'.heap.get? b = some o → h₁.get? b = some o := fun b o hb e => hk₁ b o (by simpa using hb) e
    refine wpAny_pure (hR _ ys (hIK _ _ hn' fun b o hb e => hk₁' _ o (neI b hb) e) (hacc'.at fun o e => hk₁' _ o hDI e) ?_ (hC.step fun b o hb e => hk₁' b o (fun h => hb (.inr (.inl h))) e) hND)
    rw [List.take_length] at hF
    exact Paired.mono (fun _ _ x => x.keep fun b o hb e => hk₁' b o (fun h => hb (.inr (.inl h))) e) hF
end
end Mine
namespace Mine
section
variable {prog : Program} {w : World} {A : Around} {E : Value → Shared → Prop} {env : Env} {α : Type}

/-- the block of a comprehension: `O C` are its own addresses, `Inv C` is what holds there -/
structure Blk (prog : Program) (w : World) (A : Around) (scope : Scope) (cl : List (Str × Addr)) (env : Env) (ce : Addr → Env) (O : Addr → Addr → Prop) (Inv : Addr → Heap → Prop) : Prop where
  live : ∀ {C h}, Inv C h → ∀ b, O C b → ∃ o, h.get? b = some o
  keep : ∀ {C h h'}, Inv C h → (∀ b o, O C b → h.get? b = some o → h'.get? b = some o) → Inv C h'
  ns : ∀ {C h}, Inv C h → ∃ m, h.Ns C m
  own : ∀ C, O C C
  above : ∀ {C b}, O C b → C ≤ b
  make : ∀ (s : Shared) (E : Value → Shared → Prop) (Q : Env → Shared → Prop),
    (∀ c h' tk, c.locals = s.heap.objs.size → { c with scope := relabel scope env } = ce s.heap.objs.size → (∀ b o, s.heap.get? b = some o → h'.get? b = some o) → Inv s.heap.objs.size h' → Q c { s with heap := h', toks := tk }) →
    wpAny (model prog w) A (newFunctionEnv scope env.globals cl [] env.qual none .none (some env)) Q E s

/-- what a turn must do in such a block -/
def BTurn (prog : Program) (w : World) (A : Around) (target elt : Expr) (ifs : List Expr) (cenv : Env) (O : Addr → Prop) (Inv : Heap → Prop) (p : α → Bool) (F : α → Value → Option Obj → Prop) (a : α) (v : Value) (s₃ : Shared) : Prop :=
  ∀ E', wpAny (model prog w) A (assign target cenv v) (fun _ s₄ => Inv s₄.heap ∧ Chg O s₃ s₄ ∧
    wpAny (model prog w) A (tests ifs cenv) (fun ok s₅ => ok = p a ∧ Keeps s₄ s₅ ∧
      (ok = true → wpAny (model prog w) A (eval elt cenv) (fun y s₆ => Keeps s₅ s₆ ∧ Elt F s₅.heap s₆.heap a y) E' s₅)) E' s₄) E' s₃

/-- a source, ready for a comprehension's loop -/
def LcSrc (prog : Program) (w : World) (A : Around) (target : Expr) (h : Heap) (I : Addr) (src : List α) (Pv : α → Value → Prop) : Prop :=
  ∃ fp P St, Walks prog w A I fp [I] src.length P St ∧ St 0 h ∧ (∀ b ∈ fp, b < h.objs.size) ∧ (∀ i h, St i h → ∃ o, h.get? I = some o) ∧ (∀ i v, i < src.length → P i v → ∃ a, src[i]? = some a ∧ Pv a v) ∧
    (∀ i v s Q E, St i s.heap → Q () s → wpAny (model prog w) A (letOwnedTupleGo target (.ref I) v) Q E s)

/-- what the loop leaves: the list at D, the block at C -/
structure LcEnd (p : α → Bool) (F : α → Value → Option Obj → Prop) (O : Addr → Addr → Prop) (Inv : Addr → Heap → Prop) (src : List α) (I : Addr) (s₂ : Shared) (D C : Addr) (s' : Shared) (ys : List Value) : Prop where
  d : s₂.heap.get? D = none
  c : s₂.heap.get? C = none
  dc : ¬ O C D
  inv : Inv C s'.heap
  list : s'.heap.PlainList D ys.toArray
  els : Paired (EltC F (O C) s₂.heap s'.heap) (src.filter p) ys
  chg : Chg (· = I) s₂ s'
  apart : (∀ a y, ¬ F a y none) → ys.Nodup

/-- the whole run of a comprehension -/
theorem lc_run {s : Shared} {elt target iter : Expr} {ifs : List Expr} {scope : Scope} {cl : List (Str × Addr)} {pos pos' : Pos} {first : Sem Value} {use : Option (Value → Sem Unit)} {Q : Value → Shared → Prop} {ce : Addr → Env} {O : Addr → Addr → Prop} {Inv : Addr → Heap → Prop}
    (B : Blk prog w A scope cl env ce O Inv) {src : List α} {Pv : α → Value → Prop} (p : α → Bool) (F : α → Value → Option Obj → Prop)
    (hclos : closureFor scope env = pure cl) (hkind : scope.kind = .function) (hnames : ∀ y ∈ scope.names, y.2 = .local → scope.names.lookup y.1 = some .local) (hlen : src.length ≤ 1000) (hs : ∀ x, foldedSetIterable iter env x = pure x)
    (h : wpAny (model prog w) A first (fun xv s₁ => wpAny (model prog w) A (pyIter xv) (fun it s₂ => ∃ I, it = .ref I ∧ LcSrc prog w A target s₂.heap I src Pv ∧
      (∀ C a v s₃, a ∈ src → Pv a v → (∀ b, O C b → s₂.heap.get? b = none) → Inv C s₃.heap → Chg (· = I) s₂ s₃ → BTurn prog w A target elt ifs (ce C) (O C) (Inv C) p F a v s₃) ∧
      (∀ D C s' ys, LcEnd p F O Inv src I s₂ D C s' ys → compPost (model prog w) A E use Q (.ref D) C (.ok .next) s')) E s₁) E s) :
    wpAny (model prog w) A (comprehension (.ListComp elt [⟨target, iter, ifs, 0⟩] scope pos) scope env pos' (newList []) false first use) Q E s := by
  apply wpAny_comprehension_free (g := ⟨target, iter, ifs, 0⟩) (gs := []) rfl hs hclos hkind hnames
  apply wpAny_mono h _ (fun _ _ e => e)
  intro xv s₁ h₁
  apply wpAny_mono h₁ _ (fun _ _ e => e)
  rintro it s₂ ⟨I, rfl, ⟨fp, P, St, W, hst, hfp, hlive, hPv, hlet⟩, hturn, hend⟩
  -- the list, at the first free place
  refine wpAny_newObj_type ?_
  have sz : ∀ o : Obj, (s₂.heap.push o).objs.size = s₂.heap.objs.size + 1 := fun o => Heap.size_push ..
  apply B.make
  intro c h₁ tk hcl hce hk hi
  rw [hce, hcl]
  dsimp only at hk hi ⊢
  rw [sz] at hi ⊢
  -- old objects, the block and the list are apart
  have old : ∀ b o, s₂.heap.get? b = some o → h₁.get? b = some o := fun b o e => hk b o (Heap.get?_push_of_some _ e)
  have hO : ∀ b, O (s₂.heap.objs.size + 1) b → s₂.heap.get? b = none := fun b hb => get_ge (Nat.le_of_succ_le (B.above hb))
  have hD := get_size s₂.heap
  have hDO : ¬ O (s₂.heap.objs.size + 1) s₂.heap.objs.size := fun q => Nat.not_succ_le_self _ (B.above q)
  obtain ⟨oI, eI⟩ := hlive _ _ hst
  have st₁ : St 0 h₁ := W.frame _ _ _ hst fun b _ o e => old b o e
  have back : ∀ tk' s', Chg (fun b => O (s₂.heap.objs.size + 1) b ∨ b = I ∨ b = s₂.heap.objs.size) { s₂ with heap := h₁, toks := tk' } s' → Chg (· = I) s₂ s' := by
    rintro tk' s' ⟨h', t', rfl, k⟩
    refine ⟨h', t', rfl, fun b o hb e => k b o ?_ (old b o e)⟩
    rintro (q | q | q)
    · rw [hO b q] at e; cases e
    · exact hb q
    · rw [q, hD] at e; cases e
  have run : codeAny (model prog w) A (.compLoop (.ListComp elt [⟨target, iter, ifs, 0⟩] scope pos) 0 (.ref I) (.ref s₂.heap.objs.size) (ce (s₂.heap.objs.size + 1))) (compPost (model prog w) A E use Q (.ref s₂.heap.objs.size) (s₂.heap.objs.size + 1)) { s₂ with heap := h₁, toks := tk } := by
    refine lc_loop W hPv p F (O (s₂.heap.objs.size + 1)) (Inv (s₂.heap.objs.size + 1)) (fun _ hi b hb => B.live hi b hb) (fun _ _ hi k => B.keep hi k) hDO (fun q => Nat.lt_irrefl _ (hfp _ q)) (fun b hb q => ?_) (Ne.symm (ne_of_get eI hD)) (fun q => ?_) hlive st₁
      ⟨_, hk _ _ (Heap.get?_push_size _ rfl)⟩ hi hlen (fun a v s₃ E' ha hav hinv hc => hturn _ a v s₃ ha hav hO hinv (back tk s₃ hc) E') (fun s' ys hinv hl hp hc hnd => hend _ _ s' ys ⟨hD, hO _ (B.own _), hDO, hinv, hl, ?_, back tk s' hc, hnd⟩) hlet
    · exact absurd (hfp b hb) (Nat.not_lt.mpr (Nat.le_of_succ_le (B.above q)))
    · rw [hO I q] at eI; cases eI
    · refine Paired.mono (fun a y x => ?_) hp
      rcases x with x | ⟨T, o, rfl, hX, h0, ho, hF⟩
      · exact .inl x
      · refine .inr ⟨T, o, rfl, fun q => hX (.inl q), ?_, ho, hF⟩
        refine Option.eq_none_iff_forall_ne_some.mpr fun o' e => ?_
        have := old T o' e
        rw [show h₁.get? T = none from h0] at this; cases this
  exact codeAny_compStart_list run (W.self 0 _ _ _ st₁ run)

/-- the value of [elt for target in iter if ..], in any block -/
theorem lcB_eval {s : Shared} {elt target iter : Expr} {ifs : List Expr} {scope : Scope} {cl : List (Str × Addr)} {pos : Pos} {Q : Value → Shared → Prop} {ce : Addr → Env} {O : Addr → Addr → Prop} {Inv : Addr → Heap → Prop}
    (B : Blk prog w A scope cl env ce O Inv) {src : List α} {Pv : α → Value → Prop} (p : α → Bool) (F : α → Value → Option Obj → Prop)
    (hclos : closureFor scope env = pure cl) (hkind : scope.kind = .function) (hnames : ∀ y ∈ scope.names, y.2 = .local → scope.names.lookup y.1 = some .local) (hlen : src.length ≤ 1000) (hs : ∀ x, foldedSetIterable iter env x = pure x)
    (h : wpAny (model prog w) A (eval iter env) (fun xv s₁ => wpAny (model prog w) A (pyIter xv) (fun it s₂ => ∃ I, it = .ref I ∧ LcSrc prog w A target s₂.heap I src Pv ∧
      (∀ C a v s₃, a ∈ src → Pv a v → (∀ b, O C b → s₂.heap.get? b = none) → Inv C s₃.heap → Chg (· = I) s₂ s₃ → BTurn prog w A target elt ifs (ce C) (O C) (Inv C) p F a v s₃) ∧
      (∀ D s' ys, s₂.heap.get? D = none → s'.heap.PlainList D ys.toArray → Paired (Elt F s₂.heap s'.heap) (src.filter p) ys → Chg (· = I) s₂ s' → Q (.ref D) s')) E s₁) E s) :
    wpAny (model prog w) A (eval (.ListComp elt [⟨target, iter, ifs, 0⟩] scope pos) env) Q E s := by
  rw [eval_ListComp]
  refine lc_run (first := eval iter env) (Pv := Pv) B p F hclos hkind hnames hlen hs (wpAny_mono h (fun xv s₁ h₁ => wpAny_mono h₁ ?_ fun _ _ e => e) fun _ _ e => e)
  rintro it s₂ ⟨I, rfl, hsrc, hturn, hQ⟩
  refine ⟨I, rfl, hsrc, hturn, fun D C s' ys Z => ?_⟩
  obtain ⟨m, hm⟩ := B.ns Z.inv
  have hDC : D ≠ C := fun q => Z.dc (q ▸ B.own C)
  refine ⟨m, hm, fun h'' sb => hQ D _ ys Z.d (Z.list.at fun o e => sb.extBut _ o hDC e) (Paired.mono (fun a y x => ?_) Z.els) (Z.chg.at fun b o _ ⟨x, e⟩ e' => sb.extBut b o (ne_of_get e Z.c) e')⟩
  rcases x with x | ⟨T, o, rfl, hX, h0, ho, hF⟩
  · exact .inl x
  · exact .inr ⟨T, o, rfl, h0, sb.extBut _ o (fun q => hX (q ▸ B.own C)) ho, hF⟩

/-- y = [elt for target in iter if ..], stored by the exchanged way, in any block -/
theorem lcB_assign {s : Shared} {elt target iter : Expr} {ifs : List Expr} {scope : Scope} {cl : List (Str × Addr)} {pos spos py : Pos} {y : Str} {Q : Flow → Shared → Prop} {ce : Addr → Env} {O : Addr → Addr → Prop} {Inv : Addr → Heap → Prop}
    (B : Blk prog w A scope cl env ce O Inv) {src : List α} {Pv : α → Value → Prop} (p : α → Bool) (F : α → Value → Option Obj → Prop)
    (hsw : swapsWith (.ListComp elt [⟨target, iter, ifs, 0⟩] scope pos) (some (.Name y py)) spos.line env = pure true)
    (hclos : closureFor scope env = pure cl) (hkind : scope.kind = .function) (hnames : ∀ y ∈ scope.names, y.2 = .local → scope.names.lookup y.1 = some .local) (hlen : src.length ≤ 1000) (hs : ∀ x, foldedSetIterable iter env x = pure x)
    (hy : env.kindOf y = some .local) (hp : (env.scope.kind == .class || (env.scope.kind == .module && env.locals != env.globals)) = false)
    (h : wpAny (model prog w) A (eval iter env) (fun xv s₁ => wpAny (model prog w) A (pyIter xv) (fun it s₂ => ∃ I m, it = .ref I ∧ LcSrc prog w A target s₂.heap I src Pv ∧ env.locals ≠ I ∧ s₂.heap.Ns env.locals m ∧
      (∀ C a v s₃, a ∈ src → Pv a v → (∀ b, O C b → s₂.heap.get? b = none) → Inv C s₃.heap → Chg (· = I) s₂ s₃ → BTurn prog w A target elt ifs (ce C) (O C) (Inv C) p F a v s₃) ∧
      (∀ D s' ys, s₂.heap.get? D = none → s'.heap.PlainList D ys.toArray → Paired (Elt F s₂.heap s'.heap) (src.filter p) ys → s'.heap.Ns env.locals (fun z => if z = y then some (.ref D) else m z) →
        Chg (fun b => b = I ∨ b = env.locals) s₂ s' → ((∀ a y, ¬ F a y none) → ys.Nodup) → Q .next s')) E s₁) E s) :
    wpAny (model prog w) A (exec (.Assign [.Name y py] (.ListComp elt [⟨target, iter, ifs, 0⟩] scope pos) spos) env) Q E s := by
  have go : wpAny (model prog w) A (evalThenUse (.ListComp elt [⟨target, iter, ifs, 0⟩] scope pos) env (assign (.Name y py) env)) (fun _ s' => Q .next s') E s := by
    refine wpAny_bind (wpAny_mono (lc_run (first := eval iter env) (Pv := Pv) (use := some (assign (.Name y py) env)) (Q := fun _ s' => Q .next s') B p F hclos hkind hnames hlen hs (wpAny_mono h (fun xv s₁ h₁ => wpAny_mono h₁ ?_ fun _ _ e => e) fun _ _ e => e)) (fun _ _ e => wpAny_pure e) fun _ _ e => e)
    rintro it s₂ ⟨I, m, rfl, hsrc, hLI, hn, hturn, hQ⟩
    refine ⟨I, rfl, hsrc, hturn, fun D C s' ys Z => ?_⟩
    obtain ⟨m', hm'⟩ := B.ns Z.inv
    obtain ⟨oL, eL⟩ := ns_live hn
    have hDC : D ≠ C := fun q => Z.dc (q ▸ B.own C)
    have hLC := ne_of_get eL Z.c
    have hLD := ne_of_get eL Z.d
    refine wpAny_assign_Name (stN' (ns_chg hn Z.chg hLI) (fun h₂ n₂ sb₂ => ⟨m', hm'.sameBut sb₂ hLC.symm, fun h₃ sb₃ => ?_⟩) hy hp)
    have kk : ∀ b o, b ≠ env.locals → b ≠ C → s'.heap.get? b = some o → h₃.get? b = some o := fun b o h1 h2 e => sb₃.extBut b o h2 (sb₂.extBut b o h1 e)
    refine hQ D _ ys Z.d (Z.list.at fun o e => kk D o hLD.symm hDC e) (Paired.mono (fun a y x => ?_) Z.els) (n₂.sameBut sb₃ hLC) ?_ Z.apart
    · rcases x with x | ⟨T, o, rfl, hX, h0, ho, hF⟩
      · exact .inl x
      · exact .inr ⟨T, o, rfl, h0, kk T o (ne_of_get eL h0).symm (fun q => hX (q ▸ B.own C)) ho, hF⟩
    · exact (Z.chg.mono (W' := fun b => b = I ∨ b = env.locals) fun b o _ q => .inl q).at fun b o hb ⟨x, e⟩ e' => kk b o (fun q => hb (.inr q)) (ne_of_get e Z.c) e'
  rw [exec_Assign_Name_used _ _ _ _ hsw]
  exact wpAny_bind (wpAny_standAt (wpAny_bind (wpAny_mono go (fun _ _ e => wpAny_pure e) fun _ _ e => e)))

/-- the plain block: names alone -/
theorem blk_plain {scope : Scope} {cl : List (Str × Addr)} (hcell : ∀ y ∈ scope.names, y.2 ≠ .cell) (hkind : scope.kind = .function) :
    Blk prog w A scope cl env (fun C => compEnvC scope cl C env) (fun C b => b = C) (fun C h => ∃ m, h.Ns C m) where
  live := fun ⟨_, n⟩ _ q => q ▸ ns_live n
  keep := fun ⟨m, n⟩ k => ⟨m, n.at' fun o e => k _ o rfl e⟩
  ns := fun x => x
  own := fun _ => rfl
  above := fun q => Nat.le_of_eq q.symm
  make := fun s E Q hQ => by
    refine wpAny_newFunctionEnv hcell (fun x hx => nomatch hx) (fun h' n sb => hQ _ h' _ rfl rfl (fun b o e => ?_) ⟨_, n⟩) hkind
    exact sb.extBut b o (ne_of_get e (get_size _)) (Heap.get?_push_of_some _ e)

/-- what a turn of a comprehension must do -/
abbrev LcTurn (prog : Program) (w : World) (A : Around) (target elt : Expr) (ifs : List Expr) (cenv : Env) (p : α → Bool) (F : α → Value → Option Obj → Prop) (a : α) (v : Value) (s₃ : Shared) : Prop :=
  BTurn prog w A target elt ifs cenv (· = cenv.locals) (fun h => ∃ m, h.Ns cenv.locals m) p F a v s₃

/-- [elt for target in iter if ..], its value -/
theorem lc_eval {s : Shared} {elt target iter : Expr} {ifs : List Expr} {scope : Scope} {cl : List (Str × Addr)} {pos : Pos} {Q : Value → Shared → Prop} {src : List α} {Pv : α → Value → Prop} (p : α → Bool) (F : α → Value → Option Obj → Prop)
    (hclos : closureFor scope env = pure cl) (hcell : ∀ y ∈ scope.names, y.2 ≠ .cell) (hkind : scope.kind = .function)
    (hnames : ∀ y ∈ scope.names, y.2 = .local → scope.names.lookup y.1 = some .local) (hlen : src.length ≤ 1000)
    (h : wpAny (model prog w) A (eval iter env) (fun xv s₁ => wpAny (model prog w) A (pyIter xv) (fun it s₂ => ∃ I, it = .ref I ∧ LcSrc prog w A target s₂.heap I src Pv ∧
      (∀ C a v s₃ m₃, a ∈ src → Pv a v → s₂.heap.get? C = none → s₃.heap.Ns C m₃ → Chg (· = I) s₂ s₃ → LcTurn prog w A target elt ifs (compEnvC scope cl C env) p F a v s₃) ∧
      (∀ D s' ys, s₂.heap.get? D = none → s'.heap.PlainList D ys.toArray → Paired (Elt F s₂.heap s'.heap) (src.filter p) ys → Chg (· = I) s₂ s' → Q (.ref D) s')) E s₁) E s)
    (hs : ∀ x, foldedSetIterable iter env x = pure x := by intro _; rfl) :
    wpAny (model prog w) A (eval (.ListComp elt [⟨target, iter, ifs, 0⟩] scope pos) env) Q E s :=
  lcB_eval (blk_plain hcell hkind) p F hclos hkind hnames hlen hs (wpAny_mono h (fun _ _ h₁ => wpAny_mono h₁ (fun _ _ ⟨I, e, a, t, q⟩ => ⟨I, e, a, fun C a v s₃ ha hv hO ⟨m, n⟩ hc => t C a v s₃ m ha hv (hO C rfl) n hc, q⟩) fun _ _ e => e) fun _ _ e => e)

/-- the same, stored; the objects are apart -/
theorem lc_assignN {s : Shared} {elt target iter : Expr} {ifs : List Expr} {scope : Scope} {cl : List (Str × Addr)} {pos spos py : Pos} {y : Str} {Q : Flow → Shared → Prop} {src : List α} {Pv : α → Value → Prop} (p : α → Bool) (F : α → Value → Option Obj → Prop)
    (hsw : swapsWith (.ListComp elt [⟨target, iter, ifs, 0⟩] scope pos) (some (.Name y py)) spos.line env = pure true)
    (hclos : closureFor scope env = pure cl) (hcell : ∀ y ∈ scope.names, y.2 ≠ .cell) (hkind : scope.kind = .function)
    (hnames : ∀ y ∈ scope.names, y.2 = .local → scope.names.lookup y.1 = some .local) (hlen : src.length ≤ 1000)
    (hy : env.kindOf y = some .local) (hp : (env.scope.kind == .class || (env.scope.kind == .module && env.locals != env.globals)) = false)
    (h : wpAny (model prog w) A (eval iter env) (fun xv s₁ => wpAny (model prog w) A (pyIter xv) (fun it s₂ => ∃ I m, it = .ref I ∧ LcSrc prog w A target s₂.heap I src Pv ∧ env.locals ≠ I ∧ s₂.heap.Ns env.locals m ∧
      (∀ C a v s₃ m₃, a ∈ src → Pv a v → s₂.heap.get? C = none → s₃.heap.Ns C m₃ → Chg (· = I) s₂ s₃ → LcTurn prog w A target elt ifs (compEnvC scope cl C env) p F a v s₃) ∧
      (∀ D s' ys, s₂.heap.get? D = none → s'.heap.PlainList D ys.toArray → Paired (Elt F s₂.heap s'.heap) (src.filter p) ys → s'.heap.Ns env.locals (fun z => if z = y then some (.ref D) else m z) →
        Chg (fun b => b = I ∨ b = env.locals) s₂ s' → ((∀ a y, ¬ F a y none) → ys.Nodup) → Q .next s')) E s₁) E s)
    (hs : ∀ x, foldedSetIterable iter env x = pure x := by intro _; rfl) :
    wpAny (model prog w) A (exec (.Assign [.Name y py] (.ListComp elt [⟨target, iter, ifs, 0⟩] scope pos) spos) env) Q E s :=
  lcB_assign (blk_plain hcell hkind) p F hsw hclos hkind hnames hlen hs hy hp (wpAny_mono h (fun _ _ h₁ => wpAny_mono h₁ (fun _ _ ⟨I, m, e, a, b, c, t, q⟩ => ⟨I, m, e, a, b, c, fun C a v s₃ ha hv hO ⟨m, n⟩ hc => t C a v s₃ m ha hv (hO C rfl) n hc, q⟩) fun _ _ e => e) fun _ _ e => e)

/-- the same, without that -/
theorem lc_assign {s : Shared} {elt target iter : Expr} {ifs : List Expr} {scope : Scope} {cl : List (Str × Addr)} {pos spos py : Pos} {y : Str} {Q : Flow → Shared → Prop} {src : List α} {Pv : α → Value → Prop} (p : α → Bool) (F : α → Value → Option Obj → Prop)
    (hsw : swapsWith (.ListComp elt [⟨target, iter, ifs, 0⟩] scope pos) (some (.Name y py)) spos.line env = pure true)
    (hclos : closureFor scope env = pure cl) (hcell : ∀ y ∈ scope.names, y.2 ≠ .cell) (hkind : scope.kind = .function)
    (hnames : ∀ y ∈ scope.names, y.2 = .local → scope.names.lookup y.1 = some .local) (hlen : src.length ≤ 1000)
    (hy : env.kindOf y = some .local) (hp : (env.scope.kind == .class || (env.scope.kind == .module && env.locals != env.globals)) = false)
    (h : wpAny (model prog w) A (eval iter env) (fun xv s₁ => wpAny (model prog w) A (pyIter xv) (fun it s₂ => ∃ I m, it = .ref I ∧ LcSrc prog w A target s₂.heap I src Pv ∧ env.locals ≠ I ∧ s₂.heap.Ns env.locals m ∧
      (∀ C a v s₃ m₃, a ∈ src → Pv a v → s₂.heap.get? C = none → s₃.heap.Ns C m₃ → Chg (· = I) s₂ s₃ → LcTurn prog w A target elt ifs (compEnvC scope cl C env) p F a v s₃) ∧
      (∀ D s' ys, s₂.heap.get? D = none → s'.heap.PlainList D ys.toArray → Paired (Elt F s₂.heap s'.heap) (src.filter p) ys → s'.heap.Ns env.locals (fun z => if z = y then some (.ref D) else m z) →
        Chg (fun b => b = I ∨ b = env.locals) s₂ s' → Q .next s')) E s₁) E s)
    (hs : ∀ x, foldedSetIterable iter env x = pure x := by intro _; rfl) :
    wpAny (model prog w) A (exec (.Assign [.Name y py] (.ListComp elt [⟨target, iter, ifs, 0⟩] scope pos) spos) env) Q E s :=
  lc_assignN p F hsw hclos hcell hkind hnames hlen hy hp (wpAny_mono h (fun _ _ h₁ => wpAny_mono h₁ (fun _ _ ⟨I, m, e, a, b, c, t, q⟩ => ⟨I, m, e, a, b, c, t, fun D s' ys d l g n k _ => q D s' ys d l g n k⟩) fun _ _ e => e) fun _ _ e => e) hs

/-- a list of the heap as a source -/
theorem lc_list {target : Expr} {s : Shared} {ax : Addr} {items : List Value} {src : List α} {Pv : α → Value → Prop} (hh : A.handled = none) (hl : s.heap.IsList ax items.toArray) (hP : Paired Pv src items) (o : Obj) (ho : o = { cls := .type "list_iterator", data := .fields #[.ref ax, .int 0 0] }) :
    LcSrc prog w A target (s.heap.push o) s.heap.objs.size src Pv := by
  subst ho
  have hne : ax ≠ s.heap.objs.size := by obtain ⟨o, e⟩ := isList_live hl; exact ne_of_get e (get_size _)
  have hlen : src.length = items.length := hP.length
  have W := Walks.list (prog := prog) (w := w) hh s.heap.objs.size ax hne items.toArray
  rw [show items.toArray.size = src.length by simp [hlen]] at W
  refine ⟨_, _, _, W, ⟨⟨_, Heap.get?_push_size _ rfl, rfl, rfl⟩, hl.push _⟩, ?_, ?_, ?_, fun _ _ _ _ _ hS hq => letGo_listiter hS.1 hq⟩
  · intro b hb
    simp only [List.mem_cons, List.not_mem_nil, or_false] at hb
    rw [Heap.size_push]
    obtain ⟨o, e⟩ := isList_live hl
    have := Heap.lt_size e
    rcases hb with h | h
    · rw [h]; exact Nat.lt_succ_self _
    · rw [h]; exact Nat.lt_succ_of_lt this
  · rintro i h ⟨⟨o, e, _⟩, _⟩; exact ⟨o, e⟩
  · intro i v hi hv
    clear W hl hne
    simp only [List.getElem?_toArray] at hv
    induction hP generalizing i with
    | nil => simp at hv
    | cons h t ih =>
      cases i with
      | zero => simp at hv; subst hv; exact ⟨_, rfl, h⟩
      | succ i => simpa using ih (by simpa using hlen) i (by simpa using hi) (by simpa using hv)
end
end Mine

end

/- Ops -/
section
open PySem PySem.W PyProof.Rows
set_option Elab.async false
namespace Mine
set_option maxRecDepth 10000

/-- the names of the module and of the built-ins -/
structure Gl (mg mb : Str → Option Value) (h : Heap) : Prop where
  g : h.Ns mainGlobals mg
  b : h.Ns builtinsNs mb
theorem Gl.at {mg mb : Str → Option Value} {h h' : Heap} (G : Gl mg mb h) (k : ∀ b o, b = mainGlobals ∨ b = builtinsNs → h.get? b = some o → h'.get? b = some o) : Gl mg mb h' :=
  ⟨G.g.at' fun o e => k _ o (.inl rfl) e, G.b.at' fun o e => k _ o (.inr rfl) e⟩
theorem Gl.keeps {mg mb : Str → Option Value} {h h' : Heap} (G : Gl mg mb h) (k : ∀ b o, h.get? b = some o → h'.get? b = some o) : Gl mg mb h' := G.at fun b o _ e => k b o e

theorem Keeps.refl' (s : Shared) (tk : Nat) : Keeps s { s with toks := tk } := ⟨s.heap, tk, rfl, fun _ _ e => e⟩
theorem Keeps.get' {s s' : Shared} (k : Keeps s s') {b : Addr} {o : Obj} (e : s.heap.get? b = some o) : s'.heap.get? b = some o := by
  obtain ⟨h', tk, rfl, k⟩ := k; exact k b o e
theorem Keeps.trans' {s s' s'' : Shared} (k : Keeps s s') (k' : Keeps s' s'') : Keeps s s'' := by
  obtain ⟨h', tk, rfl, k⟩ := k
  obtain ⟨h'', tk', rfl, k'⟩ := k'
  exact ⟨h'', tk', rfl, fun b o e => k' b o (k b o e)⟩
theorem Keeps.push' (s : Shared) (o : Obj) (tk : Nat) : Keeps s { s with heap := s.heap.push o, toks := tk } := ⟨_, tk, rfl, fun _ _ e => Heap.get?_push_of_some _ e⟩

section
variable {prog : Program} {w : World} {A : Around} {E : Value → Shared → Prop} {s : Shared} {env : Env} {mg mb : Str → Option Value}

theorem ldB {x : Str} {pos : Pos} {v : Value} {Q : Value → Shared → Prop} (G : Gl mg mb s.heap) (hg : mg x = none) (hb : mb x = some v) (h : Q v s)
    (hk : env.scope.kind = .function := by rfl) (hx : env.kindOf x = some .globalImplicit := by rfl) (heg : env.globals = mainGlobals := by rfl) (heb : env.builtins = builtinsNs := by rfl) (hd : (x == ("__debug__" : Str)) = false := by decide) :
    wpAny (model prog w) A (eval (.Name x pos) env) Q E s :=
  Calls.Name_function_global hk hx (Calls.loadGlobal_builtin (heg ▸ G.g) hg (heb ▸ G.b) hb h) hd
theorem ldG {x : Str} {pos : Pos} {v : Value} {Q : Value → Shared → Prop} (G : Gl mg mb s.heap) (hg : mg x = some v) (h : Q v s)
    (hk : env.scope.kind = .function := by rfl) (hx : env.kindOf x = some .globalImplicit := by rfl) (heg : env.globals = mainGlobals := by rfl) (hd : (x == ("__debug__" : Str)) = false := by decide) :
    wpAny (model prog w) A (eval (.Name x pos) env) Q E s :=
  Calls.Name_function_global hk hx (Calls.loadGlobal_global (heg ▸ G.g) hg h) hd
theorem ldCell {x : Str} {pos : Pos} {c : Addr} {v : Value} {Q : Value → Shared → Prop} (hv : s.heap.IsCell c (some v)) (h : Q v s)
    (hk : env.scope.kind = .function := by rfl) (hx : env.kindOf x = some .cell := by rfl) (hc : env.cells.lookup x = some c := by rfl) (hd : (x == ("__debug__" : Str)) = false := by decide) :
    wpAny (model prog w) A (eval (.Name x pos) env) Q E s := wpAny_Name (wpAny_loadName_cell hk hx hc hv h) hd
theorem stCell {x : Str} {c : Addr} {v₀ : Option Value} {v : Value} {Q : Unit → Shared → Prop} (hv : s.heap.IsCell c v₀)
    (h : ∀ h', h'.IsCell c (some v) → Heap.SameBut c s.heap h' → Q () { s with heap := h' })
    (hk : env.scope.kind = .function := by rfl) (hx : env.kindOf x = some .cell := by rfl) (hc : env.cells.lookup x = some c := by rfl) :
    wpAny (model prog w) A (storeName env x v) Q E s := wpAny_storeName_cell hk hx hc hv h

/-- len(e) -/
theorem len_call {p pos : Pos} {e : Expr} {Q : Value → Shared → Prop} (G : Gl mg mb s.heap) (hg : mg "len" = none) (hb : mb "len" = some (.builtin "len"))
    (h : wpAny (model prog w) A (eval e env) (fun v s₁ => ∃ l items, v = .ref l ∧ s₁.heap.IsList l items ∧ items.size ≤ 1000 ∧ ∀ t tk, Q (.int items.size t) { s₁ with toks := tk }) E s)
    (hse : backTo pos (starEach [e] env) = [(false, eval e env)] := by rfl)
    (hk : env.scope.kind = .function := by rfl) (hx : env.kindOf "len" = some .globalImplicit := by rfl) (heg : env.globals = mainGlobals := by rfl) (heb : env.builtins = builtinsNs := by rfl) :
    wpAny (model prog w) A (eval (.Call (.Name "len" p) [e] [] pos) env) Q E s := by
  refine wpAny_Call_NameR (ldB G hg hb ?_ hk hx heg heb)
  rw [hse]
  refine Calls.callWith_builtin rfl (Calls.evalArgs_plain (Calls.spliced_cons (wpAny_mono h (fun v s₁ h₁ => Calls.spliced_nil ?_) fun _ _ e => e)))
  obtain ⟨l, items, rfl, hl, hsz, hQ⟩ := h₁
  exact Calls.call_len_list hl (by omega) (hQ _ _)

/-- the iterator of a range that was just made -/
theorem iter_made {a b : Nat} {x y z : Tok} {s₁ : Shared} {tk : Nat} {K : Value → Shared → Prop} (hab : a ≤ b) (hb : b ≤ 1000)
    (hK : ∀ I h' tk, s₁.heap.get? I = none → (∀ b o, s₁.heap.get? b = some o → h'.get? b = some o) → I < h'.objs.size → IsRangeIter h' I ((a : Int) + ((0 : Nat) : Int) * 1) (((b - a : Nat) : Int) - ((0 : Nat) : Int)) 1 → K (.ref I) { s₁ with heap := h', toks := tk }) :
    wpAny (model prog w) A (pyIter (.ref s₁.heap.objs.size)) K E { s₁ with heap := s₁.heap.push { cls := .type "range", data := .fields #[.int a x, .int b y, .int 1 z] }, toks := tk } := by
  have many : Builtin.Range.rangeSize a b 1 = ((b - a : Nat) : Int) := by rw [rangeSize_one]; split <;> omega
  refine wpAny_pyIter_range (IsRange.new ..) (small_one (by omega) (by omega) (by omega) (by omega)) (hK _ _ tk (get_ge ?_) (fun _ _ => push2_keep) ?_ ?_)
  · rw [Heap.size_push]; exact Nat.le_succ _
  · simp only [Heap.size_push]; exact Nat.lt_succ_self _
  · rw [Int.natCast_zero, Int.zero_mul, Int.add_zero, Int.sub_zero, ← many]
    exact Heap.get?_push_size _ rfl

/-- iter(range(b)) -/
theorem range1 {rp rpos : Pos} {e : Expr} {K : Value → Shared → Prop} (G : Gl mg mb s.heap) (hg : mg "range" = none) (hb : mb "range" = some (.type "range"))
    (h : wpAny (model prog w) A (eval e env) (fun v s₁ => ∃ (n : Nat) (t : Tok), v = .int n t ∧ n ≤ 1000 ∧ ∀ I h' tk, s₁.heap.get? I = none → (∀ b o, s₁.heap.get? b = some o → h'.get? b = some o) → I < h'.objs.size →
      IsRangeIter h' I (0 + ((0 : Nat) : Int) * 1) ((n : Int) - ((0 : Nat) : Int)) 1 → K (.ref I) { s₁ with heap := h', toks := tk }) E s)
    (hse : backTo rpos (starEach [e] env) = [(false, eval e env)] := by rfl)
    (hk : env.scope.kind = .function := by rfl) (hx : env.kindOf "range" = some .globalImplicit := by rfl) (heg : env.globals = mainGlobals := by rfl) (heb : env.builtins = builtinsNs := by rfl) :
    wpAny (model prog w) A (eval (.Call (.Name "range" rp) [e] [] rpos) env) (fun xv s₁ => wpAny (model prog w) A (pyIter xv) K E s₁) E s := by
  refine wpAny_Call_NameR (ldB G hg hb (hse ▸ PyProof.Rows.callWith_type rfl (Calls.evalArgs_plain (Calls.spliced_cons (wpAny_mono h ?_ fun _ _ x => x)))) hk hx heg heb)
  rintro _ s₁ ⟨n, t, rfl, hn, hK⟩
  exact Calls.spliced_nil (call_range_1 (iter_made (a := 0) (Nat.zero_le n) hn hK))

/-- iter(range(a, b)) -/
theorem range2 {rp rpos : Pos} {e1 e2 : Expr} {K : Value → Shared → Prop} (G : Gl mg mb s.heap) (hg : mg "range" = none) (hb : mb "range" = some (.type "range"))
    (h : wpAny (model prog w) A (eval e1 env) (fun v₁ s₁ => wpAny (model prog w) A (eval e2 env) (fun v s₁ => ∃ (a b : Nat) (t t' : Tok), v₁ = .int a t' ∧ v = .int b t ∧ a ≤ b ∧ b ≤ 1000 ∧ ∀ I h' tk, s₁.heap.get? I = none → (∀ b o, s₁.heap.get? b = some o → h'.get? b = some o) → I < h'.objs.size →
      IsRangeIter h' I ((a : Int) + ((0 : Nat) : Int) * 1) (((b - a : Nat) : Int) - ((0 : Nat) : Int)) 1 → K (.ref I) { s₁ with heap := h', toks := tk }) E s₁) E s)
    (hse : backTo rpos (starEach [e1, e2] env) = [(false, eval e1 env), (false, eval e2 env)] := by rfl)
    (hk : env.scope.kind = .function := by rfl) (hx : env.kindOf "range" = some .globalImplicit := by rfl) (heg : env.globals = mainGlobals := by rfl) (heb : env.builtins = builtinsNs := by rfl) :
    wpAny (model prog w) A (eval (.Call (.Name "range" rp) [e1, e2] [] rpos) env) (fun xv s₁ => wpAny (model prog w) A (pyIter xv) K E s₁) E s := by
  refine wpAny_Call_NameR (ldB G hg hb (hse ▸ PyProof.Rows.callWith_type rfl (Calls.evalArgs_plain (Calls.spliced_cons (wpAny_mono h (fun _ s₁ h₁ => Calls.spliced_cons (wpAny_mono h₁ ?_ fun _ _ x => x)) fun _ _ x => x)))) hk hx heg heb)
  rintro _ s₂ ⟨a, b, t, t', rfl, rfl, hab, hn, hK⟩
  exact Calls.spliced_nil (call_range_2 (iter_made hab hn hK))

/-- a range as a comprehension's source: the numbers a .. a + n - 1 -/
theorem lc_range {x : Str} {px : Pos} {h : Heap} {I : Addr} {a n : Nat} (hh : A.handled = none) (hI : I < h.objs.size) (hit : IsRangeIter h I ((a : Int) + ((0 : Nat) : Int) * 1) ((n : Int) - ((0 : Nat) : Int)) 1) :
    LcSrc prog w A (.Name x px) h I (List.range' a n) (fun (k : Nat) v => ∃ t, v = .int k t) := by
  have W := Walks.range (prog := prog) (w := w) (A := A) hh I a 1 n
  rw [show n = (List.range' a n).length by simp] at W
  refine ⟨_, _, _, W, ?_, ?_, ?_, ?_, fun _ _ _ _ _ _ hq => wpAny_of_eq (by rfl) hq⟩
  · simpa using hit
  · intro b hb
    simp only [List.mem_singleton] at hb
    rw [hb]; exact hI
  · intro i h hi; exact ⟨_, hi⟩
  · rintro i v hi ⟨t, rfl⟩
    refine ⟨a + i, ?_, t, ?_⟩
    · rw [List.getElem?_range' (by simpa using hi)]; simp
    · congr 1; push_cast; omega
end
end Mine

end

/- C3a -/
section
open PySem PySem.W PyProof.Rows
set_option Elab.async false
namespace Mine
set_option maxRecDepth 10000

section
variable {prog : Program} {w : World} {A : Around} {E : Value → Shared → Prop} {s : Shared} {L q f : Addr} {cd : Value} {nm : Str} {m : Str → Option Value} {Q : Flow → Shared → Prop}

/-- the inner search: is the candidate in a tail? -/
theorem c3_for2 {c : Int} {tc : Tok} {rs : List (Addr × List Int)} (hh : A.handled = none)
    (hn : s.heap.Ns L m) (hq : m "sequences" = some (.ref q)) (hc : m "candidate" = some (.int c tc))
    (hl : s.heap.IsList q (rs.map fun p => Value.ref p.1).toArray) (hqL : q ≠ L) (hrows : ∀ p ∈ rs, IntL s.heap p.1 p.2 ∧ p.1 ≠ L ∧ p.2 ≠ [])
    (hsz : ∀ p ∈ rs, p.2.length ≤ 1000)
    (kb : ∀ s' m', Chg (· = L) s s' → s'.heap.Ns L m' → (∀ y : Str, y ≠ "s2" → m' y = m y) → (∀ p ∈ rs, c ∉ p.2.tail) → Q .brk s')
    (kn : ∀ s' m', Chg (· = L) s s' → s'.heap.Ns L m' → (∀ y : Str, y ≠ "s2" → y ≠ "candidate" → m' y = m y) → m' "candidate" = some .none → (∃ p ∈ rs, c ∈ p.2.tail) → Q .next s') :
    wpAny (model prog w) A (exec c3For2 (envOf nm c3Scope L f cd)) Q E s := by
  have hfresh := get_size s.heap
  have hLI : L ≠ s.heap.objs.size := by obtain ⟨o, e⟩ := ns_live hn; exact ne_of_get e hfresh
  refine for_list hh (ldN hn hq ⟨q, _, fun i s₁ => Chg (· = L) s s₁ ∧ (∃ m', s₁.heap.Ns L m' ∧ (∀ y : Str, y ≠ "s2" → m' y = m y)) ∧ (∀ p ∈ rs.take i, c ∉ p.2.tail), rfl, hl, ?_, ?_, ?_, ?_⟩)
  · intro h' k
    exact ⟨(Chg.refl _ s).stepH fun b o _ e => k b o e, ⟨m, hn.at' fun o e => k _ o e, fun _ _ => rfl⟩, by simp⟩
  · rintro i s₁ h' tk ⟨C, ⟨m', hn', hm'⟩, hi⟩ hk
    refine ⟨?_, ⟨m', hn'.at' fun o e => hk L o hLI e, hm'⟩, hi⟩
    obtain ⟨h1, t1, rfl, k1⟩ := C
    exact ⟨h', tk, rfl, fun b o nb e => hk b o (ne_of_get e hfresh) (k1 b o nb e)⟩
  · rintro i v s₁ hP ⟨C, ⟨m', hn', hm'⟩, hprev⟩ hl₁ ⟨oI, hoI⟩
    obtain ⟨p, hp, rfl⟩ : ∃ p, rs[i]? = some p ∧ v = .ref p.1 := by
      simp only [List.getElem?_toArray, List.getElem?_map, Option.map_eq_some_iff] at hP
      obtain ⟨p, hp, e⟩ := hP; exact ⟨p, hp, e.symm⟩
    obtain ⟨hpl, hpL, hpne⟩ := hrows p (List.mem_of_getElem? hp)
    refine wpAny_assign_Name (stN' (s := s₁) hn' fun h₁ hn₁ hs₁ => ?_)
    have hpl₁ : IntL h₁ p.1 p.2 := (hpl.chg C hpL).at fun o e => hs₁.extBut _ o hpL e
    obtain ⟨vs, hvs, hvi⟩ := hpl₁.isList
    obtain ⟨x, xs, hx⟩ := List.exists_cons_of_ne_nil hpne
    rw [hx] at hvi
    obtain ⟨tx, vs', rfl, hvi'⟩ := hvi.cons_inv
    have hlen := hvi'.length
    have hsz' := hsz p (List.mem_of_getElem? hp)
    rw [hx] at hsz'
    simp only [List.length_cons] at hsz'
    refine wpAny_execs_cons (wpAny_If (wpAny_isTrue_Compare1 (ldN hn₁ (by rw [if_neg (by decide), hm' _ (by decide), hc]) ?_)))
    refine wpAny_Subscript_list_slice (ldN hn₁ (by rw [if_pos rfl]) (wpAny_evalPart_some (wpAny_Constant_int (wpAny_evalPart_none ⟨_, _, some 1, none, rfl, hvs, by simp [sizeLine]; omega, .int 1 _, .none, ?_⟩))))
    have hpick : slicePick (Value.int x tx :: vs').toArray (some 1) none none = vs'.toArray := by
      have := slicePick_from (Value.int x tx :: vs').toArray 1 (by simp)
      simpa using this
    rw [hpick]
    refine in_list_ints (vs := vs') (ns := xs) (push2_plain _ _ _).isList hvi' (wpAny_truthy_bool ?_)
    have Cn : ∀ {h₂ : Heap} {tk : Nat}, (∀ b o, b ≠ L → h₁.get? b = some o → h₂.get? b = some o) → Chg (· = L) s { s₁ with heap := h₂, toks := tk } := fun k =>
      C.step fun b o hb e => k b o hb (hs₁.extBut b o hb e)
    have hIL : ∀ o, s₁.heap.get? s.heap.objs.size = some o → h₁.get? s.heap.objs.size = some o := fun o e => hs₁.extBut _ o (Ne.symm hLI) e
    have hqK : ∀ o, s₁.heap.get? q = some o → h₁.get? q = some o := fun o e => hs₁.extBut _ o hqL e
    split
    · rename_i hb
      refine wpAny_execs_cons (wpAny_Assign_Name (wpAny_Constant_none (stN' (hn₁.at' fun o e => push2_keep e) fun h₂ hn₂ hs₂ => ?_)))
      refine wpAny_execs_cons (wpAny_Break ?_)
      refine kn _ _ (Cn fun b o hb e => hs₂.extBut b o hb (push2_keep e)) hn₂ (fun y h1 h2 => by rw [if_neg h2, if_neg h1, hm' y h1]) (by rw [if_pos rfl]) ⟨p, List.mem_of_getElem? hp, ?_⟩
      rw [hx]
      simpa using hb
    · rename_i hb
      refine wpAny_execs_nil (wpAny_execs_nil ⟨⟨Cn fun b o hb e => push2_keep e, ⟨_, hn₁.at' fun o e => push2_keep e, fun y hy => by rw [if_neg hy, hm' y hy]⟩, ?_⟩, fun o e => push2_keep (hIL o e), fun o e => push2_keep (hqK o e)⟩)
      intro p' hp'
      rw [List.take_add_one, hp] at hp'
      rcases List.mem_append.mp hp' with h | h
      · exact hprev p' h
      · simp only [Option.toList_some, List.mem_singleton] at h
        subst h
        rw [hx]
        simpa using hb
  · rintro s₁ ⟨C, ⟨m', hn', hm'⟩, hprev⟩
    refine wpAny_execs_cons (wpAny_Break ?_)
    refine kb s₁ m' C hn' hm' ?_
    simpa using hprev
end
end Mine

end

/- C3b -/
section
open PySem PySem.W PyProof.Rows
set_option Elab.async false
namespace Mine
set_option maxRecDepth 10000
section
variable {prog : Program} {w : World} {A : Around} {E : Value → Shared → Prop} {s : Shared} {L q f : Addr} {cd : Value} {nm : Str} {m : Str → Option Value} {Q : Flow → Shared → Prop}

theorem item0 {env : Env} {x : Str} {p1 p2 p3 : Pos} {m : Str → Option Value} {a : Addr} {v : Value} {vs : List Value} {Q : Value → Shared → Prop} (hn : s.heap.Ns env.locals m) (hx : m x = some (.ref a)) (hl : s.heap.IsList a (v :: vs).toArray)
    (h : Q v { s with toks := s.toks + 1 }) (hk : env.scope.kind = .function := by rfl) (hkx : env.kindOf x = some .local := by rfl) (hd : (x == ("__debug__" : Str)) = false := by decide) :
    wpAny (model prog w) A (eval (.Subscript (.Name x p1) (.Constant (.int 0) 0 p2) p3) env) Q E s := by
  refine Subscript_ (ldN hn hx (wpAny_Constant_int ?_) hk hkx hd)
  refine tail_any (T := "list") (s := { s with toks := s.toks + 1 }) (Heap.IsList.typeIs (s := { s with toks := s.toks + 1 }) hl) slot_list_getitem.lookup (wpAny_getItem_list (s := { s with toks := s.toks + 1 }) hl (by decide) (by decide) (by simp) h) (by with_unfolding_all rfl)

/-- the search for the candidate -/
theorem c3_for1 {rs : List (Addr × List Int)} (hh : A.handled = none)
    (hn : s.heap.Ns L m) (hq : m "sequences" = some (.ref q))
    (hl : s.heap.IsList q (rs.map fun p => Value.ref p.1).toArray) (hqL : q ≠ L) (hrows : ∀ p ∈ rs, IntL s.heap p.1 p.2 ∧ p.1 ≠ L ∧ p.2 ≠ [])
    (hsz : ∀ p ∈ rs, p.2.length ≤ 1000) (hne : rs ≠ [])
    (k : ∀ s' m' v, Chg (· = L) s s' → s'.heap.Ns L m' → (∀ y : Str, y ≠ "s1" → y ≠ "s2" → y ≠ "candidate" → m' y = m y) → m' "candidate" = some v →
      (match pick (rs.map (·.2)) with | some c => ∃ t, v = .int c t | none => v = .none) → Q .next s') :
    wpAny (model prog w) A (exec c3For1 (envOf nm c3Scope L f cd)) Q E s := by
  have hfresh := get_size s.heap
  have hLI : L ≠ s.heap.objs.size := by obtain ⟨o, e⟩ := ns_live hn; exact ne_of_get e hfresh
  refine for_list hh (ldN hn hq ⟨q, _, fun i s₁ => Chg (· = L) s s₁ ∧ (∃ m', s₁.heap.Ns L m' ∧ (∀ y : Str, y ≠ "s1" → y ≠ "s2" → y ≠ "candidate" → m' y = m y) ∧ (0 < i → m' "candidate" = some .none)) ∧
      (∀ j p, j < i → rs[j]? = some p → ∀ x xs, p.2 = x :: xs → ∃ p' ∈ rs, x ∈ p'.2.tail), rfl, hl, ?_, ?_, ?_, ?_⟩)
  · intro h' k
    exact ⟨(Chg.refl _ s).stepH fun b o _ e => k b o e, ⟨m, hn.at' fun o e => k _ o e, fun _ _ _ _ => rfl, fun h => absurd h (by omega)⟩, fun j p hj => absurd hj (by omega)⟩
  · rintro i s₁ h' tk ⟨C, ⟨m', hn', hm'⟩, hi⟩ hk
    refine ⟨?_, ⟨m', hn'.at' fun o e => hk L o hLI e, hm'⟩, hi⟩
    obtain ⟨h1, t1, rfl, k1⟩ := C
    exact ⟨h', tk, rfl, fun b o nb e => hk b o (ne_of_get e hfresh) (k1 b o nb e)⟩
  · rintro i v s₁ hP ⟨C, ⟨m', hn', hm', hc'⟩, hprev⟩ hl₁ ⟨oI, hoI⟩
    obtain ⟨p, hp, rfl⟩ : ∃ p, rs[i]? = some p ∧ v = .ref p.1 := by
      simp only [List.getElem?_toArray, List.getElem?_map, Option.map_eq_some_iff] at hP
      obtain ⟨p, hp, e⟩ := hP; exact ⟨p, hp, e.symm⟩
    obtain ⟨hpl, hpL, hpne⟩ := hrows p (List.mem_of_getElem? hp)
    refine wpAny_assign_Name (stN' (s := s₁) hn' fun h₁ hn₁ hs₁ => ?_)
    have hpl₁ : IntL h₁ p.1 p.2 := (hpl.chg C hpL).at fun o e => hs₁.extBut _ o hpL e
    obtain ⟨vs, hvs, hvi⟩ := hpl₁.isList
    obtain ⟨x, xs, hx⟩ := List.exists_cons_of_ne_nil hpne
    rw [hx] at hvi
    obtain ⟨tx, vs', rfl, hvi'⟩ := hvi.cons_inv
    refine wpAny_execs_cons (wpAny_Assign_Name (item0 hn₁ (by rw [if_pos rfl]) hvs (stN' (s := { s₁ with heap := h₁, toks := _ }) hn₁ fun h₂ hn₂ hs₂ => ?_)))
    have K2 : ∀ b o, b ≠ L → s₁.heap.get? b = some o → h₂.get? b = some o := fun b o hb e => hs₂.extBut b o hb (hs₁.extBut b o hb e)
    have C2 : ∀ tk, Chg (· = L) s { s₁ with heap := h₂, toks := tk } := fun tk => C.step fun b o hb e => K2 b o hb e
    refine wpAny_execs_cons ?_
    refine c3_for2 (rs := rs) (q := q) (s := { s₁ with heap := h₂, toks := _ }) hh hn₂ (by rw [if_neg (by decide), if_neg (by decide), hm' _ (by decide) (by decide) (by decide), hq]) (by rw [if_pos rfl])
      (hl₁.at fun o e => K2 q o hqL e) hqL (fun p' hp' => ?_) hsz ?_ ?_
    · obtain ⟨a, b, c⟩ := hrows p' hp'
      exact ⟨a.chg (C2 _) b, b, c⟩
    · -- no tail has it
      intro s₃ m₃ C₃ hn₃ hm₃ hgood
      refine k s₃ m₃ (.int x tx) ((C2 _).trans C₃) hn₃ (fun y h1 h2 h3 => by rw [hm₃ y h2, if_neg h3, if_neg h1, hm' y h1 h2 h3]) (by rw [hm₃ _ (by decide), if_pos rfl]) ?_
      have : pick (rs.map (·.2)) = some x := by
        refine pick_some (i := i) (xs := xs) (by rw [List.getElem?_map, hp, Option.map_some, hx]) ?_ ?_
        · intro s' hs'
          obtain ⟨p', hp', rfl⟩ := List.mem_map.mp hs'
          exact hgood p' hp'
        · intro j s' hj hs' y ys hy
          rw [List.getElem?_map, Option.map_eq_some_iff] at hs'
          obtain ⟨p', hp', rfl⟩ := hs'
          obtain ⟨p'', h1, h2⟩ := hprev j p' hj hp' y ys hy
          exact ⟨p''.2, List.mem_map_of_mem h1, h2⟩
      rw [this]
      exact ⟨tx, rfl⟩
    · -- one has
      intro s₃ m₃ C₃ hn₃ hm₃ hcn hbad
      refine wpAny_execs_nil ⟨⟨(C2 _).trans C₃, ⟨m₃, hn₃, fun y h1 h2 h3 => by rw [hm₃ y h2 h3, if_neg h3, if_neg h1, hm' y h1 h2 h3], fun _ => hcn⟩, ?_⟩, fun o e => C₃.get (Ne.symm hLI) (K2 _ o (Ne.symm hLI) e), fun o e => C₃.get hqL (K2 _ o hqL e)⟩
      intro j p' hj hp' y ys hy
      rcases Nat.lt_succ_iff_lt_or_eq.mp hj with h | h
      · exact hprev j p' h hp' y ys hy
      · subst h
        rw [hp] at hp'; cases hp'
        rw [hx] at hy; cases hy
        exact hbad
  · rintro s₁ ⟨C, ⟨m', hn', hm', hc'⟩, hprev⟩
    have hlen : 0 < rs.length := List.length_pos_iff.mpr hne
    refine wpAny_execs_nil (k s₁ m' .none C hn' hm' (hc' (by simpa using hlen)) ?_)
    have : pick (rs.map (·.2)) = none := by
      refine pick_none ?_
      intro s' hs' x xs hx
      obtain ⟨p', hp', rfl⟩ := List.mem_map.mp hs'
      obtain ⟨j, hj⟩ := List.mem_iff_getElem?.mp hp'
      obtain ⟨p'', h1, h2⟩ := hprev j p' (by have := (List.getElem?_eq_some_iff.mp hj).1; simpa using this) hj x xs hx
      exact ⟨p''.2, List.mem_map_of_mem h1, h2⟩
    rw [this]
end
end Mine

end

/- C3c -/
section
open PySem PySem.W PyProof.Rows
set_option Elab.async false
namespace Mine
set_option maxRecDepth 10000
section
variable {prog : Program} {w : World} {A : Around} {E : Value → Shared → Prop} {s : Shared} {L q f : Addr} {cd : Value} {nm : Str} {m : Str → Option Value} {Q : Flow → Shared → Prop}

/-- the heads that are the candidate go -/
theorem c3_for3 {rs : List (Addr × List Int)} {c : Int} {tc : Tok} (hh : A.handled = none)
    (hn : s.heap.Ns L m) (hq : m "sequences" = some (.ref q)) (hc : m "candidate" = some (.int c tc))
    (hl : s.heap.IsList q (rs.map fun p => Value.ref p.1).toArray) (hqL : q ≠ L) (hrows : ∀ p ∈ rs, IntL s.heap p.1 p.2 ∧ p.1 ≠ L ∧ p.2 ≠ [] ∧ p.1 ≠ q)
    (hsz : ∀ p ∈ rs, p.2.length ≤ 1000) (hnd : (rs.map (·.1)).Nodup)
    (k : ∀ s' m', Chg (fun b => b = L ∨ b ∈ rs.map (·.1)) s s' → s'.heap.Ns L m' → (∀ y : Str, y ≠ "seq" → m' y = m y) → (∀ p ∈ rs, IntL s'.heap p.1 (drop1 c p.2)) → Q .next s') :
    wpAny (model prog w) A (exec c3For3 (envOf nm c3Scope L f cd)) Q E s := by
  have hfresh := get_size s.heap
  have hLI : L ≠ s.heap.objs.size := by obtain ⟨o, e⟩ := ns_live hn; exact ne_of_get e hfresh
  have hrI : ∀ p ∈ rs, p.1 ≠ s.heap.objs.size := fun p hp => by obtain ⟨o, e⟩ := (hrows p hp).1.live; exact ne_of_get e hfresh
  refine for_list hh (ldN hn hq ⟨q, _, fun i s₁ => Chg (fun b => b = L ∨ b ∈ rs.map (·.1)) s s₁ ∧ (∃ m', s₁.heap.Ns L m' ∧ (∀ y : Str, y ≠ "seq" → m' y = m y)) ∧
      (∀ j p, rs[j]? = some p → IntL s₁.heap p.1 (if j < i then drop1 c p.2 else p.2)), rfl, hl, ?_, ?_, ?_, ?_⟩)
  · intro h' k
    refine ⟨(Chg.refl _ s).stepH fun b o _ e => k b o e, ⟨m, hn.at' fun o e => k _ o e, fun _ _ => rfl⟩, fun j p hj => ?_⟩
    rw [if_neg (Nat.not_lt_zero _)]
    exact (hrows p (List.mem_of_getElem? hj)).1.at fun o e => k _ o e
  · rintro i s₁ h' tk ⟨C, ⟨m', hn', hm'⟩, hi⟩ hk
    refine ⟨?_, ⟨m', hn'.at' fun o e => hk L o hLI e, hm'⟩, fun j p hj => (hi j p hj).at fun o e => hk _ o (hrI p (List.mem_of_getElem? hj)) e⟩
    obtain ⟨h1, t1, rfl, k1⟩ := C
    exact ⟨h', tk, rfl, fun b o nb e => hk b o (ne_of_get e hfresh) (k1 b o nb e)⟩
  · rintro i v s₁ hP ⟨C, ⟨m', hn', hm'⟩, hrow⟩ hl₁ ⟨oI, hoI⟩
    obtain ⟨p, hp, rfl⟩ : ∃ p, rs[i]? = some p ∧ v = .ref p.1 := by
      simp only [List.getElem?_toArray, List.getElem?_map, Option.map_eq_some_iff] at hP
      obtain ⟨p, hp, e⟩ := hP; exact ⟨p, hp, e.symm⟩
    have hpm := List.mem_of_getElem? hp
    obtain ⟨_, hpL, hpne, hpq⟩ := hrows p hpm
    have hpl := hrow i p hp
    rw [if_neg (Nat.lt_irrefl _)] at hpl
    refine wpAny_assign_Name (stN' (s := s₁) hn' fun h₁ hn₁ hs₁ => ?_)
    have K1 : ∀ b o, b ≠ L → s₁.heap.get? b = some o → h₁.get? b = some o := fun b o hb e => hs₁.extBut b o hb e
    have hpl₁ : IntL h₁ p.1 p.2 := hpl.at fun o e => K1 _ o hpL e
    obtain ⟨vs, hvs, hvi⟩ := hpl₁
    obtain ⟨x, xs, hx⟩ := List.exists_cons_of_ne_nil hpne
    have hvi0 := hvi
    rw [hx] at hvi
    obtain ⟨tx, vs', rfl, hvi'⟩ := hvi.cons_inv
    have hlen := hvi'.length
    have hsz' := hsz p hpm
    rw [hx] at hsz'
    simp only [List.length_cons] at hsz'
    refine wpAny_execs_cons (wpAny_If (wpAny_isTrue_Compare1 (item0 hn₁ (by rw [if_pos rfl]) hvs.isList (ldN (s := { s₁ with heap := h₁, toks := _ }) hn₁ (by rw [if_neg (by decide), hm' _ (by decide), hc]) (PyProof.Rows.eq_int (wpAny_truthy_bool ?_))))))
    have other : ∀ (j : Nat) (p' : Addr × List Int), rs[j]? = some p' → j ≠ i → p'.1 ≠ p.1 := fun j p' hj hji e => by
      have h1 : (rs.map (·.1))[j]? = some p.1 := by rw [List.getElem?_map, hj, Option.map_some, e]
      have h2 : (rs.map (·.1))[i]? = some p.1 := by rw [List.getElem?_map, hp, Option.map_some]
      have hjl := (List.getElem?_eq_some_iff.mp h1).1
      exact hji ((List.getElem?_inj hjl hnd).mp (h1.trans h2.symm))
    have step : ∀ (j : Nat) (p' : Addr × List Int), rs[j]? = some p' → j ≠ i → (if j < i + 1 then drop1 c p'.2 else p'.2) = (if j < i then drop1 c p'.2 else p'.2) := fun j p' _ hji => by
      by_cases h : j < i
      · rw [if_pos h, if_pos (by omega)]
      · rw [if_neg h, if_neg (by omega)]
    split
    · rename_i hb
      have hxc : x = c := by simpa using hb
      refine wpAny_execs_cons (wpAny_Delete (wpAny_deleteEach_cons (wpAny_delete_Subscript (ldN (s := { s₁ with heap := h₁, toks := _ }) hn₁ (by rw [if_pos rfl]) (wpAny_Constant_int ?_)))))
      refine wpAny_delItem_plain (s := { s₁ with heap := h₁, toks := _ }) (k := 0) hvs (by decide) (by simp [seqIndex?]) (fun h₂ hl₂ hs₂ => ?_) (by simp [sizeLine]; omega)
      refine wpAny_deleteEach_nil (wpAny_execs_nil (wpAny_execs_nil ?_))
      have K2 : ∀ b o, b ≠ L → b ≠ p.1 → s₁.heap.get? b = some o → h₂.get? b = some o := fun b o hb hb' e => hs₂.extBut b o hb' (K1 b o hb e)
      refine ⟨⟨C.step fun b o hb e => K2 b o (fun h => hb (.inl h)) (fun h => hb (.inr (h ▸ List.mem_map_of_mem hpm))) e, ⟨_, hn₁.at' fun o e => hs₂.extBut _ o (Ne.symm hpL) e, fun y hy => by rw [if_neg hy, hm' y hy]⟩, fun j p' hj => ?_⟩, fun o e => K2 _ o (Ne.symm hLI) (Ne.symm (hrI p hpm)) e, fun o e => K2 _ o hqL (Ne.symm hpq) e⟩
      by_cases hji : j = i
      · subst hji
        rw [hp] at hj; cases hj
        rw [if_pos (by omega), hx, drop1, if_pos hxc]
        refine ⟨vs', ?_, hvi'⟩
        simpa using hl₂
      · rw [step j p' hj hji]
        exact (hrow j p' hj).at fun o e => K2 _ o (hrows p' (List.mem_of_getElem? hj)).2.1 (other j p' hj hji) e
    · rename_i hb
      have hxc : x ≠ c := by simpa using hb
      refine wpAny_execs_nil (wpAny_execs_nil ⟨⟨C.step fun b o hb e => K1 b o (fun h => hb (.inl h)) e, ⟨_, hn₁, fun y hy => by rw [if_neg hy, hm' y hy]⟩, fun j p' hj => ?_⟩, fun o e => K1 _ o (Ne.symm hLI) e, fun o e => K1 _ o hqL e⟩)
      by_cases hji : j = i
      · subst hji
        rw [hp] at hj; cases hj
        rw [if_pos (by omega), hx, drop1, if_neg hxc]
        exact ⟨_, hvs, hvi⟩
      · rw [step j p' hj hji]
        exact (hrow j p' hj).at fun o e => K1 _ o (hrows p' (List.mem_of_getElem? hj)).2.1 e
  · rintro s₁ ⟨C, ⟨m', hn', hm'⟩, hrow⟩
    refine wpAny_execs_nil (k s₁ m' C hn' hm' fun p hp => ?_)
    obtain ⟨j, hj⟩ := List.mem_iff_getElem?.mp hp
    have := hrow j p hj
    rwa [if_pos (by have := (List.getElem?_eq_some_iff.mp hj).1; simpa using this)] at this
end
end Mine

end

/- C3d -/
section
open PySem PySem.W PyProof.Rows
set_option Elab.async false
namespace Mine
set_option maxRecDepth 10000
section
variable {prog : Program} {w : World} {A : Around} {E : Value → Shared → Prop} {s : Shared} {L q f : Addr} {cd : Value} {nm : Str} {m : Str → Option Value} {Q : Flow → Shared → Prop}

def ne2 (p : Addr × List Int) : Bool := !p.2.isEmpty
theorem paired_refs {rs : List (Addr × List Int)} : Paired (fun (p : Addr × List Int) v => v = Value.ref p.1) rs (rs.map fun p => Value.ref p.1) := by
  induction rs with
  | nil => exact .nil
  | cons p r ih => exact .cons rfl ih
theorem paired_map {α : Type} {g : α → Value} {l₁ : List α} {l₂ : List Value} (h : Paired (fun a y => y = g a) l₁ l₂) : l₂ = l₁.map g := by
  induction h with
  | nil => rfl
  | cons h _ ih => rw [h, ih]; rfl

/-- sequences = [s for s in sequences if s] -/
theorem c3_comp {live : List (Addr × List Int)} (hh : A.handled = none) (hn : s.heap.Ns L m) (hq : m "sequences" = some (.ref q))
    (hl : s.heap.IsList q (live.map fun p => Value.ref p.1).toArray) (hrows : ∀ p ∈ live, IntL s.heap p.1 p.2) (hsz : ∀ p ∈ live, p.2.length ≤ 1000) (hlen : live.length ≤ 1000)
    (k : ∀ s' q', Chg (· = L) s s' → s'.heap.Ns L (fun y => if y = "sequences" then some (.ref q') else m y) → s'.heap.IsList q' ((live.filter ne2).map fun p => Value.ref p.1).toArray → s.heap.get? q' = none → Q .next s') :
    wpAny (model prog w) A (exec (nth c3W 0) (envOf nm c3Scope L f cd)) Q E s := by
  have hfresh := get_size s.heap
  have hLI : L ≠ s.heap.objs.size := by obtain ⟨o, e⟩ := ns_live hn; exact ne_of_get e hfresh
  refine lc_assign (src := live) (Pv := fun p v => v = .ref p.1) ne2 (fun p y _ => y = .ref p.1) (by rfl) (by rfl) (by decide) rfl (by decide) hlen (by rfl) (by rfl) (ldN hn hq (wpAny_pyIter_list hl ?_))
  have old : ∀ {b : Addr} {o : Obj}, s.heap.get? b = some o → b ≠ s.heap.objs.size := fun e => ne_of_get e hfresh
  refine ⟨_, m, rfl, lc_list hh hl paired_refs _ rfl, hLI, hn.push _, ?_, ?_⟩
  · rintro C p v s₃ m₃ hp rfl hC hn₃ hk E'
    refine wpAny_assign_Name (stN' (env := compEnvC _ _ C _) hn₃ fun h₄ hn₄ hs₄ => ⟨⟨_, hn₄⟩, (Chg.refl _ _).step fun b o hb e => hs₄.extBut b o hb e, ?_⟩)
    have hpl : IntL h₄ p.1 p.2 := (hrows p hp).at fun o e => hs₄.extBut _ o (ne_of_get (Heap.get?_push_of_some _ e) hC) (hk.get (old e) (Heap.get?_push_of_some _ e))
    refine wpAny_tests_one (wpAny_isTrue_value (ldN (env := compEnvC _ _ C _) hn₄ (by rw [if_pos rfl]) ?_))
    obtain ⟨vs, hvs, hvi⟩ := hpl.isList
    refine wpAny_truthy_list hvs (by have := hvi.length; have := hsz p hp; simp; omega) ⟨?_, ⟨_, _, rfl, fun b o e => e⟩, fun _ => ?_⟩
    · have := hvi.length
      rw [ne2]
      cases h : p.2 <;> cases vs <;> simp_all
    · exact ldN (env := compEnvC _ _ C _) hn₄ (by rw [if_pos rfl]) ⟨⟨_, _, rfl, fun b o e => e⟩, .inl rfl⟩
  · intro D s' ys hD hlD hP hn' hk
    have hys := paired_map (g := fun p : Addr × List Int => Value.ref p.1) (Paired.mono (fun a y x => x.elim id fun ⟨_, _, _, _, _, h⟩ => h) hP)
    subst hys
    refine k s' D ?_ hn' hlD.isList ?_
    · obtain ⟨h', tk, rfl, k'⟩ := hk
      exact ⟨h', tk, rfl, fun b o hb e => k' b o (fun h => h.elim (old e) hb) (Heap.get?_push_of_some _ e)⟩
    · cases e : s.heap.get? D with
      | none => rfl
      | some o => have := Heap.get?_push_of_some { cls := .type "list_iterator", data := .fields #[.ref q, .int 0 0] } e; rw [hD] at this; cases this
end
end Mine

end

/- C3e -/
section
open PySem PySem.W PyProof.Rows
set_option Elab.async false
namespace Mine
set_option maxRecDepth 10000

theorem filter_map_drop (c : Int) (rs : List (Addr × List Int)) : ((rs.filter ne2).map fun p => (p.1, drop1 c p.2)).filter ne2 = (rs.map fun p => (p.1, drop1 c p.2)).filter ne2 := by
  induction rs with
  | nil => rfl
  | cons p r ih =>
    obtain ⟨a, l⟩ := p
    cases l with
    | nil =>
      have e : ne2 (a, ([] : List Int)) = false := rfl
      rw [List.filter_cons, e, List.map_cons, List.filter_cons]
      simp only [Bool.false_eq_true, if_false]
      rw [show ne2 (a, drop1 c []) = false from rfl]
      simpa using ih
    | cons x xs =>
      have e : ne2 (a, x :: xs) = true := rfl
      rw [List.filter_cons, e, List.map_cons, List.filter_cons]
      simp only [if_true, List.map_cons, List.filter_cons]
      rw [ih]
theorem snd_filter (rs : List (Addr × List Int)) : (rs.filter ne2).map (·.2) = (rs.map (·.2)).filter fun s => !s.isEmpty := by
  induction rs with
  | nil => rfl
  | cons p r ih =>
    obtain ⟨a, l⟩ := p
    cases l with
    | nil => simpa [ne2] using ih
    | cons x xs => simpa [ne2] using ih
theorem len_le_total {rs : List (List Int)} {s : List Int} (h : s ∈ rs) : s.length ≤ total rs := by
  induction rs with
  | nil => cases h
  | cons t r ih =>
    simp only [total, List.map_cons, List.sum_cons] at *
    rcases List.mem_cons.mp h with rfl | h
    · omega
    · have := ih h; omega

theorem plainL_of {h : Heap} {a : Addr} {xs : Array Value} (x : h.PlainList a xs) : PlainL h a xs := let ⟨n, e⟩ := x; ⟨_, n, e, rfl, rfl, rfl⟩
theorem nodup_fst {rs : List (Addr × List Int)} (hnd : (rs.map (·.1)).Nodup) {p q : Addr × List Int} (hp : p ∈ rs) (hq : q ∈ rs) (e : p.1 = q.1) : p = q := by
  obtain ⟨i, hi⟩ := List.mem_iff_getElem?.mp hp
  obtain ⟨j, hj⟩ := List.mem_iff_getElem?.mp hq
  have h1 : (rs.map (·.1))[i]? = some p.1 := by rw [List.getElem?_map, hi, Option.map_some]
  have h2 : (rs.map (·.1))[j]? = some p.1 := by rw [List.getElem?_map, hj, Option.map_some, e]
  have := (List.getElem?_inj (List.getElem?_eq_some_iff.mp h1).1 hnd).mp (h1.trans h2.symm)
  subst this
  rw [hi] at hj; cases hj; rfl

section
variable {prog : Program} {w : World} {A : Around} {E : Value → Shared → Prop} {s : Shared} {L q f : Addr} {cd : Value} {nm : Str} {m mg mb : Str → Option Value} {Q : Flow → Shared → Prop}

/-- the state of the merge at the loop's head -/
structure C3At (s₀ : Shared) (L : Addr) (rs0 : List (Addr × List Int)) (rs : List (Addr × List Int)) (acc : List Int) (s : Shared) : Prop where
  chg : Chg (fun b => b = L ∨ b ∈ rs0.map (·.1)) s₀ s
  adr : rs.map (·.1) = rs0.map (·.1)
  rows : ∀ p ∈ rs, IntL s.heap p.1 p.2
  fit : acc.length + total (rs.map (·.2)) ≤ 500
  names : ∃ m' q' r', ∃ live : List (Addr × List Int), s.heap.Ns L m' ∧ m' "sequences" = some (.ref q') ∧ m' "result" = some (.ref r') ∧ s.heap.IsList q' (live.map fun p => Value.ref p.1).toArray ∧ IntL s.heap r' acc ∧
    q' ≠ L ∧ q' ∉ rs0.map (·.1) ∧ r' ≠ L ∧ r' ∉ rs0.map (·.1) ∧ r' ≠ q' ∧ s₀.heap.get? r' = none ∧ (∀ p ∈ live, p ∈ rs) ∧ live.filter ne2 = rs.filter ne2 ∧ live.length ≤ rs0.length

theorem c3_turn {s₀ : Shared} {rs0 rs : List (Addr × List Int)} {acc : List Int} (hh : A.handled = none) (S : C3At s₀ L rs0 rs acc s) (hnd : (rs0.map (·.1)).Nodup) (hL : L ∉ rs0.map (·.1)) (hlen0 : rs0.length ≤ 500)
    (hg : s₀.heap.Ns mainGlobals mg) (hb : s₀.heap.Ns builtinsNs mb) (hgE : mg "RuntimeError" = none) (hbE : mb "RuntimeError" = some (.type "RuntimeError"))
    (hgL : mainGlobals ≠ L ∧ mainGlobals ∉ rs0.map (·.1)) (hbL : builtinsNs ≠ L ∧ builtinsNs ∉ rs0.map (·.1))
    (kret : ∀ s' r, (∀ p ∈ rs, p.2 = []) → C3At s₀ L rs0 rs acc s' → IntL s'.heap r acc → s₀.heap.get? r = none → r ≠ L → Q (.ret (.ref r)) s')
    (kerr : ∀ s' h' e t, (∃ p ∈ rs, p.2 ≠ []) → pick (rs.map (·.2)) = none → C3At s₀ L rs0 rs acc s' → Heap.MadeExc s'.heap h' e "RuntimeError" [.str "Inconsistent hierarchy" t] → E (.ref e) { s' with heap := h' })
    (knext : ∀ s' c, pick (rs.map (·.2)) = some c → C3At s₀ L rs0 (rs.map fun p => (p.1, drop1 c p.2)) (acc ++ [c]) s' → Q .next s') :
    wpAny (model prog w) A (execs c3W (envOf nm c3Scope L f cd)) Q E s := by
  obtain ⟨hC, hadr, hrows, hfit, m', q', r', live, hn, hq, hr, hl, hacc, hqL, hqR, hrL, hrR, hrq, hr0, hsub, hfil, hlen⟩ := S
  have hrowL : ∀ p ∈ rs, p.1 ≠ L := fun p hp h => hL (h ▸ hadr ▸ List.mem_map_of_mem hp)
  have hrs : ∀ p ∈ rs, p.2.length ≤ 500 := fun p hp => by have := len_le_total (List.mem_map_of_mem (f := (·.2)) hp); omega
  refine wpAny_execs_cons (st := nth c3W 0) ?_
  refine c3_comp (live := live) hh hn hq hl (fun p hp => hrows p (hsub p hp)) (fun p hp => by have := hrs p (hsub p hp); omega) (by omega) fun s₁ q₁ C₁ hn₁ hl₁ hq₁ => ?_
  have hq₁L : q₁ ≠ L := by obtain ⟨o, e⟩ := ns_live hn; exact Ne.symm (ne_of_get e hq₁)
  have hq₁R : q₁ ∉ rs0.map (·.1) := fun h => by
    rw [← hadr] at h
    obtain ⟨p, hp, e⟩ := List.mem_map.mp h
    obtain ⟨o, ho⟩ := (hrows p hp).live
    exact ne_of_get ho hq₁ e
  have hq₁r : r' ≠ q₁ := by obtain ⟨o, e⟩ := hacc.live; exact ne_of_get e hq₁
  rw [hfil] at hl₁
  have hrows₁ : ∀ p ∈ rs, IntL s₁.heap p.1 p.2 := fun p hp => (hrows p hp).chg C₁ (hrowL p hp)
  have hacc₁ : IntL s₁.heap r' acc := hacc.chg C₁ hrL
  have CC₁ : Chg (fun b => b = L ∨ b ∈ rs0.map (·.1)) s₀ s₁ := hC.trans (C₁.mono fun b o _ h => .inl h)
  -- if not sequences: return result
  refine wpAny_execs_cons (wpAny_If (wpAny_isTrue_Not (wpAny_isTrue_value (ldN hn₁ (by rw [if_pos rfl]) (wpAny_truthy_list hl₁ ?_ ?_)))))
  · have : (rs.filter ne2).length ≤ rs.length := List.length_filter_le _ _
    have h2 : rs.length = rs0.length := by have := congrArg List.length hadr; simpa using this
    simp; omega
  split
  · rename_i hempty
    have he : rs.filter ne2 = [] := by simpa using hempty
    refine wpAny_execs_cons (wpAny_Return_some (ldN (s := { s₁ with toks := _ }) hn₁ (by rw [if_neg (by decide), hr]) ?_))
    refine kret _ r' ?_ ⟨CC₁.toks _, hadr, hrows₁, hfit, _, q₁, r', rs.filter ne2, hn₁, by rw [if_pos rfl], by rw [if_neg (by decide), hr], hl₁, hacc₁, hq₁L, hq₁R, hrL, hrR, hq₁r, hr0, fun p hp => (List.mem_filter.mp hp).1, ?_, ?_⟩ hacc₁ hr0 hrL
    · intro p hp
      have := List.filter_eq_nil_iff.mp he p hp
      simpa [ne2] using this
    · rw [List.filter_filter]; congr 1; funext p; simp
    · rw [he]; simp
  · rename_i hempty
    have hne : rs.filter ne2 ≠ [] := by simpa using hempty
    refine wpAny_execs_nil ?_
    -- the search
    refine wpAny_execs_cons (st := c3For1) ?_
    refine c3_for1 (rs := rs.filter ne2) (q := q₁) (s := { s₁ with toks := _ }) hh hn₁ (by rw [if_pos rfl]) hl₁ hq₁L (fun p hp => ?_) (fun p hp => ?_) hne fun s₂ m₂ v C₂ hn₂ hm₂ hc₂ hv => ?_
    · obtain ⟨hp, hpne⟩ := List.mem_filter.mp hp
      exact ⟨hrows₁ p hp, hrowL p hp, by simpa [ne2] using hpne⟩
    · have := hrs p (List.mem_filter.mp hp).1; omega
    rw [snd_filter, pick_filter] at hv
    have hrows₂ : ∀ p ∈ rs, IntL s₂.heap p.1 p.2 := fun p hp => (hrows₁ p hp).chg (s := { s₁ with toks := _ }) C₂ (hrowL p hp)
    have hacc₂ : IntL s₂.heap r' acc := hacc₁.chg (s := { s₁ with toks := _ }) C₂ hrL
    have CC₂ : Chg (fun b => b = L ∨ b ∈ rs0.map (·.1)) s₀ s₂ := (CC₁.toks _).trans (C₂.mono fun b o _ h => .inl h)
    have hl₂ := isList_chg (s := { s₁ with toks := _ }) hl₁ C₂ hq₁L
    have hseq₂ : m₂ "sequences" = some (.ref q₁) := by rw [hm₂ _ (by decide) (by decide) (by decide), if_pos rfl]
    have hres₂ : m₂ "result" = some (.ref r') := by rw [hm₂ _ (by decide) (by decide) (by decide), if_neg (by decide), hr]
    refine wpAny_execs_cons (wpAny_If (wpAny_isTrue_Compare1 (ldN hn₂ hc₂ (wpAny_Constant_none (is_none (wpAny_truthy_bool ?_))))))
    cases hpk : pick (rs.map (·.2)) with
    | none =>
      rw [hpk] at hv
      subst hv
      simp only [beq_self_eq_true, if_true]
      refine wpAny_execs_cons (wpAny_Raise_call PySem.F.excCall_RuntimeError PySem.F.excRaise_RuntimeError hh (by rfl) ?_)
      refine Calls.Name_function_global (env := envOf nm c3Scope L f cd) rfl (by rfl) (Calls.loadGlobal_builtin (env := envOf nm c3Scope L f cd) (ns_chg hg CC₂ fun h => h.elim hgL.1 hgL.2) hgE (ns_chg hb CC₂ fun h => h.elim hbL.1 hbL.2) hbE ?_) (by decide)
      refine ⟨rfl, Calls.evalArgs_plain (wpAny_items_cons (wpAny_Constant_str (wpAny_items_nil ⟨rfl, by simp [sizeLine], fun h' e hE => ?_⟩)))⟩
      refine kerr _ h' e _ ?_ hpk ⟨CC₂.toks _, hadr, hrows₂, hfit, m₂, q₁, r', rs.filter ne2, hn₂, hseq₂, hres₂, hl₂, hacc₂, hq₁L, hq₁R, hrL, hrR, hq₁r, hr0, fun p hp => (List.mem_filter.mp hp).1, ?_, ?_⟩ hE
      · obtain ⟨p, hp⟩ := List.exists_mem_of_ne_nil _ hne
        obtain ⟨hp, hpne⟩ := List.mem_filter.mp hp
        exact ⟨p, hp, by simpa [ne2] using hpne⟩
      · rw [List.filter_filter]; congr 1; funext p; simp
      · have : (rs.filter ne2).length ≤ rs.length := List.length_filter_le _ _
        have h2 : rs.length = rs0.length := by have := congrArg List.length hadr; simpa using this
        omega
    | some c =>
      rw [hpk] at hv
      obtain ⟨t, rfl⟩ := hv
      rw [show (Value.int c t == Value.none) = false from rfl]
      simp only [Bool.false_eq_true, if_false]
      refine wpAny_execs_nil (wpAny_execs_cons (wpAny_Expr ?_))
      obtain ⟨va, hva, hvi⟩ := hacc₂
      refine wpAny_Call_append (by rfl) (by rfl) (by rfl) (by rfl) (ldN hn₂ hres₂ ⟨r', va.toArray, rfl, plainL_of hva, ldN hn₂ hc₂ ?_⟩)
      refine wpAny_list_append_plain (hsz := by have := hvi.length; simp [sizeLine]; omega) hva fun h₃ hl₃ hs₃ => ?_
      have K3 : ∀ b o, b ≠ r' → s₂.heap.get? b = some o → h₃.get? b = some o := fun b o hb e => hs₃.extBut b o hb e
      have hrr : ∀ p ∈ rs, p.1 ≠ r' := fun p hp h => hrR (h ▸ hadr ▸ List.mem_map_of_mem hp)
      refine wpAny_execs_cons (st := c3For3) ?_
      refine c3_for3 (rs := rs.filter ne2) (q := q₁) (s := { s₂ with heap := h₃ }) hh (hn₂.at' fun o e => K3 _ o (Ne.symm hrL) e) hseq₂ hc₂ (hl₂.at fun o e => K3 _ o (Ne.symm hq₁r) e) hq₁L (fun p hp => ?_) (fun p hp => ?_) ?_ fun s₄ m₄ C₄ hn₄ hm₄ hrows₄ => ?_
      · obtain ⟨hp, hpne⟩ := List.mem_filter.mp hp
        exact ⟨(hrows₂ p hp).at fun o e => K3 _ o (hrr p hp) e, hrowL p hp, by simpa [ne2] using hpne, fun h => hq₁R (h ▸ hadr ▸ List.mem_map_of_mem hp)⟩
      · have := hrs p (List.mem_filter.mp hp).1; omega
      · rw [← hadr] at hnd
        exact hnd.sublist (List.Sublist.map _ List.filter_sublist)
      have hsubadr : ∀ b, b ∈ (rs.filter ne2).map (·.1) → b ∈ rs0.map (·.1) := fun b hb => by
        rw [← hadr]
        obtain ⟨p, hp, e⟩ := List.mem_map.mp hb
        exact List.mem_map.mpr ⟨p, (List.mem_filter.mp hp).1, e⟩
      have hr4 : ¬ (r' = L ∨ r' ∈ (rs.filter ne2).map (·.1)) := fun h => h.elim hrL fun h => hrR (hsubadr _ h)
      have hq4 : ¬ (q₁ = L ∨ q₁ ∈ (rs.filter ne2).map (·.1)) := fun h => h.elim hq₁L fun h => hq₁R (hsubadr _ h)
      refine wpAny_execs_nil (knext s₄ c hpk ⟨?_, ?_, ?_, ?_, m₄, q₁, r', (rs.filter ne2).map fun p => (p.1, drop1 c p.2), hn₄, ?_, ?_, ?_, ?_, hq₁L, hq₁R, hrL, hrR, hq₁r, hr0, ?_, ?_, ?_⟩)
      · have CC₃ : Chg (fun b => b = L ∨ b ∈ rs0.map (·.1)) s₀ { s₂ with heap := h₃ } := by
          obtain ⟨h', tk, rfl, k'⟩ := CC₂
          exact ⟨h₃, tk, rfl, fun b o hb e => K3 b o (ne_of_get e hr0) (k' b o hb e)⟩
        exact CC₃.trans (C₄.mono fun b o _ h => h.imp id fun h => hsubadr _ h)
      · rw [List.map_map, ← hadr]; rfl
      · intro p' hp'
        obtain ⟨p, hp, rfl⟩ := List.mem_map.mp hp'
        by_cases h : ne2 p = true
        · exact hrows₄ p (List.mem_filter.mpr ⟨hp, h⟩)
        · have hp0 : p.2 = [] := by simpa [ne2] using h
          have hnot : ¬ (p.1 = L ∨ p.1 ∈ (rs.filter ne2).map (·.1)) := fun h' => h'.elim (hrowL p hp) fun h' => by
            obtain ⟨p2, hp2, e2⟩ := List.mem_map.mp h'
            obtain ⟨hp2, hne2⟩ := List.mem_filter.mp hp2
            have := nodup_fst (hadr ▸ hnd) hp2 hp e2
            subst this
            exact h hne2
          have := ((hrows₂ p hp).at fun o e => K3 _ o (hrr p hp) e).chg (s := { s₂ with heap := h₃ }) C₄ hnot
          rw [hp0] at this ⊢
          exact this
      · have h1 := total_drop1_lt (pick_head hpk)
        rw [List.length_append, List.length_singleton, List.map_map]
        rw [List.map_map] at h1
        have e : (rs.map ((fun x : Addr × List Int => x.2) ∘ fun p => (p.1, drop1 c p.2))) = rs.map (drop1 c ∘ fun x => x.2) := rfl
        rw [e]; omega
      · rw [hm₄ _ (by decide), hseq₂]
      · rw [hm₄ _ (by decide), hres₂]
      · have := isList_chg (s := { s₂ with heap := h₃ }) (hl₂.at fun o e => K3 _ o (Ne.symm hq₁r) e) C₄ hq4
        rw [List.map_map]
        exact this
      · have hr3 : IntL h₃ r' (acc ++ [c]) := ⟨va ++ [.int c t], by simpa using hl₃, hvi.append (.cons c t .nil)⟩
        exact hr3.chg (s := { s₂ with heap := h₃ }) C₄ hr4
      · intro p' hp'
        obtain ⟨p, hp, rfl⟩ := List.mem_map.mp hp'
        exact List.mem_map.mpr ⟨p, (List.mem_filter.mp hp).1, rfl⟩
      · exact filter_map_drop c rs
      · rw [List.length_map]
        have : (rs.filter ne2).length ≤ rs.length := List.length_filter_le _ _
        have h2 : rs.length = rs0.length := by have := congrArg List.length hadr; simpa using this
        omega
end
end Mine
namespace Mine
section
variable {prog : Program} {w : World} {A : Around} {E : Value → Shared → Prop} {s : Shared} {L q f : Addr} {cd : Value} {nm : Str} {m mg mb : Str → Option Value} {Q : Flow → Shared → Prop}

/-- how the merge leaves the rows -/
structure C3End (s₀ : Shared) (L : Addr) (rs0 : List (Addr × List Int)) (rowsF : List (List Int)) (s : Shared) : Prop where
  chg : Chg (fun b => b = L ∨ b ∈ rs0.map (·.1)) s₀ s
  names : ∃ m', s.heap.Ns L m'
  rows : ∃ rs : List (Addr × List Int), rs.map (·.1) = rs0.map (·.1) ∧ rs.map (·.2) = rowsF ∧ ∀ p ∈ rs, IntL s.heap p.1 p.2

theorem C3At.end_ {s₀ : Shared} {rs0 rs : List (Addr × List Int)} {acc : List Int} (S : C3At s₀ L rs0 rs acc s) : C3End s₀ L rs0 (rs.map (·.2)) s :=
  let ⟨m', _, _, _, hn, _⟩ := S.names; ⟨S.chg, ⟨m', hn⟩, rs, S.adr, rfl, S.rows⟩

theorem c3_body {rs0 : List (Addr × List Int)} {n : Nat} {res : Option (List Int)} {rowsF : List (List Int)} (hh : A.handled = none)
    (hn : s.heap.Ns L m) (hq : m "sequences" = some (.ref q)) (hl : s.heap.IsList q (rs0.map fun p => Value.ref p.1).toArray) (hqL : q ≠ L) (hqR : q ∉ rs0.map (·.1))
    (hrows : ∀ p ∈ rs0, IntL s.heap p.1 p.2) (hnd : (rs0.map (·.1)).Nodup) (hL : L ∉ rs0.map (·.1)) (hfit : total (rs0.map (·.2)) ≤ 500) (hlen0 : rs0.length ≤ 500)
    (hg : s.heap.Ns mainGlobals mg) (hb : s.heap.Ns builtinsNs mb) (hgE : mg "RuntimeError" = none) (hbE : mb "RuntimeError" = some (.type "RuntimeError"))
    (hgL : mainGlobals ≠ L ∧ mainGlobals ∉ rs0.map (·.1)) (hbL : builtinsNs ≠ L ∧ builtinsNs ∉ rs0.map (·.1))
    (hM : Mg n (rs0.map (·.2)) [] res rowsF)
    (kret : ∀ s' r acc, res = some acc → C3End s L rs0 rowsF s' → IntL s'.heap r acc → s.heap.get? r = none → r ≠ L → Q (.ret (.ref r)) s')
    (kerr : ∀ s' h' e t, res = none → C3End s L rs0 rowsF s' → Heap.MadeExc s'.heap h' e "RuntimeError" [.str "Inconsistent hierarchy" t] →
      loopE (model prog w) A (envOf nm c3Scope L f cd) E (.ref e) { s' with heap := h' }) :
    wpAny (model prog w) A (execs c3Body (envOf nm c3Scope L f cd)) Q E s := by
  refine wpAny_execs_cons (st := nth c3Body 0) (wpAny_Assign_Name (wpAny_List (wpAny_items_nil ⟨by simp [sizeLine], stN' (hn.push _) fun h₁ hn₁ hs₁ => ?_⟩)))
  have hfresh := get_size s.heap
  obtain ⟨oL, hoL⟩ := ns_live hn
  have hrL : s.heap.objs.size ≠ L := Ne.symm (ne_of_get hoL hfresh)
  have old : ∀ b o, b ≠ L → s.heap.get? b = some o → h₁.get? b = some o := fun b o hb e => hs₁.extBut b o hb (Heap.get?_push_of_some _ e)
  have hrow : ∀ p ∈ rs0, p.1 ≠ L := fun p hp h => hL (h ▸ List.mem_map_of_mem hp)
  have S0 : ∀ tk, C3At s L rs0 rs0 [] { s with heap := h₁, toks := tk } := fun tk => by
    refine ⟨⟨h₁, tk, rfl, fun b o hb e => old b o (fun h => hb (.inl h)) e⟩, rfl, fun p hp => (hrows p hp).at fun o e => old _ o (hrow p hp) e, by simpa using hfit, _, q, s.heap.objs.size, rs0, hn₁, by rw [if_neg (by decide), hq], by rw [if_pos rfl],
      hl.at fun o e => old _ o hqL e, ⟨[], ⟨_, hs₁.extBut _ _ hrL (Heap.get?_push_size _ rfl)⟩, .nil⟩, hqL, hqR, hrL, ?_, ?_, hfresh, fun p hp => hp, rfl, Nat.le_refl _⟩
    · intro h
      obtain ⟨p, hp, e⟩ := List.mem_map.mp h
      obtain ⟨o, ho⟩ := (hrows p hp).live
      exact ne_of_get ho hfresh e
    · obtain ⟨o, ho⟩ := isList_live hl
      exact Ne.symm (ne_of_get ho hfresh)
  refine wpAny_execs_cons (wpAny_While ?_)
  refine codeAny_whileLoop (fun n s' => ∃ (rs : List (Addr × List Int)) (acc : List Int), Mg n (rs.map (·.2)) acc res rowsF ∧ C3At s L rs0 rs acc s') ?_ n ⟨rs0, [], hM, S0 _⟩
  rintro n s' ⟨rs, acc, hM', S⟩
  refine wpAny_isTrue_value (wpAny_Constant_bool (wpAny_truthy_bool ?_))
  simp only [if_true]
  refine c3_turn hh S hnd hL hlen0 hg hb hgE hbE hgL hbL ?_ ?_ ?_
  · intro s'' r hemp S' hr hr0 hrL'
    have hM2 : res = some acc ∧ rowsF = rs.map (·.2) := by
      cases hM' with
      | done _ => exact ⟨rfl, rfl⟩
      | stuck h _ =>
        obtain ⟨x, hx, hne⟩ := h
        obtain ⟨p, hp, rfl⟩ := List.mem_map.mp hx
        exact absurd (hemp p hp) hne
      | step h _ =>
        obtain ⟨x, hx, xs, e⟩ := pick_head h
        obtain ⟨p, hp, rfl⟩ := List.mem_map.mp hx
        rw [hemp p hp] at e; cases e
    exact kret s'' r acc hM2.1 (hM2.2 ▸ S'.end_) hr hr0 hrL'
  · intro s'' h' e t hne hpk S' hE
    have hM2 : res = none ∧ rowsF = rs.map (·.2) := by
      cases hM' with
      | done h =>
        obtain ⟨p, hp, hne⟩ := hne
        exact absurd (h _ (List.mem_map_of_mem hp)) hne
      | stuck _ _ => exact ⟨rfl, rfl⟩
      | step h _ => rw [hpk] at h; cases h
    exact kerr s'' h' e t hM2.1 (hM2.2 ▸ S'.end_) hE
  · intro s'' c hpk S'
    cases hM' with
    | done h =>
      obtain ⟨x, hx, xs, e⟩ := pick_head hpk
      rw [h x hx] at e; cases e
    | stuck _ h => rw [hpk] at h; cases h
    | step h hM2 =>
      rw [hpk] at h; cases h
      refine ⟨_, Nat.lt_succ_self _, rs.map fun p => (p.1, drop1 c p.2), acc ++ [c], ?_, S'⟩
      rw [List.map_map] at hM2 ⊢
      exact hM2
end
end Mine

end

/- Wu -/
section
open PySem PySem.W PyProof.Rows
set_option Elab.async false
namespace Mine
set_option maxRecDepth 10000

/-- the way up from k -/
def upP (par : Nat → Nat) (k : Nat) : List Nat := if h : 0 < k ∧ par k < k then k :: upP par (par k) else [k]
termination_by k
decreasing_by exact h.2
theorem upP_zero (par : Nat → Nat) : upP par 0 = [0] := by rw [upP, dif_neg (by omega)]
theorem upP_pos {par : Nat → Nat} {k : Nat} (h0 : 0 < k) (hp : par k < k) : upP par k = k :: upP par (par k) := by rw [upP, dif_pos ⟨h0, hp⟩]
theorem upP_len (par : Nat → Nat) (k : Nat) : (upP par k).length ≤ k + 1 := by
  induction k using Nat.strongRecOn with
  | ind k ih =>
    rw [upP]
    split
    · rename_i h; have := ih _ h.2; simp; omega
    · simp
abbrev upI (par : Nat → Nat) (k : Nat) : List Int := (upP par k).map fun n : Nat => (n : Int)

section
variable {prog : Program} {w : World} {A : Around} {E : Value → Shared → Prop} {s : Shared} {L f td fa : Addr} {cd : Value} {nm : Str} {m mg mb : Str → Option Value} {Q : Flow → Shared → Prop}

theorem last_item {x : Str} {p1 p2 p3 p4 : Pos} {env : Env} {a : Addr} {v : Value} {vs : List Value} {Q : Value → Shared → Prop} (hn : s.heap.Ns env.locals m) (hx : m x = some (.ref a)) (hl : s.heap.IsList a (vs ++ [v]).toArray) (hsz : vs.length ≤ 1000)
    (h : ∀ tk, Q v { s with toks := tk }) (hk : env.scope.kind = .function := by rfl) (hkx : env.kindOf x = some .local := by rfl) (hd : (x == ("__debug__" : Str)) = false := by decide) :
    wpAny (model prog w) A (eval (.Subscript (.Name x p1) (.UnaryOp .USub (.Constant (.int 1) 0 p2) p3) p4) env) Q E s := by
  refine Subscript_ (ldN hn hx (wpAny_UnaryOp (wpAny_Constant_int (neg_int ?_))) hk hkx hd)
  refine tail_any (T := "list") (Heap.IsList.typeIs (s := { s with toks := _ }) hl) slot_list_getitem.lookup (wpAny_getItem_list_neg (s := { s with toks := _ }) hl (by decide) ?_ (by decide) ?_ (h _)) (by with_unfolding_all rfl)
  · simp; omega
  · rw [show (-1 + ((vs ++ [v]).toArray.size : Int)).toNat = vs.length by simp; omega]
    simp

theorem filter_at {fams : List Addr} (hnd : fams.Nodup) {i : Nat} {a : Addr} (hi : fams[i]? = some a) : (List.range' 0 fams.length).filter (fun k => fams[k]? == some a) = [i] := by
  have hlt := (List.getElem?_eq_some_iff.mp hi).1
  have e : (fun k => fams[k]? == some a) = fun k : Nat => decide (k = i) := by
    funext k
    by_cases hk : k = i
    · subst hk; simp [hi]
    · simp only [hk, decide_false]
      by_cases h2 : fams[k]? = some a
      · exact absurd ((List.getElem?_inj (List.getElem?_eq_some_iff.mp h2).1 hnd).mp (h2.trans hi.symm)) hk
      · simpa using h2
  have key : ∀ n s, s ≤ i → i < s + n → (List.range' s n).filter (fun k : Nat => decide (k = i)) = [i] := by
    intro n
    induction n with
    | zero => intro s h1 h2; omega
    | succ n ih =>
      intro s h1 h2
      rw [List.range'_succ, List.filter_cons]
      by_cases hs : s = i
      · subst hs
        simp only [decide_true, if_true]
        rw [List.filter_eq_nil_iff.mpr]
        intro x hx
        have := List.mem_range'_1.mp hx
        simp; omega
      · simp only [hs, decide_false, Bool.false_eq_true, if_false]
        exact ih (s + 1) (by omega) (by omega)
  have := key fams.length 0 (Nat.zero_le _) (by omega)
  rw [e]
  exact this

/-- [j for j in range(len(families)) if families[j] is family][0] -/
theorem wu_find {fams : List Addr} {i : Nat} {a : Addr} {p0 : Pos} {Q : Value → Shared → Prop} (hh : A.handled = none) (G : Gl mg mb s.heap) (hgr : mg "range" = none) (hbr : mb "range" = some (.type "range")) (hgl : mg "len" = none) (hbl : mb "len" = some (.builtin "len"))
    (hc1 : s.heap.IsCell (L + 1) (some (.ref fa))) (hc2 : s.heap.IsCell (L + 2) (some (.ref a)))
    (hfa : s.heap.IsList fa (fams.map Value.ref).toArray) (hnd : fams.Nodup) (hlive : ∀ b ∈ fams, ∃ o, s.heap.get? b = some o ∧ o.cls ≠ .type "tuple") (hlen : fams.length ≤ 1000) (hi : fams[i]? = some a)
    (h : ∀ t s', Keeps s s' → Q (.int i t) s') :
    wpAny (model prog w) A (eval (match nth (bodyOf (nth wuBody 1)) 1 with | .Expr (.Call _ [e] _ _) _ => e | _ => .Constant .none 0 p0) (envOfC nm wuScope L f cd)) Q E s := by
  refine Subscript_ ?_
  refine lc_eval (src := List.range' 0 fams.length) (Pv := fun (k : Nat) v => ∃ t, v = .int k t) (cl := [("family", L + 2), ("families", L + 1)]) (fun k => fams[k]? == some a) (fun k y _ => ∃ t, y = .int k t) (by rfl) (by decide) rfl (by decide) (by simpa using hlen) ?_
  refine range1 G hgr hbr (len_call G hgl hbl (ldCell hc1 ⟨fa, _, rfl, hfa, by simpa using hlen, fun t tk => ⟨fams.length, t, by simp, hlen, fun I h' tk' hI hk hIlt hit => ⟨I, rfl, lc_range (a := 0) hh hIlt hit, ?_, ?_⟩⟩⟩))
  · rintro C k v s₃ m₃ hkm ⟨tv, rfl⟩ hC hn₃ hch E'
    refine wpAny_assign_Name (stN' (env := compEnvC _ _ C _) hn₃ fun h₄ hn₄ hs₄ => ⟨⟨_, hn₄⟩, (Chg.refl _ _).step fun b o hb e => hs₄.extBut b o hb e, ?_⟩)
    have K : ∀ b o, s.heap.get? b = some o → h₄.get? b = some o := fun b o e => hs₄.extBut b o (ne_of_get (hk b o e) hC) (hch.get (ne_of_get e hI) (hk b o e))
    have hklt : k < fams.length := by simpa [List.mem_range'_1] using hkm
    obtain ⟨b, hb⟩ : ∃ b, fams[k]? = some b := ⟨fams[k], by simp [hklt]⟩
    have hfa4 : h₄.IsList fa (fams.map Value.ref).toArray := hfa.at fun o e => K _ o e
    refine wpAny_tests_one (wpAny_isTrue_Compare1 (Subscript_ (ldCell (env := compEnvC _ _ C _) (hc1.keeps K) (ldN (env := compEnvC _ _ C _) hn₄ (by rw [if_pos rfl]) ?_))))
    refine tail_any (T := "list") (Heap.IsList.typeIs (s := { s₃ with heap := h₄, toks := _ }) hfa4) slot_list_getitem.lookup (wpAny_getItem_list (s := { s₃ with heap := h₄, toks := _ }) hfa4 (by omega) (by omega) (x := .ref b) (by simp [hb]) ?_) (by with_unfolding_all rfl)
    refine ldCell (env := compEnvC _ _ C _) (hc2.keeps K) ?_
    have hmem := List.mem_of_getElem? hb
    by_cases hba : b = a
    · subst hba
      refine wpAny_is_ref_self (wpAny_truthy_bool ⟨by simp [hb], Keeps.refl' { s₃ with heap := h₄, toks := _ } _, fun _ => ?_⟩)
      exact ldN (env := compEnvC _ _ C _) hn₄ (by rw [if_pos rfl]) ⟨Keeps.refl' { s₃ with heap := h₄, toks := _ } _, .inl ⟨tv, rfl⟩⟩
    · obtain ⟨ob, hob, hobc⟩ := hlive b hmem
      obtain ⟨oa, hoa, _⟩ := hlive a (List.mem_of_getElem? hi)
      refine wpAny_is_ref_other hba (K _ _ hob) (K _ _ hoa) hobc (wpAny_truthy_bool ⟨by simp [hb, hba], Keeps.refl' { s₃ with heap := h₄, toks := _ } _, fun hf => by cases hf⟩)
  · intro D s' ys hD hl hP hch
    rw [filter_at hnd hi] at hP
    cases hP with
    | cons h1 h2 =>
      cases h2
      obtain ⟨ti, rfl⟩ : ∃ t, _ = Value.int i t := h1.elim id fun ⟨_, _, _, _, _, h⟩ => h
      have hK : Keeps s s' := by
        obtain ⟨h'', tk'', rfl, k⟩ := hch
        exact ⟨h'', tk'', rfl, fun b o e => k b o (ne_of_get e hI) (hk b o e)⟩
      refine wpAny_Constant_int ?_
      exact tail_any (T := "list") (Heap.IsList.typeIs (s := { s' with toks := _ }) hl.isList) slot_list_getitem.lookup (wpAny_getItem_list (s := { s' with toks := _ }) hl.isList (by decide) (by decide) (x := .int i ti) (by simp) (h ti _ (Keeps.trans' hK (Keeps.refl' _ _)))) (by with_unfolding_all rfl)

theorem wu_body {fams : List Addr} {par : Nat → Nat} {tb : Int → Option Value} {k : Nat} {t : Tok} (hh : A.handled = none) (G : Gl mg mb s.heap) (hgr : mg "range" = none) (hbr : mb "range" = some (.type "range")) (hgl : mg "len" = none) (hbl : mb "len" = some (.builtin "len"))
    (hGL : mainGlobals ≠ L ∧ builtinsNs ≠ L ∧ mainGlobals ≠ L + 2 ∧ builtinsNs ≠ L + 2)
    (hn : s.heap.Ns L m) (hmt : m "table" = some (.ref td)) (hmn : m "node" = some (.int k t)) (hc1 : s.heap.IsCell (L + 1) (some (.ref fa))) (hc2 : s.heap.IsCell (L + 2) none)
    (hT : s.heap.MapOf (intKind prog w) td tb) (htd : (td == sysModules) = false) (htdL : td ≠ L ∧ td ≠ L + 2)
    (hfa : s.heap.IsList fa (fams.map Value.ref).toArray) (hfaL : fa ≠ L ∧ fa ≠ L + 2) (hnd : fams.Nodup) (hlive : ∀ b ∈ fams, (∃ o, s.heap.get? b = some o ∧ o.cls ≠ .type "tuple") ∧ b ≠ L ∧ b ≠ L + 2) (hlen : fams.length ≤ 1000)
    (hk : k ≤ 500) (hpar : ∀ j, 1 ≤ j → j ≤ k → par j < j) (htb0 : tb 0 = none) (htb : ∀ j : Nat, 1 ≤ j → j ≤ k → ∃ a, fams[par j]? = some a ∧ tb j = some (.ref a))
    (kret : ∀ s' r, IntL s'.heap r (upI par k) → s.heap.get? r = none → Chg (fun b => b = L ∨ b = L + 2) s s' → Q (.ret (.ref r)) s') :
    wpAny (model prog w) A (execs wuBody (envOfC nm wuScope L f cd)) Q E s := by
  have hfresh := get_size s.heap
  obtain ⟨oL, hoL⟩ := ns_live hn
  obtain ⟨o1, ho1, hd1⟩ := hc1
  obtain ⟨o2, ho2, hd2⟩ := hc2
  have h12 : L + 1 ≠ L := Nat.succ_ne_self L
  have h22 : L + 2 ≠ L := Nat.ne_of_gt (Nat.lt_succ_of_lt (Nat.lt_succ_self L))
  have h21 : L + 1 ≠ L + 2 := Nat.ne_of_lt (Nat.lt_succ_self (L + 1))
  have hrL : s.heap.objs.size ≠ L := Ne.symm (ne_of_get hoL hfresh)
  have hr2 : s.heap.objs.size ≠ L + 2 := Ne.symm (ne_of_get ho2 hfresh)
  have hr1 : s.heap.objs.size ≠ L + 1 := Ne.symm (ne_of_get ho1 hfresh)
  refine wpAny_execs_cons (st := nth wuBody 0) (wpAny_Assign_Name (wpAny_List (wpAny_items_cons (ldN (env := envOfC nm wuScope L f cd) hn hmn (wpAny_items_nil ⟨by simp [sizeLine], stN' (env := envOfC nm wuScope L f cd) (hn.push _) fun h₁ hn₁ hs₁ => ?_⟩)))))
  have old : ∀ b o, b ≠ L → s.heap.get? b = some o → h₁.get? b = some o := fun b o hb e => hs₁.extBut b o hb (Heap.get?_push_of_some _ e)
  refine wpAny_execs_cons (wpAny_While ?_)
  refine codeAny_whileLoop (fun n s' => ∃ (j : Nat) (pre : List Nat) (m' : Str → Option Value) (v2 : Option Value), n = j ∧ j ≤ k ∧ pre ++ upP par j = upP par k ∧ Chg (fun b => b = L ∨ b = L + 2) s s' ∧ s'.heap.Ns L m' ∧ m' "table" = some (.ref td) ∧ m' "way" = some (.ref s.heap.objs.size) ∧
    s'.heap.IsCell (L + 2) v2 ∧ IntL s'.heap s.heap.objs.size ((pre ++ [j]).map fun n : Nat => (n : Int))) ?_ k ⟨k, [], _, none, rfl, Nat.le_refl _, rfl, ?_, hn₁, ?_, by rw [if_pos rfl], ?_, ?_⟩
  rotate_left
  · exact ⟨h₁, _, rfl, fun b o hb e => old b o (fun h => hb (.inl h)) e⟩
  · rw [if_neg (by decide), hmt]
  · exact ⟨o2, old _ _ h22 ho2, hd2⟩
  · exact ⟨[.int k t], ⟨_, hs₁.extBut _ _ hrL (Heap.get?_push_size _ rfl)⟩, .cons _ _ .nil⟩
  rintro n s₁ ⟨j, pre, m₁, v2, hnj, hjk, hpre, C, hn₁, hmt₁, hmw, hc2₁, ⟨vs, hvs, hvi⟩⟩
  subst hnj
  have hprelen : pre.length ≤ 501 := by
    have h1 := congrArg List.length hpre
    have h2 := upP_len par k
    rw [List.length_append] at h1; omega
  rw [List.map_append] at hvi
  obtain ⟨va, vb, rfl, hva, hvb⟩ : ∃ va vb, vs = va ++ vb ∧ IntsAre va (pre.map fun n : Nat => (n : Int)) ∧ IntsAre vb ([n].map fun n : Nat => (n : Int)) := by
    refine ⟨vs.take pre.length, vs.drop pre.length, (List.take_append_drop _ _).symm, ?_, ?_⟩
    · have := hvi.take pre.length; rwa [List.take_left' (by simp)] at this
    · have := hvi.drop pre.length; rwa [List.drop_left' (by simp)] at this
  obtain ⟨tj, vb', rfl, hvb'⟩ := hvb.cons_inv
  cases hvb'.nil_inv
  have hvalen := hva.length
  rw [List.length_map] at hvalen
  have hT₁ : s₁.heap.MapOf (intKind prog w) td tb := by
    obtain ⟨o, es, ep, ho, r⟩ := hT
    exact ⟨o, es, ep, C.get (fun h => h.elim htdL.1 htdL.2) ho, r⟩
  refine wpAny_isTrue_Compare1 (last_item (env := envOfC nm wuScope L f cd) hn₁ hmw hvs.isList (by omega) fun tk => ?_)
  refine ldN (env := envOfC nm wuScope L f cd) (s := { s₁ with toks := tk }) hn₁ hmt₁ (wpAny_in_of (knd := intKind prog w) (k := (n : Int)) (s := { s₁ with toks := tk }) (by simp [intKind, Value.isInt]) htd hT₁ (wpAny_truthy_bool ?_))
  cases n with
  | zero =>
    rw [show ((0 : Nat) : Int) = 0 from rfl, htb0]
    simp only [Option.isSome_none, Bool.false_eq_true, if_false]
    refine wpAny_execs_nil (wpAny_execs_cons (wpAny_Return_some (ldN (env := envOfC nm wuScope L f cd) (s := { s₁ with toks := _ }) hn₁ hmw ?_)))
    refine kret _ _ ?_ hfresh (C.toks _)
    rw [upP_zero] at hpre
    refine ⟨_, hvs, ?_⟩
    rw [upI, ← hpre, List.map_append]
    exact hva.append hvb
  | succ j =>
    obtain ⟨a, ha, htba⟩ := htb (j + 1) (by omega) hjk
    rw [htba]
    simp only [Option.isSome_some, if_true]
    have hp := hpar (j + 1) (by omega) hjk
    refine wpAny_execs_cons (wpAny_Assign_Name (Subscript_ (ldN (env := envOfC nm wuScope L f cd) (s := { s₁ with toks := _ }) hn₁ hmt₁ (last_item (env := envOfC nm wuScope L f cd) (s := { s₁ with toks := _ }) hn₁ hmw hvs.isList (by omega) fun tk => ?_))))
    refine tail_any (T := "dict") (Heap.MapOf.typeIs (s := { s₁ with toks := _ }) hT₁) slot_dict_getitem.lookup (wpAny_getItem_of (knd := intKind prog w) (k := ((j + 1 : Nat) : Int)) (s := { s₁ with toks := _ }) (by simp [intKind, Value.isInt]) hT₁ htba ?_) (by with_unfolding_all rfl)
    refine stCell (env := envOfC nm wuScope L f cd) (s := { s₁ with toks := _ }) hc2₁ fun h₂ hc2₂ hs₂ => ?_
    have K2 : ∀ b o, b ≠ L + 2 → s₁.heap.get? b = some o → h₂.get? b = some o := fun b o hb e => hs₂.extBut b o hb e
    have C2 : ∀ tk, Chg (fun b => b = L ∨ b = L + 2) s { s₁ with heap := h₂, toks := tk } := fun tk => C.step fun b o hb e => K2 b o (fun h => hb (.inr h)) e
    have hn₂ : h₂.Ns L m₁ := hn₁.at' fun o e => K2 _ o (Ne.symm h22) e
    refine wpAny_execs_cons (wpAny_Expr ?_)
    refine wpAny_Call_append (by rfl) (by rfl) (by rfl) (by rfl) (ldN (env := envOfC nm wuScope L f cd) (s := { s₁ with heap := h₂, toks := _ }) hn₂ hmw ⟨_, _, rfl, plainL_of (hvs.at fun o e => K2 _ o hr2 e), ?_⟩)
    refine wu_find (p0 := ⟨0, 0, 0, 0⟩) (s := { s₁ with heap := h₂, toks := _ }) (fams := fams) (i := par (j + 1)) (a := a) (fa := fa) hh (G.at fun b o hb e => (C2 0).get (fun h => ?_) e) hgr hbr hgl hbl ⟨o1, (C2 0).get (fun h => h.elim h12 h21) ho1, hd1⟩ hc2₂ (hfa.at fun o e => (C2 0).get (fun h => h.elim hfaL.1 hfaL.2) e) hnd (fun b hb => ?_) hlen ha fun ti s₃ K3 => ?_
    · rcases hb with rfl | rfl
      · exact h.elim hGL.1 hGL.2.2.1
      · exact h.elim hGL.2.1 hGL.2.2.2
    · obtain ⟨⟨o, ho, hc⟩, hbL⟩ := hlive b hb
      exact ⟨o, (C2 0).get (fun h => h.elim hbL.1 hbL.2) ho, hc⟩
    have hvs₃ : s₃.heap.PlainList s.heap.objs.size (va ++ [Value.int ((j + 1 : Nat) : Int) tj]).toArray := hvs.at fun o e => Keeps.get' K3 (K2 _ o hr2 e)
    refine wpAny_list_append_plain (hsz := by simp [sizeLine]; omega) hvs₃ fun h₄ hl₄ hs₄ => ?_
    have K4 : ∀ b o, b ≠ s.heap.objs.size → s₃.heap.get? b = some o → h₄.get? b = some o := fun b o hb e => hs₄.extBut b o hb e
    refine wpAny_execs_nil ⟨par (j + 1), hp, par (j + 1), pre ++ [j + 1], m₁, some (.ref a), rfl, by omega, ?_, ?_, ?_, hmt₁, hmw, ?_, ?_⟩
    · rw [List.append_assoc]
      rw [upP_pos (by omega) hp] at hpre
      exact hpre
    · have C3 : Chg (fun b => b = L ∨ b = L + 2) s s₃ := (C2 _).trans (Chg.of_keeps _ K3)
      obtain ⟨h', tk, rfl, k'⟩ := C3
      exact ⟨h₄, tk, rfl, fun b o hb e => K4 b o (ne_of_get e hfresh) (k' b o hb e)⟩
    · exact hn₂.at' fun o e => K4 _ o (Ne.symm hrL) (Keeps.get' K3 e)
    · obtain ⟨o, ho, hd⟩ := hc2₂
      exact ⟨o, K4 _ o (Ne.symm hr2) (Keeps.get' K3 ho), hd⟩
    · refine ⟨va ++ [Value.int ((j + 1 : Nat) : Int) tj] ++ [.int (par (j + 1)) ti], by simpa using hl₄, ?_⟩
      rw [List.map_append, List.map_append]
      exact (hva.append hvb).append (.cons _ _ .nil)
end
end Mine

end

/- Pure7 -/
section
namespace Mine
section
variable {par : Nat → Nat}

theorem up_le (k : Nat) : ∀ x ∈ upP par k, x ≤ k := by
  induction k using Nat.strongRecOn with
  | ind k ih =>
    intro x hx
    rw [upP] at hx
    split at hx
    · rename_i h
      rcases List.mem_cons.mp hx with rfl | hx
      · exact Nat.le_refl _
      · have := ih _ h.2 x hx; omega
    · rw [List.mem_singleton.mp hx]; exact Nat.le_refl _
theorem up_self (k : Nat) : k ∈ upP par k := by
  rw [upP]
  split <;> simp
theorem up_zero (hp : ∀ j, 1 ≤ j → par j < j) (k : Nat) : 0 ∈ upP par k := by
  induction k using Nat.strongRecOn with
  | ind k ih =>
    by_cases h : k = 0
    · rw [h, upP_zero]; simp
    · rw [upP_pos (by omega) (hp k (by omega))]
      exact List.mem_cons_of_mem _ (ih _ (hp k (by omega)))
theorem up_trans {x y : Nat} (z : Nat) (h1 : x ∈ upP par y) : y ∈ upP par z → x ∈ upP par z := by
  induction z using Nat.strongRecOn with
  | ind z ih =>
    intro h2
    rw [upP] at h2 ⊢
    split at h2
    · rename_i h
      rw [dif_pos h]
      rcases List.mem_cons.mp h2 with rfl | h2
      · rw [upP, dif_pos h] at h1; exact h1
      · exact List.mem_cons_of_mem _ (ih _ h.2 h2)
    · rename_i h
      rw [dif_neg h]
      rw [List.mem_singleton.mp h2, upP, dif_neg h] at h1
      exact h1
theorem up_pw (k : Nat) : (upP par k).Pairwise fun a b => b ∈ upP par a ∧ b ≠ a := by
  induction k using Nat.strongRecOn with
  | ind k ih =>
    rw [upP]
    split
    · rename_i h
      refine List.pairwise_cons.mpr ⟨fun b hb => ⟨?_, ?_⟩, ih _ h.2⟩
      · rw [upP, dif_pos h]; exact List.mem_cons_of_mem _ hb
      · have := up_le _ b hb; omega
    · exact List.pairwise_singleton _ _
theorem up_lin {x y : Nat} (z : Nat) : x ∈ upP par z → y ∈ upP par z → x ∈ upP par y ∨ y ∈ upP par x := by
  induction z using Nat.strongRecOn with
  | ind z ih =>
    intro h1 h2
    rw [upP] at h1 h2
    split at h1
    · rename_i h
      rw [dif_pos h] at h2
      rcases List.mem_cons.mp h1 with rfl | h1
      · right
        rw [upP, dif_pos h]; exact h2
      · rcases List.mem_cons.mp h2 with rfl | h2
        · left
          rw [upP, dif_pos h]; exact List.mem_cons_of_mem _ h1
        · exact ih _ h.2 h1 h2
    · rename_i h
      rw [dif_neg h] at h2
      rw [List.mem_singleton.mp h1, List.mem_singleton.mp h2]
      exact .inl (up_self _)
theorem up_dep {x : Nat} (y : Nat) : x ∈ upP par y → x ≠ y → (upP par x).length < (upP par y).length := by
  induction y using Nat.strongRecOn with
  | ind y ih =>
    intro h1 h2
    rw [upP] at h1
    split at h1
    · rename_i h
      rw [upP_pos h.1 h.2, List.length_cons]
      rcases List.mem_cons.mp h1 with h' | h'
      · exact absurd h' h2
      · by_cases he : x = par y
        · subst he; omega
        · have := ih _ h.2 h' he; omega
    · exact absurd (List.mem_singleton.mp h1) h2

theorem mem_upI {x : Int} {k : Nat} : x ∈ upI par k ↔ ∃ a ∈ upP par k, x = (a : Int) := by
  simp only [upI, List.mem_map]
  exact ⟨fun ⟨a, h, e⟩ => ⟨a, h, e.symm⟩, fun ⟨a, h, e⟩ => ⟨a, h, e.symm⟩⟩

def PI (par : Nat → Nat) (k : Int) : List Int := upI par k.toNat
abbrev dI (par : Nat → Nat) (x : Int) : Int := ((upP par x.toNat).length : Int)

theorem tree_up (hp : ∀ j, 1 ≤ j → par j < j) : Tree (PI par) (dI par) where
  trans := fun {x y z} h1 h2 => by
    obtain ⟨a, ha, rfl⟩ := mem_upI.mp h1
    obtain ⟨b, hb, rfl⟩ := mem_upI.mp h2
    exact mem_upI.mpr ⟨a, up_trans _ (by simpa using ha) hb, rfl⟩
  anti := fun {x y} h1 h2 => by
    obtain ⟨a, ha, rfl⟩ := mem_upI.mp h1
    obtain ⟨b, hb, rfl⟩ := mem_upI.mp h2
    have h3 := up_le _ _ ha
    have h4 := up_le _ _ hb
    simp at h3 h4
    omega
  lin := fun {x y z} h1 h2 => by
    obtain ⟨a, ha, rfl⟩ := mem_upI.mp h1
    obtain ⟨b, hb, rfl⟩ := mem_upI.mp h2
    rcases up_lin _ ha hb with h | h
    · exact .inl (mem_upI.mpr ⟨a, by simpa using h, rfl⟩)
    · exact .inr (mem_upI.mpr ⟨b, by simpa using h, rfl⟩)
  pw := fun k => by
    show (List.map _ _).Pairwise _
    rw [List.pairwise_map]
    refine (up_pw (par := par) k.toNat).imp fun {a b} h => ⟨mem_upI.mpr ⟨b, by simpa using h.1, rfl⟩, by have := h.2; omega⟩
  zero := fun k => mem_upI.mpr ⟨0, up_zero hp _, rfl⟩
  self := fun {x k} h => by
    obtain ⟨a, ha, rfl⟩ := mem_upI.mp h
    exact mem_upI.mpr ⟨a, by simpa using up_self a, rfl⟩
  top := fun {x} h => by
    obtain ⟨a, ha, rfl⟩ := mem_upI.mp h
    have := up_le _ _ ha
    simp at this
    omega
  dep := fun {x y} h hy hne => by
    obtain ⟨a, ha, rfl⟩ := mem_upI.mp h
    obtain ⟨b, hb, rfl⟩ := mem_upI.mp hy
    have h1 : a ≠ ((b : Int)).toNat := fun e => hne (by simp at e; omega)
    have := up_dep _ ha h1
    simpa using this
end
end Mine

end

/- CompX -/
section
open PySem PySem.W PyProof.Rows
set_option Elab.async false
namespace Mine
set_option maxRecDepth 10000
section
variable {prog : Program} {w : World} {A : Around} {E : Value → Shared → Prop} {env : Env} {α : Type}

/-- a comprehension's block with cells of its own behind it -/
abbrev compEnvX (scope : Scope) (cl : List (Str × Addr)) (C : Addr) (env : Env) : Env := compEnvC scope (cellsFrom (C + 1) scope.names cl) C env

/-- the names at C and one cell behind them -/
def CellAt (C : Addr) (h : Heap) : Prop := (∃ m, h.Ns C m) ∧ ∃ v, h.IsCell (C + 1) v

/-- the block with one cell -/
theorem blk_cell {scope : Scope} {cl : List (Str × Addr)} (hone : ∀ h, pushCells h scope.names = h.push { cls := .type "cell", data := .cell none }) :
    Blk prog w A scope cl env (fun C => compEnvX scope cl C env) (fun C b => b = C ∨ b = C + 1) CellAt where
  live := fun ⟨⟨_, n⟩, _, o, e, _⟩ b q => by
    rcases q with rfl | rfl
    · exact ns_live n
    · exact ⟨o, e⟩
  keep := fun ⟨⟨m, n⟩, v, o, e, d⟩ k => ⟨⟨m, n.at' fun o e => k _ o (.inl rfl) e⟩, v, o, k _ o (.inr rfl) e, d⟩
  ns := And.left
  own := fun _ => .inl rfl
  above := fun q => q.elim (fun q => Nat.le_of_eq q.symm) fun q => q ▸ Nat.le_succ _
  make := fun s E Q hQ => by
    unfold newFunctionEnv
    refine wpAny_bind (wpAny_alloc (wpAny_bind (wpAny_layCells _ (fun _ _ _ => rfl) _ _ _ _ (wpAny_bind (wpAny_of_eq rfl ?_)))))
    rw [hone]
    have sz : ∀ o : Obj, (s.heap.push o).objs.size = s.heap.objs.size + 1 := fun o => Heap.size_push ..
    refine wpAny_pure (hQ _ _ s.toks rfl ?_ (fun b o e => push2_keep e) ⟨⟨_, (Heap.Ns.new s.heap _).push _⟩, none, { cls := .type "cell", data := .cell none }, ?_, rfl⟩)
    · exact congrArg (fun n => compEnvC scope (cellsFrom n scope.names cl) s.heap.objs.size env) (sz _)
    · rw [← sz]; exact Heap.get?_push_size _ rfl

/-- what a turn must do, where the target is a cell at c -/
abbrev LcTurnX (prog : Program) (w : World) (A : Around) (target elt : Expr) (ifs : List Expr) (cenv : Env) (c : Addr) (p : α → Bool) (F : α → Value → Option Obj → Prop) (a : α) (v : Value) (s₃ : Shared) : Prop :=
  BTurn prog w A target elt ifs cenv (fun b => b = cenv.locals ∨ b = c) (fun h => (∃ m, h.Ns cenv.locals m) ∧ ∃ v, h.IsCell c v) p F a v s₃

theorem lcx_eval {s : Shared} {elt target iter : Expr} {ifs : List Expr} {scope : Scope} {cl : List (Str × Addr)} {pos : Pos} {Q : Value → Shared → Prop} {src : List α} {Pv : α → Value → Prop} (p : α → Bool) (F : α → Value → Option Obj → Prop)
    (hclos : closureFor scope env = pure cl) (hone : ∀ h, pushCells h scope.names = h.push { cls := .type "cell", data := .cell none }) (hkind : scope.kind = .function)
    (hnames : ∀ y ∈ scope.names, y.2 = .local → scope.names.lookup y.1 = some .local) (hlen : src.length ≤ 1000)
    (h : wpAny (model prog w) A (eval iter env) (fun xv s₁ => wpAny (model prog w) A (pyIter xv) (fun it s₂ => ∃ I, it = .ref I ∧ LcSrc prog w A target s₂.heap I src Pv ∧
      (∀ C a v s₃ m₃ u, a ∈ src → Pv a v → s₂.heap.get? C = none → s₂.heap.get? (C + 1) = none → s₃.heap.Ns C m₃ → s₃.heap.IsCell (C + 1) u → Chg (· = I) s₂ s₃ → LcTurnX prog w A target elt ifs (compEnvX scope cl C env) (C + 1) p F a v s₃) ∧
      (∀ D s' ys, s₂.heap.get? D = none → s'.heap.PlainList D ys.toArray → Paired (Elt F s₂.heap s'.heap) (src.filter p) ys → Chg (· = I) s₂ s' → Q (.ref D) s')) E s₁) E s)
    (hs : ∀ x, foldedSetIterable iter env x = pure x := by intro _; rfl) :
    wpAny (model prog w) A (eval (.ListComp elt [⟨target, iter, ifs, 0⟩] scope pos) env) Q E s :=
  lcB_eval (Pv := Pv) (blk_cell hone) p F hclos hkind hnames hlen hs (wpAny_mono h (fun _ _ h₁ => wpAny_mono h₁ (fun _ _ ⟨I, e, a, t, q⟩ => ⟨I, e, a, fun C a v s₃ ha hv hO ⟨⟨m, n⟩, u, hu⟩ hc => t C a v s₃ m u ha hv (hO _ (.inl rfl)) (hO _ (.inr rfl)) n hu hc, q⟩) fun _ _ e => e) fun _ _ e => e)

theorem lcx_assign {s : Shared} {elt target iter : Expr} {ifs : List Expr} {scope : Scope} {cl : List (Str × Addr)} {pos spos py : Pos} {y : Str} {Q : Flow → Shared → Prop} {src : List α} {Pv : α → Value → Prop} (p : α → Bool) (F : α → Value → Option Obj → Prop)
    (hsw : swapsWith (.ListComp elt [⟨target, iter, ifs, 0⟩] scope pos) (some (.Name y py)) spos.line env = pure true)
    (hclos : closureFor scope env = pure cl) (hone : ∀ h, pushCells h scope.names = h.push { cls := .type "cell", data := .cell none }) (hkind : scope.kind = .function)
    (hnames : ∀ y ∈ scope.names, y.2 = .local → scope.names.lookup y.1 = some .local) (hlen : src.length ≤ 1000)
    (hy : env.kindOf y = some .local) (hp : (env.scope.kind == .class || (env.scope.kind == .module && env.locals != env.globals)) = false)
    (h : wpAny (model prog w) A (eval iter env) (fun xv s₁ => wpAny (model prog w) A (pyIter xv) (fun it s₂ => ∃ I m, it = .ref I ∧ LcSrc prog w A target s₂.heap I src Pv ∧ env.locals ≠ I ∧ s₂.heap.Ns env.locals m ∧
      (∀ C a v s₃ m₃ u, a ∈ src → Pv a v → s₂.heap.get? C = none → s₂.heap.get? (C + 1) = none → s₃.heap.Ns C m₃ → s₃.heap.IsCell (C + 1) u → Chg (· = I) s₂ s₃ → LcTurnX prog w A target elt ifs (compEnvX scope cl C env) (C + 1) p F a v s₃) ∧
      (∀ D s' ys, s₂.heap.get? D = none → s'.heap.PlainList D ys.toArray → Paired (Elt F s₂.heap s'.heap) (src.filter p) ys → s'.heap.Ns env.locals (fun z => if z = y then some (.ref D) else m z) →
        Chg (fun b => b = I ∨ b = env.locals) s₂ s' → Q .next s')) E s₁) E s)
    (hs : ∀ x, foldedSetIterable iter env x = pure x := by intro _; rfl) :
    wpAny (model prog w) A (exec (.Assign [.Name y py] (.ListComp elt [⟨target, iter, ifs, 0⟩] scope pos) spos) env) Q E s :=
  lcB_assign (Pv := Pv) (blk_cell hone) p F hsw hclos hkind hnames hlen hs hy hp (wpAny_mono h (fun _ _ h₁ => wpAny_mono h₁ (fun _ _ ⟨I, m, e, a, b, c, t, q⟩ => ⟨I, m, e, a, b, c, fun C a v s₃ ha hv hO ⟨⟨m, n⟩, u, hu⟩ hc => t C a v s₃ m u ha hv (hO _ (.inl rfl)) (hO _ (.inr rfl)) n hu hc, fun D s' ys d l g n k _ => q D s' ys d l g n k⟩) fun _ _ e => e) fun _ _ e => e)
end
end Mine

end

/- Sort1 -/
section
open PySem PySem.W PyProof.Rows
set_option Elab.async false
namespace Mine
set_option maxRecDepth 10000

section
variable {n : Nat} {c : Nat → Int} {cmp : Nat → Nat → (Bool → Shared → Prop) → Shared → Prop} {s : Shared}

/-- a permutation of 0 .. n - 1 -/
def IsP (n : Nat) (p : Array Nat) : Prop := p.Perm (List.toArray (List.range n))
theorem IsP.size {p : Array Nat} (h : IsP n p) : p.size = n := by have := Array.Perm.size_eq h; simpa using this
theorem IsP.getD_lt {p : Array Nat} (h : IsP n p) {i : Nat} (hi : i < n) : p.getD i 0 < n := by
  have hs : i < p.size := by rw [h.size]; exact hi
  have hm : p[i] ∈ (List.toArray (List.range n)) := (Array.Perm.mem_iff h).mp (Array.getElem_mem hs)
  have e : p.getD i 0 = p[i] := by simp [Array.getD, hs]
  rw [e]
  simpa using hm
theorem IsP.inj {p : Array Nat} (h : IsP n p) {i j : Nat} (hi : i < n) (hj : j < n) (e : p.getD i 0 = p.getD j 0) : i = j := by
  have hi' : i < p.size := by rw [h.size]; exact hi
  have hj' : j < p.size := by rw [h.size]; exact hj
  have hnd : p.toList.Nodup := by
    have : p.toList.Perm (List.range n) := by simpa using Array.perm_iff_toList_perm.mp h
    exact this.nodup_iff.mpr List.nodup_range
  have e1 : p.toList[i]? = p.toList[j]? := by
    have a : p.getD i 0 = p[i] := by simp [Array.getD, hi']
    have b : p.getD j 0 = p[j] := by simp [Array.getD, hj']
    rw [a, b] at e
    simp only [Array.getElem?_toList]
    rw [Array.getElem?_eq_getElem hi', Array.getElem?_eq_getElem hj', e]
  exact (List.getElem?_inj (by simpa using hi') hnd).mp e1

def KP (c : Nat → Int) (p : Array Nat) (i : Nat) : Int := c (p.getD i 0)
def Up (c : Nat → Int) (p : Array Nat) (k : Nat) : Prop := ∀ i j, i < j → j < k → KP c p i < KP c p j
def Dn (c : Nat → Int) (p : Array Nat) (k : Nat) : Prop := ∀ i j, i < j → j < k → KP c p j < KP c p i

theorem KP_ne {p : Array Nat} (hc : ∀ i j, i < n → j < n → c i = c j → i = j) (hp : IsP n p) {i j : Nat} (hi : i < n) (hj : j < n) (h : i ≠ j) : KP c p i ≠ KP c p j :=
  fun e => h (hp.inj hi hj (hc _ _ (hp.getD_lt hi) (hp.getD_lt hj) e))

theorem Up.step {p : Array Nat} {a : Nat} (h : Up c p a) (h1 : 1 ≤ a) (hs : KP c p (a - 1) < KP c p a) : Up c p (a + 1) := by
  intro i j hij hj
  by_cases hja : j < a
  · exact h i j hij hja
  · have : j = a := by omega
    subst this
    by_cases hi : i = j - 1
    · subst hi; exact hs
    · exact Int.lt_trans (h i (j - 1) (by omega) (by omega)) hs
theorem Dn.step {p : Array Nat} {a : Nat} (h : Dn c p a) (h1 : 1 ≤ a) (hs : KP c p a < KP c p (a - 1)) : Dn c p (a + 1) := by
  intro i j hij hj
  by_cases hja : j < a
  · exact h i j hij hja
  · have : j = a := by omega
    subst this
    by_cases hi : i = j - 1
    · subst hi; exact hs
    · exact Int.lt_trans hs (h i (j - 1) (by omega) (by omega))

variable (H : ∀ i j C, i < n → j < n → C (decide (c i < c j)) s → cmp i j C s) (hc : ∀ i j, i < n → j < n → c i = c j → i = j)
include H hc

theorem asc_wp {p : Array Nat} {G : Nat → Shared → Prop} (hp : IsP n p) : ∀ (f a : Nat), 1 ≤ a → a + f ≤ n → Up c p a → (∀ m, a ≤ m → m ≤ a + f → Up c p m → (m = a + f ∨ KP c p m < KP c p (m - 1)) → G m s) → (kas_asc p f a).kasWp cmp G s
  | 0, a, _, _, hu, hG => hG a (Nat.le_refl _) (by omega) hu (.inl rfl)
  | f + 1, a, h1, ha, hu, hG => by
    refine H _ _ _ (hp.getD_lt (by omega)) (hp.getD_lt (by omega)) ?_
    by_cases h : c (p.getD a 0) < c (p.getD (a - 1) 0)
    · simp only [h, decide_true, if_true]
      exact hG a (Nat.le_refl _) (by omega) hu (.inr h)
    · simp only [h, decide_false, Bool.false_eq_true, if_false]
      have hne := KP_ne hc hp (i := a) (j := a - 1) (by omega) (by omega) (by omega)
      have hlt : KP c p (a - 1) < KP c p a := by unfold KP at hne ⊢; omega
      exact asc_wp hp f (a + 1) (by omega) (by omega) (hu.step h1 hlt) fun m h1 h2 h3 h4 => hG m (by omega) (by omega) h3 (h4.imp (by omega) id)

theorem desc_wp {p : Array Nat} {G : Array Nat × Nat × Nat → Shared → Prop} (hp : IsP n p) : ∀ (f a : Nat), 1 ≤ a → a + f ≤ n → Dn c p a → (∀ m, a ≤ m → m ≤ a + f → Dn c p m → G (p, m, 0) s) → (kas_desc f p a 0).kasWp cmp G s
  | 0, a, _, _, hu, hG => hG a (Nat.le_refl _) (by omega) hu
  | f + 1, a, h1, ha, hu, hG => by
    refine H _ _ _ (hp.getD_lt (by omega)) (hp.getD_lt (by omega)) ?_
    by_cases h : c (p.getD a 0) < c (p.getD (a - 1) 0)
    · simp only [h, decide_true, if_true, gt_iff_lt, Nat.lt_irrefl, if_false]
      exact desc_wp hp f (a + 1) (by omega) (by omega) (hu.step h1 h) fun m h1 h2 h3 => hG m (by omega) (by omega) h3
    · simp only [h, decide_false, Bool.false_eq_true, if_false]
      refine H _ _ _ (hp.getD_lt (by omega)) (hp.getD_lt (by omega)) ?_
      have hne := KP_ne hc hp (i := a) (j := a - 1) (by omega) (by omega) (by omega)
      have hlt : c (p.getD (a - 1) 0) < c (p.getD a 0) := by unfold KP at hne; omega
      simp only [hlt, decide_true, if_true]
      exact hG a (Nat.le_refl _) (by omega) hu

omit H hc in
theorem rev_isP {p : Array Nat} (hp : IsP n p) (i j : Nat) : IsP n (kas_rev p i j) := (mirror_perm p i j _).trans hp
omit H hc in
theorem rev_up {p : Array Nat} {m : Nat} (hp : IsP n p) (hm : m ≤ n) (h : Dn c p m) : Up c (kas_rev p 0 m) m := by
  have get : ∀ k, k < m → (kas_rev p 0 m).getD k 0 = p.getD (m - 1 - k) 0 := fun k hk => by
    have := getElem?_mirror_all (xs := p) (i := 0) (j := m) (by rw [hp.size]; exact hm) k
    rw [if_pos ⟨Nat.zero_le _, hk⟩] at this
    unfold kas_rev
    rw [Array.getD_eq_getD_getElem?, Array.getD_eq_getD_getElem?, this]
    congr 2; omega
  intro i j hij hj
  unfold KP
  rw [get i (by omega), get j hj]
  exact h (m - 1 - j) (m - 1 - i) (by omega) (by omega)

theorem count_wp {p : Array Nat} {G : Nat × Array Nat → Shared → Prop} (hp : IsP n p) (hn : 1 ≤ n) (hG : ∀ m p', 1 ≤ m → m ≤ n → IsP n p' → Up c p' m → G (m, p') s) : (kas_count n p).kasWp cmp G s := by
  unfold kas_count
  rw [KasT.kasWp_bind]
  have up1 : ∀ p : Array Nat, Up c p 1 := fun p i j h1 h2 => by omega
  refine asc_wp H hc hp (n - 1) 1 (Nat.le_refl _) (by omega) (up1 p) fun m h1 h2 hu hstop => ?_
  by_cases hm : m = n
  · subst hm
    simp only [beq_self_eq_true, if_true]
    exact hG m p hn (Nat.le_refl _) hp hu
  · have hb : (m == n) = false := by simpa using hm
    simp only [hb, Bool.false_eq_true, if_false]
    by_cases hm1 : m > 1
    · simp only [hm1, if_true]
      refine H _ _ _ (hp.getD_lt (by omega)) (hp.getD_lt (by omega)) ?_
      have := hu 0 (m - 1) (by omega) (by omega)
      unfold KP at this
      simp only [this, decide_true, if_true]
      exact hG m p h1 (by omega) hp hu
    · simp only [hm1, if_false]
      have hm' : m = 1 := by omega
      subst hm'
      unfold kas_descPart
      rw [KasT.kasWp_bind]
      have h10 : KP c p 1 < KP c p 0 := hstop.elim (by omega) id
      have dn2 : Dn c p 2 := fun i j hij hj => by
        have : i = 0 := by omega
        have : j = 1 := by omega
        subst i j; exact h10
      refine desc_wp H hc hp (n - (1 + 1)) 2 (by omega) (by omega) dn2 fun m' h1' h2' hd => ?_
      simp only [gt_iff_lt, Nat.lt_irrefl, if_false]
      unfold kas_tail3
      rw [KasT.kasWp_bind]
      have hq := rev_isP hp 0 m'
      refine asc_wp H hc hq (n - m') m' (by omega) (by omega) (rev_up hp (by omega) hd) fun m2 h3 h4 hu2 _ => ?_
      exact hG m2 _ (by omega) (by omega) hq hu2

theorem place_wp {p : Array Nat} {k : Nat} {G : Nat → Shared → Prop} (hp : IsP n p) (hk : k < n) (hu : Up c p k) : ∀ (f l r : Nat), l ≤ r → r ≤ k → r ≤ l + f → (∀ i, i < l → KP c p i < KP c p k) → (∀ i, r ≤ i → i < k → KP c p k < KP c p i) →
    (∀ l, l ≤ k → (∀ i, i < l → KP c p i < KP c p k) → (∀ i, l ≤ i → i < k → KP c p k < KP c p i) → G l s) → (kas_place p k f l r).kasWp cmp G s
  | 0, l, r, hlr, hrk, hf, ha, hb, hG => hG l (by omega) ha fun i h1 h2 => hb i (by omega) h2
  | f + 1, l, r, hlr, hrk, hf, ha, hb, hG => by
    unfold kas_place
    by_cases h : l ≥ r
    · rw [if_pos h]
      exact hG l (by omega) ha fun i h1 h2 => hb i (by omega) h2
    · rw [if_neg h]
      refine H _ _ _ (hp.getD_lt (by omega)) (hp.getD_lt (by omega)) ?_
      by_cases hcm : c (p.getD k 0) < c (p.getD ((l + r) / 2) 0)
      · simp only [hcm, decide_true, if_true]
        refine place_wp hp hk hu f l ((l + r) / 2) (by omega) (by omega) (by omega) ha (fun i h1 h2 => ?_) hG
        by_cases hi : i = (l + r) / 2
        · subst hi; exact hcm
        · exact Int.lt_trans hcm (hu _ i (by omega) h2)
      · simp only [hcm, decide_false, Bool.false_eq_true, if_false]
        refine place_wp hp hk hu f ((l + r) / 2 + 1) r (by omega) hrk (by omega) (fun i h1 => ?_) hb hG
        have hne := KP_ne hc hp (i := k) (j := (l + r) / 2) hk (by omega) (by omega)
        have hlt : KP c p ((l + r) / 2) < KP c p k := by unfold KP at hne ⊢; omega
        by_cases hi : i = (l + r) / 2
        · subst hi; exact hlt
        · exact Int.lt_trans (hu i _ (by omega) (by omega)) hlt

omit H hc in
theorem bubble_up {p : Array Nat} {k l : Nat} (hp : IsP n p) (hk : k < n) (hu : Up c p k) (hl : l ≤ k) (ha : ∀ i, i < l → KP c p i < KP c p k) (hb : ∀ i, l ≤ i → i < k → KP c p k < KP c p i) : Up c (bubble p k (k - l)) (k + 1) := by
  have get : ∀ i, KP c (bubble p k (k - l)) i = if i = l then KP c p k else if l < i ∧ i ≤ k then KP c p (i - 1) else KP c p i := fun i => by
    have := getElem?_bubble (xs := p) (src := k) (by rw [hp.size]; exact hk) (k - l) (by omega) i
    rw [show k - (k - l) = l by omega] at this
    unfold KP
    rw [Array.getD_eq_getD_getElem?, this]
    by_cases h1 : i = l
    · rw [if_pos h1, if_pos h1, Array.getD_eq_getD_getElem?]
    · rw [if_neg h1, if_neg h1]
      by_cases h2 : l < i ∧ i ≤ k
      · rw [if_pos h2, if_pos h2, Array.getD_eq_getD_getElem?]
      · rw [if_neg h2, if_neg h2, Array.getD_eq_getD_getElem?]
  intro i j hij hj
  rw [get i, get j]
  by_cases h1 : i = l
  · rw [if_pos h1, if_neg (by omega), if_pos (by omega)]
    exact hb (j - 1) (by omega) (by omega)
  · rw [if_neg h1]
    by_cases h2 : l < i ∧ i ≤ k
    · rw [if_pos h2, if_neg (by omega), if_pos (by omega)]
      exact hu (i - 1) (j - 1) (by omega) (by omega)
    · rw [if_neg h2]
      by_cases h3 : j = l
      · rw [if_pos h3]
        exact ha i (by omega)
      · rw [if_neg h3]
        by_cases h4 : l < j ∧ j ≤ k
        · rw [if_pos h4]
          by_cases h5 : i = j - 1
          · omega
          · exact hu i (j - 1) (by omega) (by omega)
        · rw [if_neg h4]
          exact hu i j hij (by omega)

theorem bin_wp {G : Array Nat → Shared → Prop} : ∀ (f : Nat) (p : Array Nat) (k : Nat), IsP n p → k + f = n → Up c p k → (∀ p', IsP n p' → Up c p' n → G p' s) → (kas_bin f p k).kasWp cmp G s
  | 0, p, k, hp, hk, hu, hG => hG p hp (by rw [← hk]; exact hu)
  | f + 1, p, k, hp, hk, hu, hG => by
    unfold kas_bin
    rw [KasT.kasWp_bind]
    refine place_wp H hc hp (by omega) hu k 0 k (Nat.zero_le _) (Nat.le_refl _) (by omega) (fun i hi => by omega) (fun i h1 h2 => by omega) fun l hl ha hb => ?_
    exact bin_wp f _ (k + 1) ((bubble_perm p k (k - l)).trans hp) (by omega) (bubble_up hp (by omega) hu hl ha hb) hG

/-- the sort's tree of questions, answered by distinct numbers -/
theorem sort_wp {G : Array Nat → Shared → Prop} (hn : 1 ≤ n) (hG : ∀ p, IsP n p → Up c p n → G p s) : (kas_sort n).kasWp cmp G s := by
  unfold kas_sort
  rw [KasT.kasWp_bind]
  refine count_wp H hc (Array.Perm.refl _) hn fun m p h1 h2 hp hu => ?_
  by_cases hm : m < n
  · simp only [hm, if_true]
    have e : max m 1 = m := by omega
    rw [e]
    exact bin_wp H hc (n - m) p m hp (by omega) hu hG
  · simp only [hm, if_false]
    have : m = n := by omega
    subst this
    exact hG p hp hu

end
end Mine

end

/- Sort2 -/
section
open PySem PySem.W PyProof.Rows
set_option Elab.async false
namespace Mine
set_option maxRecDepth 10000

/-- y is a tuple of two ints at h -/
def Tup2 (h : Heap) (y : Value) (k : Int × Int) : Prop := ∃ T o e t u, y = .ref T ∧ h.get? T = some o ∧ o.cls = .type "tuple" ∧ o.data = .seq #[.int k.1 t, .int k.2 u] e
theorem Tup2.keep {h h' : Heap} {y : Value} {k : Int × Int} (x : Tup2 h y k) (kp : ∀ T o, y = .ref T → h.get? T = some o → h'.get? T = some o) : Tup2 h' y k :=
  let ⟨T, o, e, t, u, a, b, c⟩ := x; ⟨T, o, e, t, u, a, kp T o a b, c⟩

section
variable {prog : Program} {w : World} {A : Around} {E : Value → Shared → Prop} {s : Shared} {a kS : Addr} {f : Value} {vs ks : List Value} {key : Nat → Int × Int} {code : Nat → Int} {P : PySem.Fin → Shared → Prop}

theorem tup2_lt {b : Bool} {x y : Value} {k l : Int × Int} {Q : Bool → Shared → Prop} (hx : Tup2 s.heap x k) (hy : Tup2 s.heap y l) (h : Q (decide (k.1 < l.1 ∨ (k.1 = l.1 ∧ k.2 < l.2))) s) : wpAny (model prog w) A (keyLt' (tuples' b) x y) Q E s := by
  obtain ⟨T, o, e, t, u, rfl, ho, hc, hd⟩ := hx
  obtain ⟨T', o', e', t', u', rfl, ho', hc', hd'⟩ := hy
  refine kat_lt ho hd ho' hd' ?_
  show KatLex prog w A b false Q [(.int k.1 t, .int l.1 t'), (.int k.2 u, .int l.2 u')] 0 s
  have one : ∀ (bb : Bool) (m n : Int) (t₁ t₂ : Tok), Q (decide (m < n)) s → wpAny (model prog w) A (oneLt' bb (.int m t₁) (.int n t₂)) Q (fun _ _ => False) s := by
    intro bb m n t₁ t₂ hq
    cases bb with
    | true => exact oneLt_int hq
    | false => exact kat_one _ _ (lt_int hq)
  refine kat_cons (wpAny_eqBool_int ?_)
  by_cases h1 : k.1 = l.1
  · rw [show (k.1 == l.1) = true by simpa using h1]
    refine kat_yes (kat_cons (wpAny_eqBool_int ?_))
    by_cases h2 : k.2 = l.2
    · rw [show (k.2 == l.2) = true by simpa using h2]
      refine kat_yes (kat_nil ?_)
      simpa [h1, h2] using h
    · rw [show (k.2 == l.2) = false by simpa using h2]
      refine kat_no (one _ _ _ _ _ ?_)
      simpa [h1] using h
  · rw [show (k.1 == l.1) = false by simpa using h1]
    refine kat_no (one _ _ _ _ _ ?_)
    simpa [h1] using h

/-- a list's items, exchanged -/
theorem put_list {c : Addr} {xs : Array Value} {e : Nat} {g : Array Value → Array Value} {Q : Unit → Shared → Prop} (hc : s.heap.get? c = some (seqObj "list" xs e)) (h1 : xs.size ≤ 1000) (h2 : (g xs).size ≤ 1000)
    (h : ∀ h' e', h'.get? c = some (seqObj "list" (g xs) e') → Heap.SameBut c s.heap h' → Q () { s with heap := h' }) : wpAny (model prog w) A (Builtin.List.listUpdate (.ref c) g) Q E s :=
  listUpdate_at hc rfl (h _ _ (get?_update_seq hc g) (Heap.SameBut.update ..)) (Nat.le_trans h1 (by rw [sizeLine_eq]; decide)) (Nat.le_trans h2 (by rw [sizeLine_eq]; decide))

theorem sort_tail {st : SortSt} {e e1 : Nat} {out : List Value} (hout : (arrOf st).map (·.2) = List.toArray out) (hz : out.length < 64) (hkz : ks.length < 64) (hf : failedOf st = none)
    (hk : s.heap.get? kS = some (seqObj "list" ks.toArray e)) (ha : s.heap.get? a = some (seqObj "list" #[] e1)) (hka : kS ≠ a)
    (h : ∀ h', (∀ b o, b ≠ kS → b ≠ a → s.heap.get? b = some o → h'.get? b = some o) → h'.PlainList a out.toArray → P (.done (.ret .none)) { s with heap := h' }) :
    wpAny (model prog w) A (ksk_tail a false e1 (.ref kS) st) P E s := by
  have empty : (#[] : Array Value).size ≤ 1000 := Nat.zero_le _
  have ko : out.toArray.size ≤ 1000 := by rw [List.size_toArray]; omega
  unfold ksk_tail
  rw [hout, hf]
  refine wpAny_bind (put_list hk (by rw [List.size_toArray]; omega) empty fun h₁ _ _ sb₁ => wpAny_bind (wpAny_letGo ?_))
  have a₁ : h₁.get? a = some (seqObj "list" #[] e1) := sb₁.extBut _ _ hka.symm ha
  refine wpAny_bind (seqEpoch_at (s := { s with heap := h₁ }) a₁ rfl (wpAny_bind (put_list (s := { s with heap := h₁ }) a₁ empty ko fun h₂ e₂ a₂ sb₂ => ?_)))
  rw [if_neg (by simp)]
  exact wpAny_pure (h h₂ (fun b o n₁ n₂ q => sb₂.extBut b o n₂ (sb₁.extBut b o n₁ q)) ⟨e₂, a₂⟩)

theorem katTups_of {h : Heap} : ∀ {ks : List Value} {key : Nat → Int × Int}, (∀ i y, ks[i]? = some y → Tup2 h y (key i)) → ∃ fs, KatTups h ks fs ∧ fs.length = ks.length ∧ ∀ v ∈ fs, ∃ n t, v = Value.int n t
  | [], _, _ => ⟨[], .nil, rfl, fun _ hv => nomatch hv⟩
  | y :: r, key, hx => by
    obtain ⟨fs, h1, h2, h3⟩ := katTups_of (ks := r) (key := fun i => key (i + 1)) fun i y hy => hx (i + 1) y (by simpa using hy)
    obtain ⟨T, o, e, t, u, rfl, ho, hc, hd⟩ := hx 0 y rfl
    refine ⟨.int (key 0).1 t :: fs, .cons ho hc hd (by simp) h1, by simp [h2], fun v hv => ?_⟩
    rcases List.mem_cons.mp hv with rfl | hv
    · exact ⟨_, _, rfl⟩
    · exact h3 v hv

theorem sort_end {e e1 : Nat} (hl : ks.length = vs.length) (h64 : vs.length < 64) (hkeys : ∀ i y, ks[i]? = some y → Tup2 s.heap y (key i))
    (hlex : ∀ i j, i < vs.length → j < vs.length → (((key i).1 < (key j).1 ∨ ((key i).1 = (key j).1 ∧ (key i).2 < (key j).2)) ↔ code i < code j)) (hinj : ∀ i j, i < vs.length → j < vs.length → code i = code j → i = j)
    (hk : s.heap.get? kS = some (seqObj "list" ks.toArray e)) (ha : s.heap.get? a = some (seqObj "list" #[] e1)) (hka : kS ≠ a)
    (h : ∀ h' p, IsP vs.length p → Up code p vs.length → (∀ b o, b ≠ kS → b ≠ a → s.heap.get? b = some o → h'.get? b = some o) → h'.PlainList a (p.toList.map fun i => vs.getD i Value.none).toArray → P (.done (.ret .none)) { s with heap := h' }) :
    wpAny (model prog w) A (ksk_end a false vs.toArray e1 (.ref kS) ks.toArray) P E s := by
  unfold ksk_end
  simp only [Bool.false_eq_true, if_false]
  by_cases h2 : vs.length < 2
  · have h2' : vs.toArray.size < 2 := by simpa using h2
    simp only [h2', if_true]
    refine wpAny_bind (wpAny_pure ?_)
    refine wpAny_bind (m := StateT.run (pure ()) _) (wpAny_pure ?_)
    refine sort_tail (out := vs) ?_ h64 (by omega) rfl hk ha hka fun h' k1 k2 => ?_
    · show (ks.toArray.zip vs.toArray).map (·.2) = vs.toArray
      apply Array.ext'
      simp [List.map_snd_zip, hl]
    · refine h h' (List.toArray (List.range vs.length)) (Array.Perm.refl _) (fun i j h1 h2 => by omega) k1 ?_
      have e : ((List.toArray (List.range vs.length)).toList.map fun i => vs.getD i Value.none) = vs := by
        apply List.ext_getElem?
        intro i
        by_cases hi : i < vs.length
        · simp [hi]
        · rw [List.getElem?_eq_none (by simp; omega), List.getElem?_eq_none (by omega)]
      rw [e]; exact k2
  · have h2' : ¬ vs.toArray.size < 2 := by simpa using h2
    simp only [h2', if_false]
    obtain ⟨fs, t1, t2, t3⟩ := katTups_of hkeys
    refine wpAny_bind (kat_kind t1 (by omega) (T := .type "int") (fun v hv => ?_) (by decide) ?_)
    · obtain ⟨n, t, rfl⟩ := t3 v hv
      exact Looks.of_pure rfl
    have get : ∀ i, i < vs.length → Tup2 s.heap (ks.getD i Value.none) (key i) := fun i hi => by
      have : ks[i]? = some (ks.getD i Value.none) := by simp [List.getD, show i < ks.length by omega]
      exact hkeys i _ this
    refine wpAny_bind (wpAny_mono (kat_run (Q := fun st' s' => ∃ p : Array Nat, s' = s ∧ IsP vs.length p ∧ Up code p vs.length ∧ arrOf st' = p.map (kas_item (ks.toArray.zip vs.toArray)) ∧ failedOf st' = none) (G := fun p s' => s' = s ∧ IsP vs.length p ∧ Up code p vs.length) hl (by omega) h64
      (fun p st' s' q1 q2 q3 q4 => ⟨p, q4.1, q4.2.1, q4.2.2, q2, q3⟩) ?_) ?_ fun _ _ x => x)
    · refine sort_wp (c := code) (fun i j C hi hj hC => ?_) hinj (by omega) fun p hp hu => ⟨rfl, hp, hu⟩
      refine tup2_lt (get i hi) (get j hj) ?_
      rw [decide_eq_decide.mpr (hlex i j hi hj)]
      exact hC
    · rintro ⟨⟨⟩, st'⟩ s' ⟨p, rfl, hp, hu, har, hf⟩
      refine sort_tail (kat_snds hl har) (by rw [List.length_map, Array.length_toList, hp.size]; exact h64) (by omega) hf hk ha hka fun h' k1 k2 => h h' p hp hu k1 k2

theorem sort_tree (ho : s.heap.PlainList a vs.toArray) (h64 : vs.length < 64)
    (turn : ∀ i v s', vs[i]? = some v → Chg (· = a) s s' → wpAny (model prog w) A (call f [v]) (fun y s'' => Keeps s' s'' ∧ (∃ T, y = .ref T ∧ s'.heap.get? T = none) ∧ Tup2 s''.heap y (key i)) (fun _ _ => False) s')
    (hlex : ∀ i j, i < vs.length → j < vs.length → (((key i).1 < (key j).1 ∨ ((key i).1 = (key j).1 ∧ (key i).2 < (key j).2)) ↔ code i < code j)) (hinj : ∀ i j, i < vs.length → j < vs.length → code i = code j → i = j)
    (h : ∀ s' p, IsP vs.length p → Up code p vs.length → Chg (· = a) s s' → s'.heap.PlainList a (p.toList.map fun i => vs.getD i Value.none).toArray → P (.done (.ret .none)) s') :
    wpAny (model prog w) A (ksk_tree a f false) P E s := by
  obtain ⟨n, ho⟩ := ho
  have short : vs.toArray.size ≤ 1000 := by rw [List.size_toArray]; omega
  unfold ksk_tree
  refine wpAny_bind (listItems_at ho rfl (wpAny_bind (put_list ho short (Nat.zero_le _) fun H e1 ho1 s1 => ?_)))
  have haH : a < H.objs.size := Heap.lt_size ho1
  refine wpAny_bind (seqEpoch_at (s := { s with heap := H }) ho1 rfl (wpAny_bind (wpAny_newTuple (wpAny_bind (wpAny_newList (wpAny_holding ?_) (Nat.zero_le _))) ?_)))
  rotate_left
  · exact Nat.le_trans short (by rw [sizeLine_eq]; decide)
  dsimp only
  generalize hH2 : H.push { cls := .type "tuple", dict := none, data := .seq vs.toArray } = H2
  have hsz : H2.objs.size = H.objs.size + 1 := by rw [← hH2, Heap.size_push]
  have k2 : ∀ b o, H.get? b = some o → H2.get? b = some o := fun b o e => hH2 ▸ Heap.get?_push_of_some _ e
  have hka : H2.objs.size ≠ a := Nat.ne_of_gt (by rw [hsz]; exact Nat.lt_succ_of_lt haH)
  have hkS0 : s.heap.get? H2.objs.size = none := get_ge (by rw [hsz, s1.1]; exact Nat.le_succ _)
  unfold ksk_rest
  refine wpAny_bind (wpAny_rule ?_)
  rw [List.forIn_toArray]
  refine wpAny_bind (ksk_fold (fun i s' => Chg (fun b => b = a) s s' ∧ s'.heap.get? a = some (seqObj "list" #[] e1) ∧ ∃ (ks : List Value) (e : Nat), s'.heap.get? H2.objs.size = some (seqObj "list" ks.toArray e) ∧ ks.length = i ∧ i ≤ vs.length ∧ ∀ j y, ks[j]? = some y → Tup2 s'.heap y (key j) ∧ y ≠ .ref H2.objs.size ∧ y ≠ .ref a) vs 0 _ ?init ?step ?done)
  case init =>
    refine ⟨⟨_, _, rfl, fun b o hb e => Heap.get?_push_of_some _ (k2 b o (s1.extBut b o hb e))⟩, Heap.get?_push_of_some _ (k2 _ _ ho1), [], 0, Heap.get?_push_size _ rfl, rfl, Nat.zero_le _, fun j y hj => by simp at hj⟩
  case step =>
    rintro j x s' hx ⟨hC, hsa, ks, e, hks, hlen, _, hkk⟩
    simp only [Nat.zero_add] at hlen ⊢
    have hj : j < vs.length := (List.getElem?_eq_some_iff.mp hx).1
    refine wpAny_bind (wpAny_attempt (wpAny_mono (turn j x s' hx hC) (fun y s'' hy => ?_) fun _ _ hF => hF.elim))
    obtain ⟨hK, ⟨T, rfl, hT⟩, hT2⟩ := hy
    have hTk : T ≠ H2.objs.size := Ne.symm (ne_of_get hks hT)
    have hTa : T ≠ a := Ne.symm (ne_of_get hsa hT)
    have g := Keeps.get' hK hks
    have ea : ks.toArray.push (Value.ref T) = (ks ++ [Value.ref T]).toArray := by simp
    have kz : ks.toArray.size ≤ 999 := by rw [List.size_toArray]; omega
    dsimp only
    refine wpAny_bind (put_list g (Nat.le_succ_of_le kz) (by rw [Array.size_push]; omega) fun h₃ c2 hc2 sb => ?_)
    rw [ea] at hc2
    refine wpAny_pure ⟨rfl, ?_, sb.extBut _ _ (Ne.symm hka) (Keeps.get' hK hsa), ks ++ [.ref T], c2, hc2, by simp [hlen], hj, fun i y hi => ?_⟩
    · have C' := hC.trans (Chg.of_keeps _ hK)
      obtain ⟨h', tk, rfl, k'⟩ := C'
      exact ⟨_, tk, rfl, fun b o hb e => sb.extBut b o (ne_of_get e hkS0) (k' b o hb e)⟩
    · by_cases hij : i < ks.length
      · rw [List.getElem?_append_left hij] at hi
        obtain ⟨q1, q2, q3⟩ := hkk i y hi
        exact ⟨q1.keep fun T' o' e' e'' => sb.extBut _ o' (fun h => q2 (by rw [e', h])) (Keeps.get' hK e''), q2, q3⟩
      · have hi' : i = ks.length := by
          have := (List.getElem?_eq_some_iff.mp hi).1
          simp at this; omega
        subst hi'
        simp at hi
        subst hi
        rw [hlen]
        exact ⟨hT2.keep fun T' o' e' e'' => sb.extBut _ o' (fun h => by cases e'; exact hTk h) e'', fun h => hTk (by injection h), fun h => hTa (by injection h)⟩
  case done =>
    rintro s' ⟨hC, hsa, ks, e, hks, hlen, _, hkk⟩
    simp only [Nat.zero_add] at hlen
    refine wpAny_bind (listItems_at hks rfl ?_)
    refine sort_end hlen h64 (fun i y hi => (hkk i y hi).1) hlex hinj hks hsa hka fun h' p hp hu k1 k2 => ?_
    refine h _ p hp hu ?_ k2
    obtain ⟨h'', tk, rfl, k'⟩ := hC
    exact ⟨h', tk, rfl, fun b o hb e => k1 b o (ne_of_get e hkS0) hb (k' b o hb e)⟩
end
end Mine

end

/- Parts1 -/
section
open PySem PySem.W PyProof.Rows
set_option Elab.async false
namespace Mine
set_option maxRecDepth 10000

abbrev Sub (g h : Heap) : Prop := ∀ b o, g.get? b = some o → h.get? b = some o
theorem Sub.of_keeps {s s' : Shared} (k : Keeps s s') : Sub s.heap s'.heap := fun _ _ e => Keeps.get' k e

/-- a list of lists of ints -/
structure Mat (h : Heap) (a : Addr) (rs : List (Addr × List Int)) : Prop where
  l : h.IsList a (rs.map fun p => Value.ref p.1).toArray
  r : ∀ p ∈ rs, IntL h p.1 p.2
theorem Mat.keep {h h' : Heap} {a : Addr} {rs : List (Addr × List Int)} (x : Mat h a rs) (k : Sub h h') : Mat h' a rs := ⟨x.l.at fun o e => k _ o e, fun p hp => (x.r p hp).at fun o e => k _ o e⟩
/-- a list of pairs of ints -/
structure Prs (h : Heap) (a : Addr) (ps : List (Addr × (Int × Int))) : Prop where
  l : h.PlainList a (ps.map fun p => Value.ref p.1).toArray
  t : ∀ p ∈ ps, Tup2 h (.ref p.1) p.2
theorem Prs.keep {h h' : Heap} {a : Addr} {ps : List (Addr × (Int × Int))} (x : Prs h a ps) (k : Sub h h') : Prs h' a ps := ⟨x.l.at fun o e => k _ o e, fun p hp => (x.t p hp).keep fun _ o _ e => k _ o e⟩
abbrev row (rs : List (Addr × List Int)) (k : Int) : List Int := (rs.map (·.2)).getD k.toNat []
abbrev inAb (rs : List (Addr × List Int)) (x k : Int) : Bool := (row rs k).any (· == x)

theorem prs_of {h h₀ : Heap} {α : Type} {f : α → Int × Int} {src : List α} {ys : List Value} (P : Paired (fun a y => ∃ T, y = Value.ref T ∧ h₀.get? T = none ∧ Tup2 h y (f a)) src ys) :
    ∃ ps : List (Addr × (Int × Int)), ys = ps.map (fun p => Value.ref p.1) ∧ ps.map (·.2) = src.map f ∧ (∀ p ∈ ps, Tup2 h (.ref p.1) p.2) ∧ ∀ p ∈ ps, h₀.get? p.1 = none := by
  induction P with
  | nil => exact ⟨[], rfl, rfl, by simp, by simp⟩
  | @cons a y _ _ h1 r ih =>
    obtain ⟨T, rfl, h0, ht⟩ := h1
    obtain ⟨ps, e1, e2, e3, e4⟩ := ih
    refine ⟨(T, f a) :: ps, by simp [e1], by simp [e2], fun p hp => ?_, fun p hp => ?_⟩
    · rcases List.mem_cons.mp hp with rfl | hp
      · exact ht
      · exact e3 p hp
    · rcases List.mem_cons.mp hp with rfl | hp
      · exact h0
      · exact e4 p hp

theorem paired_self {α : Type} (f : α → Value) : ∀ l : List α, Paired (fun a v => v = f a) l (l.map f)
  | [] => .nil
  | _ :: r => .cons rfl (paired_self f r)
theorem ints_of {α : Type} {f : α → Int} {h₀ h : Heap} : ∀ {src : List α} {ys : List Value}, Paired (Elt (fun a y _ => ∃ t, y = Value.int (f a) t) h₀ h) src ys → IntsAre ys (src.map f)
  | _, _, .nil => .nil
  | _, _, .cons x r => by
    obtain ⟨t, rfl⟩ : ∃ t, _ = Value.int (f _) t := x.elim id fun ⟨_, _, _, _, _, h⟩ => h
    exact .cons _ t (ints_of r)

section
variable {prog : Program} {w : World} {A : Around} {E : Value → Shared → Prop} {s : Shared} {env : Env}

theorem ldFree {x : Str} {pos : Pos} {c : Addr} {v : Value} {Q : Value → Shared → Prop} (hv : s.heap.IsCell c (some v)) (h : Q v s)
    (hk : env.scope.kind = .function := by rfl) (hx : env.kindOf x = some .free := by rfl) (hc : env.cells.lookup x = some c := by rfl) (hd : (x == ("__debug__" : Str)) = false := by decide) (hn : (x == ("__classdict__" : Str)) = false := by decide) :
    wpAny (model prog w) A (eval (.Name x pos) env) Q E s := wpAny_Name (wpAny_loadName_free hk hx hc hv h hn) hd

/-- [elt for n1, n2 in U if ..], U in a cell -/
theorem lcp {elt : Expr} {n1 n2 U : Str} {p1 p2 p3 pU pos : Pos} {ifs : List Expr} {scope : Scope} {cl : List (Str × Addr)} {ps : List (Addr × (Int × Int))} {u : Addr} {Q : Value → Shared → Prop} (p : Int × Int → Bool) (F : Int × Int → Value → Option Obj → Prop)
    (hh : A.handled = none) (hclos : closureFor scope env = pure cl) (hcell : ∀ y ∈ scope.names, y.2 ≠ .cell) (hkind : scope.kind = .function) (hnames : ∀ y ∈ scope.names, y.2 = .local → scope.names.lookup y.1 = some .local)
    (hrU : ∀ Q : Value → Shared → Prop, Q (.ref u) s → wpAny (model prog w) A (eval (.Name U pU) env) Q E s) (hP : Prs s.heap u ps) (hlen : ps.length ≤ 1000)
    (hk1 : ∀ C, (compEnvC scope cl C env).kindOf n1 = some .local) (hk2 : ∀ C, (compEnvC scope cl C env).kindOf n2 = some .local) (hn12 : n1 ≠ n2)
    (hpp : ∀ C, ((compEnvC scope cl C env).scope.kind == .class || ((compEnvC scope cl C env).scope.kind == .module && (compEnvC scope cl C env).locals != (compEnvC scope cl C env).globals)) = false)
    (turn : ∀ C a s₄ m₄ t u E', a ∈ ps.map (·.2) → s.heap.get? C = none → Sub s.heap s₄.heap → s₄.heap.Ns C m₄ → m₄ n1 = some (.int a.1 t) → m₄ n2 = some (.int a.2 u) →
      wpAny (model prog w) A (tests ifs (compEnvC scope cl C env)) (fun ok s₅ => ok = p a ∧ Keeps s₄ s₅ ∧ (ok = true → wpAny (model prog w) A (eval elt (compEnvC scope cl C env)) (fun y s₆ => Keeps s₅ s₆ ∧ Elt F s₅.heap s₆.heap a y) E' s₅)) E' s₄)
    (hQ : ∀ D s' ys, s.heap.get? D = none → s'.heap.PlainList D ys.toArray → Paired (Elt F s.heap s'.heap) ((ps.map (·.2)).filter p) ys → Keeps s s' → Q (.ref D) s') :
    wpAny (model prog w) A (eval (.ListComp elt [⟨.Tuple [.Name n1 p1, .Name n2 p2] 0 p3, .Name U pU, ifs, 0⟩] scope pos) env) Q E s := by
  refine lc_eval (src := ps) (Pv := fun q v => v = .ref q.1) (fun q => p q.2) (fun q => F q.2) hclos hcell hkind hnames hlen ?_
  refine hrU _ ?_
  refine wpAny_pyIter_list hP.l.isList ⟨_, rfl, lc_list hh hP.l.isList (paired_self _ _) _ rfl, ?_, ?_⟩
  · rintro C q v s₃ m₃ hq rfl hC hn₃ hch E'
    have K3 : Sub s.heap s₃.heap := fun b o e => hch.get (ne_of_get e (get_size _)) (Heap.get?_push_of_some _ e)
    have hC' : s.heap.get? C = none := by
      cases e : s.heap.get? C with
      | none => rfl
      | some o => have := Heap.get?_push_of_some { cls := .type "list_iterator", data := .fields #[.ref u, .int 0 0] } e; rw [hC] at this; cases this
    obtain ⟨T, o, e, t1, t2, eT, ho, hc, hd⟩ := hP.t q hq
    cases eT
    refine wpAny_assign_Tuple hh ⟨o, K3 _ _ ho, hc, e, hd⟩ rfl rfl fun h₁ he₁ => ?_
    have K1 : Sub s₃.heap h₁ := fun b o e => he₁ b o (ne_of_get e (get_size _)) e
    show wpAny _ _ (assignInOrder [assign (.Name n1 p1) _, assign (.Name n2 p2) _] [_, _]) _ _ _
    refine assignInOrder_cons (wpAny_assign_Name (stN' (env := compEnvC scope cl C env) (hn₃.at' fun o e => K1 _ o e) (fun h₂ hn₂ hs₂ => ?_) (hk1 C) (hpp C)))
    refine assignInOrder_cons (wpAny_assign_Name (stN' (env := compEnvC scope cl C env) hn₂ (fun h₄ hn₄ hs₄ => assignInOrder_nil ?_) (hk2 C) (hpp C)))
    refine ⟨⟨_, hn₄⟩, ?_, ?_⟩
    · exact ⟨h₄, _, rfl, fun b o hb e => hs₄.extBut b o hb (hs₂.extBut b o hb (K1 b o e))⟩
    · refine turn C q.2 _ _ t1 t2 _ (List.mem_map_of_mem hq) hC' (fun b o e => hs₄.extBut b o (ne_of_get e hC') (hs₂.extBut b o (ne_of_get e hC') (K1 b o (K3 b o e)))) hn₄ ?_ ?_
      · rw [if_neg hn12, if_pos rfl]
      · rw [if_pos rfl]
  · intro D s' ys hD hl hF hch
    have hD' : s.heap.get? D = none := by
      cases e : s.heap.get? D with
      | none => rfl
      | some o => have := Heap.get?_push_of_some { cls := .type "list_iterator", data := .fields #[.ref u, .int 0 0] } e; rw [hD] at this; cases this
    refine hQ D s' ys hD' hl ?_ ?_
    · have key : ∀ {l : List (Addr × (Int × Int))} {ys : List Value}, Paired (Elt (fun q => F q.2) (s.heap.push { cls := .type "list_iterator", data := .fields #[.ref u, .int 0 0] }) s'.heap) (l.filter fun q => p q.2) ys → Paired (Elt F s.heap s'.heap) ((l.map (·.2)).filter p) ys := by
        intro l
        induction l with
        | nil => intro ys h; cases h; exact .nil
        | cons q r ih =>
          intro ys h
          rw [List.map_cons, List.filter_cons]
          rw [List.filter_cons] at h
          by_cases hp : p q.2 = true
          · simp only [hp, if_true] at h ⊢
            cases h with
            | cons h1 h2 =>
              refine .cons ?_ (ih h2)
              rcases h1 with h1 | ⟨T, o, rfl, h0, ho, hF⟩
              · exact .inl h1
              · refine .inr ⟨T, o, rfl, ?_, ho, hF⟩
                cases e : s.heap.get? T with
                | none => rfl
                | some o => have := Heap.get?_push_of_some { cls := .type "list_iterator", data := .fields #[.ref u, .int 0 0] } e; rw [h0] at this; cases this
          · simp only [Bool.not_eq_true] at hp
            simp only [hp, Bool.false_eq_true, if_false] at h ⊢
            exact ih h
      exact key hF
    · obtain ⟨h', tk, rfl, k⟩ := hch
      exact ⟨h', tk, rfl, fun b o e => k b o (ne_of_get e (get_size _)) (Heap.get?_push_of_some _ e)⟩

theorem getD_row {rs : List (Addr × List Int)} {k : Int} (h0 : 0 ≤ k) (hk : k < rs.length) : ∃ r, rs[k.toNat]? = some r ∧ r ∈ rs ∧ row rs k = r.2 := by
  have hlt : k.toNat < rs.length := by omega
  refine ⟨rs[k.toNat], by simp [hlt], List.getElem_mem _, ?_⟩
  simp [row, List.getD, hlt]

/-- above[k] -/
theorem row_item {x k : Str} {p1 p2 p3 : Pos} {ab : Addr} {rs : List (Addr × List Int)} {kk : Int} {t : Tok} {Q : Value → Shared → Prop} (hM : Mat s.heap ab rs) (h0 : 0 ≤ kk) (hk : kk < rs.length) (hlen : rs.length ≤ 1000)
    (hx : ∀ Q : Value → Shared → Prop, Q (.ref ab) s → wpAny (model prog w) A (eval (.Name x p1) env) Q E s) (hkk : ∀ Q : Value → Shared → Prop, Q (.int kk t) s → wpAny (model prog w) A (eval (.Name k p2) env) Q E s)
    (h : ∀ r, r ∈ rs → row rs kk = r.2 → Q (.ref r.1) s) :
    wpAny (model prog w) A (eval (.Subscript (.Name x p1) (.Name k p2) p3) env) Q E s := by
  obtain ⟨r, hr, hm, he⟩ := getD_row h0 hk
  refine Subscript_ (hx _ (hkk _ ?_))
  exact tail_any (T := "list") (Heap.IsList.typeIs hM.l) slot_list_getitem.lookup (wpAny_getItem_list hM.l h0 (by omega) (x := .ref r.1) (by simp [hr]) (h r hm he)) (by with_unfolding_all rfl)

/-- x in above[k] -/
theorem in_row {e : Expr} {xa k : Str} {p1 p2 p3 p4 : Pos} {ab : Addr} {rs : List (Addr × List Int)} {kk xx : Int} {t : Tok} {Q : Bool → Shared → Prop} (hM : Mat s.heap ab rs) (h0 : 0 ≤ kk) (hk : kk < rs.length) (hlen : rs.length ≤ 1000)
    (he : ∀ Q : Value → Shared → Prop, (∀ t tk, Q (.int xx t) { s with toks := tk }) → wpAny (model prog w) A (eval e env) Q E s)
    (hx : ∀ tk, ∀ Q : Value → Shared → Prop, Q (.ref ab) { s with toks := tk } → wpAny (model prog w) A (eval (.Name xa p1) env) Q E { s with toks := tk }) (hkk : ∀ tk, ∀ Q : Value → Shared → Prop, Q (.int kk t) { s with toks := tk } → wpAny (model prog w) A (eval (.Name k p2) env) Q E { s with toks := tk })
    (h : ∀ tk, Q (inAb rs xx kk) { s with toks := tk }) :
    wpAny (model prog w) A (isTrue (.Compare e [.In] [.Subscript (.Name xa p1) (.Name k p2) p3] p4) env (eval (.Compare e [.In] [.Subscript (.Name xa p1) (.Name k p2) p3] p4) env)) Q E s := by
  refine wpAny_isTrue_Compare1 (he _ fun tx tk => ?_)
  refine row_item (s := { s with toks := tk }) hM h0 hk hlen (hx tk) (hkk tk) fun r hr hrow => ?_
  obtain ⟨vs, hvs, hvi⟩ := hM.r r hr
  refine in_list_ints (s := { s with toks := tk }) hvs.isList hvi (wpAny_truthy_bool ?_)
  rw [← hrow]
  exact h tk

/-- [..] == [], [..] != [] -/
theorem eq_nil {e : Expr} {p1 p2 : Pos} {ns : List Int} {Q : Bool → Shared → Prop} (hu : A.units + 64 < cLine)
    (he : wpAny (model prog w) A (eval e env) (fun v s₁ => ∃ D ys, v = .ref D ∧ s₁.heap.PlainList D (List.toArray ys) ∧ IntsAre ys ns ∧ ∀ s₂, Keeps s₁ s₂ → Q (decide (ns = [])) s₂) E s) :
    wpAny (model prog w) A (isTrue (.Compare e [.Eq] [.List [] p1] p2) env (eval (.Compare e [.Eq] [.List [] p1] p2) env)) Q E s := by
  refine wpAny_isTrue_Compare1 (wpAny_mono he (fun v s₁ h₁ => ?_) fun _ _ e => e)
  obtain ⟨D, ys, rfl, hl, hi, hQ⟩ := h₁
  refine wpAny_List (wpAny_items_nil ⟨by simp [sizeLine], ?_⟩)
  refine eq_intsK (vs := ys) (us := []) (hl.at fun o e => Heap.get?_push_of_some _ e).isList hi (push_plain s₁.heap #[]).isList .nil hu (wpAny_truthy_bool ?_)
  exact hQ _ (Keeps.push' s₁ _ s₁.toks)
theorem ne_nil {e : Expr} {p1 p2 : Pos} {ns : List Int} {Q : Bool → Shared → Prop} (hu : A.units + 64 < cLine)
    (he : wpAny (model prog w) A (eval e env) (fun v s₁ => ∃ D ys, v = .ref D ∧ s₁.heap.PlainList D (List.toArray ys) ∧ IntsAre ys ns ∧ ∀ s₂, Keeps s₁ s₂ → Q (!decide (ns = [])) s₂) E s) :
    wpAny (model prog w) A (isTrue (.Compare e [.NotEq] [.List [] p1] p2) env (eval (.Compare e [.NotEq] [.List [] p1] p2) env)) Q E s := by
  refine wpAny_isTrue_Compare1 (wpAny_mono he (fun v s₁ h₁ => ?_) fun _ _ e => e)
  obtain ⟨D, ys, rfl, hl, hi, hQ⟩ := h₁
  refine wpAny_List (wpAny_items_nil ⟨by simp [sizeLine], ?_⟩)
  refine ne_intsK (vs := ys) (us := []) (hl.at fun o e => Heap.get?_push_of_some _ e).isList hi (push_plain s₁.heap #[]).isList .nil hu (wpAny_truthy_bool ?_)
  exact hQ _ (Keeps.push' s₁ _ s₁.toks)
end
end Mine

end

/- Parts2 -/
section
open PySem PySem.W PyProof.Rows
set_option Elab.async false
namespace Mine
set_option maxRecDepth 10000

/-- a list of tuples of an int and a bool -/
structure Wys (h : Heap) (a : Addr) (ws : List (Addr × (Int × Bool))) : Prop where
  l : h.IsList a (ws.map fun p => Value.ref p.1).toArray
  t : ∀ p ∈ ws, ∃ o e t, h.get? p.1 = some o ∧ o.cls = .type "tuple" ∧ o.data = .seq #[.int p.2.1 t, .bool p.2.2] e
theorem Wys.keep {h h' : Heap} {a : Addr} {ws : List (Addr × (Int × Bool))} (x : Wys h a ws) (k : Sub h h') : Wys h' a ws :=
  ⟨x.l.at fun o e => k _ o e, fun p hp => let ⟨o, e, t, ho, r⟩ := x.t p hp; ⟨o, e, t, k _ o ho, r⟩⟩
abbrev wayAt (ws : List (Addr × (Int × Bool))) (k : Nat) : Int × Bool := (ws.map (·.2)).getD k (0, false)
/-- the pairs (place, node) of the ways that lead up, or down -/
def prsOf (ws : List (Int × Bool)) (up : Bool) : List (Int × Int) := ((List.range' 0 ws.length).filter fun k => (ws.getD k (0, false)).2 == up).map fun k : Nat => (((k : Nat) : Int), (ws.getD k (0, false)).1)

section
variable {prog : Program} {w : World} {A : Around} {E : Value → Shared → Prop} {s : Shared} {env : Env} {L f : Addr} {cd : Value} {nm : Str} {m mg mb : Str → Option Value}

/-- ways[place] -/
theorem way_item {p1 p2 p3 : Pos} {wy : Addr} {ws : List (Addr × (Int × Bool))} {k : Nat} {t : Tok} {Q : Value → Shared → Prop} (hW : Wys s.heap wy ws) (hk : k < ws.length) (hlen : ws.length ≤ 1000)
    (hx : ∀ Q : Value → Shared → Prop, Q (.ref wy) s → wpAny (model prog w) A (eval (.Name "ways" p1) env) Q E s) (hkk : ∀ Q : Value → Shared → Prop, Q (.int k t) s → wpAny (model prog w) A (eval (.Name "place" p2) env) Q E s)
    (h : ∀ T e u, IsTup s.heap T #[.int (wayAt ws k).1 u, .bool (wayAt ws k).2] → Q (.ref T) (e : Shared) ∨ e ≠ s) :
    wpAny (model prog w) A (eval (.Subscript (.Name "ways" p1) (.Name "place" p2) p3) env) Q E s := by
  obtain ⟨o, e, t', ho, hc, hd⟩ := hW.t ws[k] (List.getElem_mem hk)
  refine Subscript_ (hx _ (hkk _ ?_))
  refine tail_any (T := "list") (Heap.IsList.typeIs hW.l) slot_list_getitem.lookup (wpAny_getItem_list hW.l (by omega) (by omega) (x := .ref ws[k].1) (by simp [hk]) ?_) (by with_unfolding_all rfl)
  have hwk : wayAt ws k = ws[k].2 := by simp [wayAt, List.getD, hk]
  exact (h ws[k].1 s t' ⟨o, ho, hc, e, by rw [hwk]; exact hd⟩).resolve_right fun h => h rfl

theorem way_0 {p1 p2 p3 p4 p5 : Pos} {wy : Addr} {ws : List (Addr × (Int × Bool))} {k : Nat} {t : Tok} {Q : Value → Shared → Prop} (hW : Wys s.heap wy ws) (hk : k < ws.length) (hlen : ws.length ≤ 1000)
    (hx : ∀ Q : Value → Shared → Prop, Q (.ref wy) s → wpAny (model prog w) A (eval (.Name "ways" p1) env) Q E s) (hkk : ∀ Q : Value → Shared → Prop, Q (.int k t) s → wpAny (model prog w) A (eval (.Name "place" p2) env) Q E s)
    (h : ∀ u tk, Q (.int (wayAt ws k).1 u) { s with toks := tk }) :
    wpAny (model prog w) A (eval (.Subscript (.Subscript (.Name "ways" p1) (.Name "place" p2) p3) (.Constant (.int 0) 0 p4) p5) env) Q E s := by
  refine Subscript_ (way_item hW hk hlen hx hkk fun T s' u hT => ?_)
  by_cases e : s' = s
  · subst e
    refine .inl (wpAny_Constant_int ?_)
    exact item_tupleT (l := [.int (wayAt ws k).1 u, .bool (wayAt ws k).2]) (s := { s' with toks := _ }) hT (by decide) (by decide) (j := 0) rfl rfl (h u _)
  · exact .inr e
theorem way_1 {p1 p2 p3 p4 p5 : Pos} {wy : Addr} {ws : List (Addr × (Int × Bool))} {k : Nat} {t : Tok} {Q : Value → Shared → Prop} (hW : Wys s.heap wy ws) (hk : k < ws.length) (hlen : ws.length ≤ 1000)
    (hx : ∀ Q : Value → Shared → Prop, Q (.ref wy) s → wpAny (model prog w) A (eval (.Name "ways" p1) env) Q E s) (hkk : ∀ Q : Value → Shared → Prop, Q (.int k t) s → wpAny (model prog w) A (eval (.Name "place" p2) env) Q E s)
    (h : ∀ tk, Q (.bool (wayAt ws k).2) { s with toks := tk }) :
    wpAny (model prog w) A (eval (.Subscript (.Subscript (.Name "ways" p1) (.Name "place" p2) p3) (.Constant (.int 1) 0 p4) p5) env) Q E s := by
  refine Subscript_ (way_item hW hk hlen hx hkk fun T s' u hT => ?_)
  by_cases e : s' = s
  · subst e
    refine .inl (wpAny_Constant_int ?_)
    exact item_tupleT (l := [.int (wayAt ws k).1 u, .bool (wayAt ws k).2]) (s := { s' with toks := _ }) hT (by decide) (by decide) (j := 1) rfl rfl (h _)
  · exact .inr e

abbrev paEnv (nm : Str) (L f : Addr) (cd : Value) : Env := envOfC nm paScope L f cd

theorem prs_len {ws : List (Int × Bool)} {b : Bool} : (prsOf ws b).length ≤ ws.length := by
  unfold prsOf
  rw [List.length_map]
  refine Nat.le_trans (List.length_filter_le _ _) (by simp)

theorem pa_updown {b : Bool} {y : Str} {i : Nat} {c : Expr} {wy : Addr} {ws : List (Addr × (Int × Bool))} {sp sp2 yp p1 p2 p3 p4 p5 p6 p7 p8 p9 p10 p11 pt tp : Pos} {Q : Flow → Shared → Prop} {sc : Scope} (hh : A.handled = none) (G : Gl mg mb s.heap) (hgr : mg "range" = none) (hbr : mb "range" = some (.type "range")) (hgl : mg "len" = none) (hbl : mb "len" = some (.builtin "len"))
    (hW : Wys s.heap wy ws) (hlen : ws.length ≤ 1000) (hc2 : s.heap.IsCell (L + 2) (some (.ref wy))) (hci : s.heap.IsCell (L + i) none)
    (hsc : sc = { kind := ScopeKind.function, names := [(".0", NameKind.local), ("place", NameKind.local), ("ways", NameKind.free)], isGenerator := false, isCoroutine := false, more := [] })
    (hsw : swapsWith (.ListComp (.Tuple [.Name "place" p1, .Subscript (.Subscript (.Name "ways" p2) (.Name "place" p3) p4) (.Constant (.int 0) 0 p5) p6] 0 tp) [⟨.Name "place" p7, .Call (.Name "range" p8) [.Call (.Name "len" p9) [.Name "ways" p10] [] p11] [] pt, [c], 0⟩] sc sp) (some (.Name y yp)) sp2.line (paEnv nm L f cd) = pure false)
    (hy : (paEnv nm L f cd).kindOf y = some .cell) (hyc : (paEnv nm L f cd).cells.lookup y = some (L + i))
    (hc : ∀ C s₄ m₄ k t E' Q, k < ws.length → s₄.heap.Ns C m₄ → m₄ "place" = some (.int (k : Nat) t) → Wys s₄.heap wy ws → s₄.heap.IsCell (L + 2) (some (.ref wy)) → (∀ tk, Q ((wayAt ws k).2 == b) { s₄ with toks := tk }) →
      wpAny (model prog w) A (isTrue c (compEnvC sc [("ways", L + 2)] C (paEnv nm L f cd)) (eval c (compEnvC sc [("ways", L + 2)] C (paEnv nm L f cd)))) Q E' s₄)
    (h : ∀ s' u ps, Chg (· = L + i) s s' → s'.heap.IsCell (L + i) (some (.ref u)) → Prs s'.heap u ps → ps.map (·.2) = prsOf (ws.map (·.2)) b → s.heap.get? u = none → (∀ p ∈ ps, s.heap.get? p.1 = none) → Q .next s') :
    wpAny (model prog w) A (exec (.Assign [.Name y yp] (.ListComp (.Tuple [.Name "place" p1, .Subscript (.Subscript (.Name "ways" p2) (.Name "place" p3) p4) (.Constant (.int 0) 0 p5) p6] 0 tp) [⟨.Name "place" p7, .Call (.Name "range" p8) [.Call (.Name "len" p9) [.Name "ways" p10] [] p11] [] pt, [c], 0⟩] sc sp) sp2) (paEnv nm L f cd)) Q E s := by
  subst hsc
  refine wpAny_Assign_Name ?_ hsw
  refine lc_eval (src := List.range' 0 ws.length) (Pv := fun (k : Nat) v => ∃ t, v = .int k t) (cl := [("ways", L + 2)]) (fun k => (wayAt ws k).2 == b)
    (fun k y o => ∃ ob e t u, o = some ob ∧ ob.cls = .type "tuple" ∧ ob.data = .seq #[.int (k : Nat) t, .int (wayAt ws k).1 u] e) (by rfl) (by decide) rfl (by decide) (by simpa using hlen) ?_
  refine range1 G hgr hbr (len_call G hgl hbl (ldCell hc2 ⟨wy, _, rfl, hW.l, by simpa using hlen, fun t tk => ⟨ws.length, t, by simp, hlen, fun I h' tk' hI hk hIlt hit => ⟨I, rfl, lc_range (a := 0) hh hIlt hit, ?_, ?_⟩⟩⟩))
  · rintro C k v s₃ m₃ hkm ⟨tv, rfl⟩ hC hn₃ hch E'
    refine wpAny_assign_Name (stN' (env := compEnvC _ _ C _) hn₃ fun h₄ hn₄ hs₄ => ⟨⟨_, hn₄⟩, (Chg.refl _ _).step fun b o hb e => hs₄.extBut b o hb e, ?_⟩)
    have K : ∀ b o, s.heap.get? b = some o → h₄.get? b = some o := fun b o e => hs₄.extBut b o (ne_of_get (hk b o e) hC) (hch.get (ne_of_get e hI) (hk b o e))
    have hklt : k < ws.length := by simpa [List.mem_range'_1] using hkm
    have hW4 := hW.keep K
    have hc4 := hc2.keeps K
    refine wpAny_tests_one (hc C _ _ k tv _ _ hklt hn₄ (by rw [if_pos rfl]) hW4 hc4 fun tk => ⟨rfl, Keeps.refl' { s₃ with heap := h₄, toks := _ } _, fun _ => ?_⟩)
    refine wpAny_Tuple (wpAny_items_cons (ldN (env := compEnvC _ _ C _) hn₄ (by rw [if_pos rfl]) (wpAny_items_cons ?_)))
    refine way_0 (s := { s₃ with heap := h₄, toks := tk }) hW4 hklt hlen (fun Q hQ => ldCell (env := compEnvC _ _ C _) hc4 hQ) (fun Q hQ => ldN (env := compEnvC _ _ C _) hn₄ (by rw [if_pos rfl]) hQ) fun u tk => wpAny_items_nil ⟨by simp [sizeLine], ?_⟩
    refine ⟨Keeps.push' { s₃ with heap := h₄, toks := _ } _ _, .inr ⟨_, _, rfl, get_size _, Heap.get?_push_size _ rfl, _, _, tv, u, rfl, rfl, rfl⟩⟩
  · intro D s' ys hD hl hP hch
    have hK : ∀ b o, s.heap.get? b = some o → s'.heap.get? b = some o := fun b o e => hch.get (ne_of_get e hI) (hk b o e)
    obtain ⟨oi, hoi, hdi⟩ := hci
    refine stCell (env := paEnv nm L f cd) (x := y) ⟨oi, hK _ _ hoi, hdi⟩ (fun h'' hcell hs'' => ?_) rfl hy hyc
    have hfr : ∀ T, h'.get? T = none → s.heap.get? T = none := fun T hT => by
      cases e : s.heap.get? T with
      | none => rfl
      | some o => have := hk T o e; rw [hT] at this; cases this
    have hLi : ∀ T, s.heap.get? T = none → T ≠ L + i := fun T hT => Ne.symm (ne_of_get hoi hT)
    have P2 : Paired (fun k y => ∃ T, y = Value.ref T ∧ s.heap.get? T = none ∧ Tup2 h'' y ((k : Nat), (wayAt ws k).1)) ((List.range' 0 ws.length).filter fun k => (wayAt ws k).2 == b) ys := by
      refine Paired.mono (fun k y hx => ?_) hP
      rcases hx with ⟨ob, e, t, u, ho, _⟩ | ⟨T, o, rfl, h0, ho, ob, e, t, u, hob, hoc, hod⟩
      · cases ho
      · cases hob
        have h0' := hfr T h0
        exact ⟨T, rfl, h0', T, _, e, t, u, rfl, hs''.extBut _ _ (hLi T h0') ho, hoc, hod⟩
    obtain ⟨ps, rfl, e2, e3, e4⟩ := prs_of P2
    refine h _ D ps ?_ hcell ⟨hl.at fun o e => hs''.extBut _ o (hLi D (hfr D hD)) e, e3⟩ ?_ (hfr D hD) e4
    · obtain ⟨h9, tk9, rfl, k9⟩ := hch
      exact ⟨h'', _, rfl, fun b o hb e => hs''.extBut b o hb (hK b o e)⟩
    · rw [e2, prsOf, List.length_map]

theorem pa_ups {wy : Addr} {ws : List (Addr × (Int × Bool))} {Q : Flow → Shared → Prop} (hh : A.handled = none) (G : Gl mg mb s.heap) (hgr : mg "range" = none) (hbr : mb "range" = some (.type "range")) (hgl : mg "len" = none) (hbl : mb "len" = some (.builtin "len"))
    (hW : Wys s.heap wy ws) (hlen : ws.length ≤ 1000) (hc2 : s.heap.IsCell (L + 2) (some (.ref wy))) (hci : s.heap.IsCell (L + 3) none)
    (h : ∀ s' u ps, Chg (· = L + 3) s s' → s'.heap.IsCell (L + 3) (some (.ref u)) → Prs s'.heap u ps → ps.map (·.2) = prsOf (ws.map (·.2)) true → s.heap.get? u = none → (∀ p ∈ ps, s.heap.get? p.1 = none) → Q .next s') :
    wpAny (model prog w) A (exec (nth paBody 0) (paEnv nm L f cd)) Q E s := by
  refine pa_updown (b := true) (i := 3) hh G hgr hbr hgl hbl hW hlen hc2 hci rfl rfl rfl rfl (fun C s₄ m₄ k t E' Q hk hn hm hW4 hc4 hQ => ?_) h
  refine wpAny_isTrue_value (way_1 hW4 hk hlen (fun Q hQ => ldCell (env := compEnvC _ _ C _) hc4 hQ) (fun Q hQ => ldN (env := compEnvC _ _ C _) hn hm hQ) fun tk => wpAny_truthy_bool ?_)
  have := hQ tk
  rwa [beq_true] at this
theorem pa_downs {wy : Addr} {ws : List (Addr × (Int × Bool))} {Q : Flow → Shared → Prop} (hh : A.handled = none) (G : Gl mg mb s.heap) (hgr : mg "range" = none) (hbr : mb "range" = some (.type "range")) (hgl : mg "len" = none) (hbl : mb "len" = some (.builtin "len"))
    (hW : Wys s.heap wy ws) (hlen : ws.length ≤ 1000) (hc2 : s.heap.IsCell (L + 2) (some (.ref wy))) (hci : s.heap.IsCell (L + 4) none)
    (h : ∀ s' u ps, Chg (· = L + 4) s s' → s'.heap.IsCell (L + 4) (some (.ref u)) → Prs s'.heap u ps → ps.map (·.2) = prsOf (ws.map (·.2)) false → s.heap.get? u = none → (∀ p ∈ ps, s.heap.get? p.1 = none) → Q .next s') :
    wpAny (model prog w) A (exec (nth paBody 1) (paEnv nm L f cd)) Q E s := by
  refine pa_updown (b := false) (i := 4) hh G hgr hbr hgl hbl hW hlen hc2 hci rfl rfl rfl rfl (fun C s₄ m₄ k t E' Q hk hn hm hW4 hc4 hQ => ?_) h
  refine wpAny_isTrue_Not (wpAny_isTrue_value (way_1 hW4 hk hlen (fun Q hQ => ldCell (env := compEnvC _ _ C _) hc4 hQ) (fun Q hQ => ldN (env := compEnvC _ _ C _) hn hm hQ) fun tk => wpAny_truthy_bool ?_))
  have := hQ tk
  rwa [beq_false] at this
end
end Mine

end

/- Parts3 -/
section
open PySem PySem.W PyProof.Rows
set_option Elab.async false
namespace Mine
set_option maxRecDepth 10000
section
variable {prog : Program} {w : World} {A : Around} {E : Value → Shared → Prop} {s : Shared} {env : Env} {L f : Addr} {cd : Value} {nm : Str} {m mg mb : Str → Option Value}

/-- [en for n1, k in U if x in above[k]] -/
theorem sel_comp {n1 U en : Str} {proj : Int × Int → Int} {p1 p2 p3 pU pos pe q1 q2 q3 q4 q5 : Pos} {scope : Scope} {cl : List (Str × Addr)} {ps : List (Addr × (Int × Int))} {u ca cx ab : Addr} {rs : List (Addr × List Int)} {xx : Int} {tx : Tok} {Q : Value → Shared → Prop}
    (hh : A.handled = none) (hclos : closureFor scope env = pure cl) (hcell : ∀ y ∈ scope.names, y.2 ≠ .cell) (hkind : scope.kind = .function) (hnames : ∀ y ∈ scope.names, y.2 = .local → scope.names.lookup y.1 = some .local)
    (hrU : ∀ Q : Value → Shared → Prop, Q (.ref u) s → wpAny (model prog w) A (eval (.Name U pU) env) Q E s) (hP : Prs s.heap u ps) (hlen : ps.length ≤ 1000)
    (hk1 : ∀ C, (compEnvC scope cl C env).kindOf n1 = some .local) (hk2 : ∀ C, (compEnvC scope cl C env).kindOf "k" = some .local) (hn12 : n1 ≠ "k")
    (hkf : ∀ C, (compEnvC scope cl C env).scope.kind = .function) (hrA : ∀ C (s₄ : Shared) E (Q : Value → Shared → Prop), s₄.heap.IsCell ca (some (.ref ab)) → Q (.ref ab) s₄ → wpAny (model prog w) A (eval (.Name "above" q2) (compEnvC scope cl C env)) Q E s₄)
    (hkx : ∀ C, (compEnvC scope cl C env).kindOf "x" = some .cell) (hcx : ∀ C, (compEnvC scope cl C env).cells.lookup ("x" : Str) = some cx)
    (hke : ∀ C, (compEnvC scope cl C env).kindOf en = some .local) (hde : (en == ("__debug__" : Str)) = false)
    (hA : s.heap.IsCell ca (some (.ref ab))) (hX : s.heap.IsCell cx (some (.int xx tx))) (hM : Mat s.heap ab rs) (hrs : rs.length ≤ 1000) (hin : ∀ a ∈ ps.map (·.2), 0 ≤ a.2 ∧ a.2 < (rs.length : Int))
    (hen : ∀ (m₄ : Str → Option Value) (a : Int × Int) t u, m₄ n1 = some (.int a.1 t) → m₄ "k" = some (.int a.2 u) → ∃ t', m₄ en = some (.int (proj a) t'))
    (hQ : ∀ D s' ys, s.heap.get? D = none → s'.heap.PlainList D (List.toArray ys) → IntsAre ys (((ps.map (·.2)).filter fun a => inAb rs xx a.2).map proj) → Keeps s s' → Q (.ref D) s') :
    wpAny (model prog w) A (eval (.ListComp (.Name en pe) [⟨.Tuple [.Name n1 p1, .Name "k" p2] 0 p3, .Name U pU, [.Compare (.Name "x" q1) [.In] [.Subscript (.Name "above" q2) (.Name "k" q3) q4] q5], 0⟩] scope pos) env) Q E s := by
  refine lcp (fun a => inAb rs xx a.2) (fun a y _ => ∃ t, y = .int (proj a) t) hh hclos hcell hkind hnames hrU hP hlen hk1 hk2 hn12 (fun C => by rw [hkf C]; rfl) (fun C a s₄ m₄ t u E' ha hC K hn h1 h2 => ?_) fun D s' ys hD hl hF hK => hQ D s' ys hD hl (ints_of hF) hK
  obtain ⟨t', ht'⟩ := hen m₄ a t u h1 h2
  refine wpAny_tests_one (in_row (hM.keep K) (hin a ha).1 (hin a ha).2 hrs (fun Q hQ => ldCell (env := compEnvC scope cl C env) (hX.keeps K) (hQ _ _) (hkf C) (hkx C) (hcx C)) (fun tk Q hQ => hrA C { s₄ with toks := tk } _ Q (hA.keeps K) hQ)
    (fun tk Q hQ => ldN (env := compEnvC scope cl C env) (s := { s₄ with toks := tk }) hn h2 hQ (hkf C) (hk2 C)) fun tk => ⟨rfl, Keeps.refl' s₄ tk, fun _ => ?_⟩)
  exact ldN (env := compEnvC scope cl C env) (s := { s₄ with toks := tk }) hn ht' ⟨Keeps.refl' { s₄ with toks := tk } _, .inl ⟨t', rfl⟩⟩ (hkf C) (hke C) hde

/-- the nodes that are above one of the pairs' -/
def hasAb (rs : List (Addr × List Int)) (ps : List (Int × Int)) (x : Int) : Bool := !decide (((ps.filter fun a => inAb rs x a.2).map (·.2)) = [])
def nodesOf (rs : List (Addr × List Int)) (ps : List (Int × Int)) : List Nat := (List.range' 1 (rs.length - 1)).filter fun x : Nat => hasAb rs ps (x : Int)

theorem pa_climbed {ab u : Addr} {rs : List (Addr × List Int)} {ps : List (Addr × (Int × Int))} {Q : Flow → Shared → Prop} (hh : A.handled = none) (hu : A.units + 64 < cLine) (G : Gl mg mb s.heap) (hgr : mg "range" = none) (hbr : mb "range" = some (.type "range")) (hgl : mg "len" = none) (hbl : mb "len" = some (.builtin "len"))
    (hM : Mat s.heap ab rs) (hrs : rs.length ≤ 1000) (hrs1 : 1 ≤ rs.length) (hP : Prs s.heap u ps) (hps : ps.length ≤ 1000) (hin : ∀ a ∈ ps.map (·.2), 0 ≤ a.2 ∧ a.2 < (rs.length : Int))
    (hc1 : s.heap.IsCell (L + 1) (some (.ref ab))) (hc3 : s.heap.IsCell (L + 3) (some (.ref u))) (hn : s.heap.Ns L m)
    (h : ∀ s' D, Chg (· = L) s s' → s'.heap.Ns L (fun z => if z = "climbed" then some (.ref D) else m z) → IntL s'.heap D ((nodesOf rs (ps.map (·.2))).map fun n : Nat => (n : Int)) → s.heap.get? D = none → Q .next s') :
    wpAny (model prog w) A (exec (nth paBody 3) (paEnv nm L f cd)) Q E s := by
  obtain ⟨oL, hoL⟩ := ns_live hn
  refine lcx_assign (src := List.range' 1 (rs.length - 1)) (Pv := fun (k : Nat) v => ∃ t, v = .int k t) (cl := [("ups", L + 3), ("above", L + 1)]) (fun x : Nat => hasAb rs (ps.map (·.2)) (x : Int)) (fun k y _ => ∃ t, y = .int (k : Nat) t) (by rfl) (by rfl) (by intro; rfl) rfl (by decide) (by simp; omega) rfl rfl ?_
  refine range2 G hgr hbr (wpAny_Constant_int (len_call (s := { s with toks := _ }) G hgl hbl (ldCell (s := { s with toks := _ }) hc1 ⟨ab, _, rfl, hM.l, by simpa using hrs, fun t tk => ⟨1, rs.length, t, _, rfl, by simp, hrs1, hrs, fun I h' tk' hI hk hIlt hit => ⟨I, m, rfl, lc_range hh hIlt hit, ne_of_get hoL hI, hn.at' fun o e => hk _ o e, ?_, ?_⟩⟩⟩)))
  · rintro C x v s₃ m₃ u' hxm ⟨tv, rfl⟩ hC hC1 hn₃ hu₃ hch E'
    refine wpAny_assign_Name (stCell (env := compEnvX _ _ C _) hu₃ fun h₄ hc₄ hs₄ => ⟨⟨⟨_, hn₃.at' fun o e => hs₄.extBut _ o (Nat.ne_of_lt (Nat.lt_succ_self C)) e⟩, _, hc₄⟩, (Chg.refl _ _).stepH fun b o hb e => hs₄.extBut b o (fun h => hb (.inr h)) e, ?_⟩)
    have K : ∀ b o, s.heap.get? b = some o → h₄.get? b = some o := fun b o e => hs₄.extBut b o (ne_of_get (hk b o e) hC1) (hch.get (ne_of_get e hI) (hk b o e))
    refine wpAny_tests_one (ne_nil (ns := ((ps.map (·.2)).filter fun a => inAb rs x a.2).map (·.2)) hu ?_)
    refine sel_comp (proj := (·.2)) (xx := x) (s := { s₃ with heap := h₄ }) hh rfl (by decide) rfl (by decide) (fun Q hQ => ldCell (env := compEnvX _ _ C _) (s := { s₃ with heap := h₄ }) (hc3.keeps K) hQ) (hP.keep K) hps (fun C => rfl) (fun C => rfl) (by decide) (fun C => rfl) (fun C' s E Q h hq => ldCell (env := compEnvC _ _ C' _) h hq) (fun C => rfl) (fun C => rfl) (fun C => rfl) (by decide) (hc1.keeps K) hc₄ (hM.keep K) hrs hin (fun m₄ a t u h1 h2 => ⟨_, h2⟩) fun D s' ys hD hl hi hK => ?_
    refine ⟨D, ys, rfl, hl, hi, fun s₂ hK2 => ⟨rfl, Keeps.trans' hK hK2, fun _ => ?_⟩⟩
    exact ldCell (env := compEnvX _ _ C _) (hc₄.keeps (Sub.of_keeps (Keeps.trans' hK hK2))) ⟨Keeps.refl' s₂ _, .inl ⟨tv, rfl⟩⟩
  · intro D s' ys hD hl hP hn' hch
    have hfr : ∀ T, h'.get? T = none → s.heap.get? T = none := fun T hT => by
      cases e : s.heap.get? T with
      | none => rfl
      | some o => have := hk T o e; rw [hT] at this; cases this
    refine h s' D ?_ hn' ⟨ys, hl, ints_of hP⟩ (hfr D hD)
    obtain ⟨h9, tk9, rfl, k9⟩ := hch
    exact ⟨h9, _, rfl, fun b o hb e => k9 b o (fun h => h.elim (ne_of_get e hI) hb) (hk b o e)⟩
end
end Mine

end

/- Parts4 -/
section
open PySem PySem.W PyProof.Rows
set_option Elab.async false
namespace Mine
set_option maxRecDepth 10000
section
variable {prog : Program} {w : World} {A : Around} {E : Value → Shared → Prop} {s : Shared} {env : Env} {L f : Addr} {cd : Value} {nm : Str} {m mg mb : Str → Option Value}

theorem pa_walked {ab u : Addr} {rs : List (Addr × List Int)} {ps : List (Addr × (Int × Int))} {Q : Flow → Shared → Prop} (hh : A.handled = none) (hu : A.units + 64 < cLine) (G : Gl mg mb s.heap) (hgr : mg "range" = none) (hbr : mb "range" = some (.type "range")) (hgl : mg "len" = none) (hbl : mb "len" = some (.builtin "len"))
    (hM : Mat s.heap ab rs) (hrs : rs.length ≤ 1000) (hrs1 : 1 ≤ rs.length) (hP : Prs s.heap u ps) (hps : ps.length ≤ 1000) (hin : ∀ a ∈ ps.map (·.2), 0 ≤ a.2 ∧ a.2 < (rs.length : Int))
    (hc1 : s.heap.IsCell (L + 1) (some (.ref ab))) (hc3 : s.heap.IsCell (L + 4) (some (.ref u))) (hn : s.heap.Ns L m)
    (h : ∀ s' D, Chg (· = L) s s' → s'.heap.Ns L (fun z => if z = "walked" then some (.ref D) else m z) → IntL s'.heap D ((nodesOf rs (ps.map (·.2))).map fun n : Nat => (n : Int)) → s.heap.get? D = none → Q .next s') :
    wpAny (model prog w) A (exec (nth paBody 4) (paEnv nm L f cd)) Q E s := by
  obtain ⟨oL, hoL⟩ := ns_live hn
  refine lcx_assign (src := List.range' 1 (rs.length - 1)) (Pv := fun (k : Nat) v => ∃ t, v = .int k t) (cl := [("downs", L + 4), ("above", L + 1)]) (fun x : Nat => hasAb rs (ps.map (·.2)) (x : Int)) (fun k y _ => ∃ t, y = .int (k : Nat) t) (by rfl) (by rfl) (by intro; rfl) rfl (by decide) (by simp; omega) rfl rfl ?_
  refine range2 G hgr hbr (wpAny_Constant_int (len_call (s := { s with toks := _ }) G hgl hbl (ldCell (s := { s with toks := _ }) hc1 ⟨ab, _, rfl, hM.l, by simpa using hrs, fun t tk => ⟨1, rs.length, t, _, rfl, by simp, hrs1, hrs, fun I h' tk' hI hk hIlt hit => ⟨I, m, rfl, lc_range hh hIlt hit, ne_of_get hoL hI, hn.at' fun o e => hk _ o e, ?_, ?_⟩⟩⟩)))
  · rintro C x v s₃ m₃ u' hxm ⟨tv, rfl⟩ hC hC1 hn₃ hu₃ hch E'
    refine wpAny_assign_Name (stCell (env := compEnvX _ _ C _) hu₃ fun h₄ hc₄ hs₄ => ⟨⟨⟨_, hn₃.at' fun o e => hs₄.extBut _ o (Nat.ne_of_lt (Nat.lt_succ_self C)) e⟩, _, hc₄⟩, (Chg.refl _ _).stepH fun b o hb e => hs₄.extBut b o (fun h => hb (.inr h)) e, ?_⟩)
    have K : ∀ b o, s.heap.get? b = some o → h₄.get? b = some o := fun b o e => hs₄.extBut b o (ne_of_get (hk b o e) hC1) (hch.get (ne_of_get e hI) (hk b o e))
    refine wpAny_tests_one (ne_nil (ns := ((ps.map (·.2)).filter fun a => inAb rs x a.2).map (·.2)) hu ?_)
    refine sel_comp (proj := (·.2)) (xx := x) (s := { s₃ with heap := h₄ }) hh rfl (by decide) rfl (by decide) (fun Q hQ => ldCell (env := compEnvX _ _ C _) (s := { s₃ with heap := h₄ }) (hc3.keeps K) hQ) (hP.keep K) hps (fun C => rfl) (fun C => rfl) (by decide) (fun C => rfl) (fun C' s E Q h hq => ldCell (env := compEnvC _ _ C' _) h hq) (fun C => rfl) (fun C => rfl) (fun C => rfl) (by decide) (hc1.keeps K) hc₄ (hM.keep K) hrs hin (fun m₄ a t u h1 h2 => ⟨_, h2⟩) fun D s' ys hD hl hi hK => ?_
    refine ⟨D, ys, rfl, hl, hi, fun s₂ hK2 => ⟨rfl, Keeps.trans' hK hK2, fun _ => ?_⟩⟩
    exact ldCell (env := compEnvX _ _ C _) (hc₄.keeps (Sub.of_keeps (Keeps.trans' hK hK2))) ⟨Keeps.refl' s₂ _, .inl ⟨tv, rfl⟩⟩
  · intro D s' ys hD hl hP hn' hch
    have hfr : ∀ T, h'.get? T = none → s.heap.get? T = none := fun T hT => by
      cases e : s.heap.get? T with
      | none => rfl
      | some o => have := hk T o e; rw [hT] at this; cases this
    refine h s' D ?_ hn' ⟨ys, hl, ints_of hP⟩ (hfr D hD)
    obtain ⟨h9, tk9, rfl, k9⟩ := hch
    exact ⟨h9, _, rfl, fun b o hb e => k9 b o (fun h => h.elim (ne_of_get e hI) hb) (hk b o e)⟩

/-- the pairs with none below them -/
def lowestOf (rs : List (Addr × List Int)) (ps : List (Int × Int)) (q : Int × Int) : Bool := decide (((ps.filter fun a => (a.2 != q.2) && inAb rs q.2 a.2).map (·.2)) = [])

theorem pa_lowest {ab u : Addr} {rs : List (Addr × List Int)} {ps : List (Addr × (Int × Int))} {Q : Flow → Shared → Prop} (hh : A.handled = none) (hu : A.units + 64 < cLine)
    (hM : Mat s.heap ab rs) (hrs : rs.length ≤ 1000) (hP : Prs s.heap u ps) (hps : ps.length ≤ 1000) (hin : ∀ a ∈ ps.map (·.2), 0 ≤ a.2 ∧ a.2 < (rs.length : Int))
    (hc1 : s.heap.IsCell (L + 1) (some (.ref ab))) (hc3 : s.heap.IsCell (L + 3) (some (.ref u))) (hc5 : s.heap.IsCell (L + 5) none)
    (h : ∀ s' D, Chg (· = L + 5) s s' → s'.heap.IsCell (L + 5) (some (.ref D)) → s'.heap.PlainList D ((ps.filter fun q => lowestOf rs (ps.map (·.2)) q.2).map fun p => Value.ref p.1).toArray → s.heap.get? D = none → Q .next s') :
    wpAny (model prog w) A (exec (nth paBody 2) (paEnv nm L f cd)) Q E s := by
  refine wpAny_Assign_Name ?_
  refine lcx_eval (src := ps) (Pv := fun q v => v = .ref q.1) (cl := [("ups", L + 3), ("above", L + 1)]) (fun q => lowestOf rs (ps.map (·.2)) q.2) (fun q y _ => y = .ref q.1) (by rfl) (by intro; rfl) rfl (by decide) hps ?_
  refine ldCell hc3 (wpAny_pyIter_list hP.l.isList ⟨_, rfl, lc_list hh hP.l.isList (paired_self _ _) _ rfl, ?_, ?_⟩)
  · rintro C q v s₃ m₃ u' hq rfl hC hC1 hn₃ hu₃ hch E'
    refine wpAny_assign_Name (stCell (env := compEnvX _ _ C _) hu₃ fun h₄ hc₄ hs₄ => ⟨⟨⟨_, hn₃.at' fun o e => hs₄.extBut _ o (Nat.ne_of_lt (Nat.lt_succ_self C)) e⟩, _, hc₄⟩, (Chg.refl _ _).stepH fun b o hb e => hs₄.extBut b o (fun h => hb (.inr h)) e, ?_⟩)
    have K : ∀ b o, s.heap.get? b = some o → h₄.get? b = some o := fun b o e => hs₄.extBut b o (ne_of_get (Heap.get?_push_of_some _ e) hC1) (hch.get (ne_of_get e (get_size _)) (Heap.get?_push_of_some _ e))
    obtain ⟨T, o, e, t1, t2, eT, ho, hoc, hod⟩ := hP.t q hq
    cases eT
    refine wpAny_tests_one (eq_nil (ns := ((ps.map (·.2)).filter fun a => (a.2 != q.2.2) && inAb rs q.2.2 a.2).map (·.2)) hu ?_)
    refine lcp (s := { s₃ with heap := h₄ }) (ps := ps) (u := u) (fun a => (a.2 != q.2.2) && inAb rs q.2.2 a.2) (fun a y _ => ∃ t, y = .int a.2 t) hh rfl (by decide) rfl (by decide) (fun Q hQ => ldCell (env := compEnvX _ _ C _) (s := { s₃ with heap := h₄ }) (hc3.keeps K) hQ) (hP.keep K) hps (fun C => rfl) (fun C => rfl) (by decide) (fun C => rfl) (fun C' a s₅ m₅ t u E'' ha hC' K5 hn5 h1 h2 => ?_) fun D s' ys hD hl hF hK => ?_
    · have hT5 : IsTup s₅.heap q.1 #[.int q.2.1 t1, .int q.2.2 t2] := ⟨o, K5 _ _ (K _ _ ho), hoc, e, hod⟩
      have hpair : ∀ tk, ∀ E (Q : Value → Shared → Prop), (∀ t tk, Q (.int q.2.2 t) { s₅ with toks := tk }) → ∀ {p1 p2 p3 : Pos}, wpAny (model prog w) A (eval (.Subscript (.Name "pair" p1) (.Constant (.int 1) 0 p2) p3) (compEnvC _ _ C' (compEnvX _ _ C (paEnv nm L f cd)))) Q E { s₅ with toks := tk } := fun tk E Q hQ p1 p2 p3 =>
        Subscript_ (ldCell (env := compEnvC { kind := ScopeKind.function, names := [(".0", .local), ("_", .local), ("k", .local), ("above", .free), ("pair", .free)], isGenerator := false, isCoroutine := false, more := [] } [("pair", C + 1), ("above", L + 1)] C' (compEnvX { kind := ScopeKind.function, names := [(".0", .local), ("pair", .cell), ("above", .free), ("ups", .free)], isGenerator := false, isCoroutine := false, more := [] } [("ups", L + 3), ("above", L + 1)] C (paEnv nm L f cd))) (s := { s₅ with toks := tk }) (hc₄.keeps K5) (wpAny_Constant_int
          (item_tupleT (l := [.int q.2.1 t1, .int q.2.2 t2]) (s := { s₅ with toks := _ }) hT5 (by decide) (by decide) (j := 1) rfl rfl (hQ t2 _))))
      refine wpAny_tests_one (wpAny_isTrue_BoolOp (wpAny_allTrue_And_cons (wpAny_isTrue_Compare1 (ldN (env := compEnvC _ _ C' _) hn5 h2 (hpair s₅.toks _ _ fun t tk => ne_int (wpAny_truthy_bool ?_))))))
      by_cases hne : a.2 = q.2.2
      · have e1 : (a.2 != q.2.2) = false := by simpa using hne
        rw [e1]
        exact ⟨rfl, Keeps.refl' s₅ tk, fun h => by cases h⟩
      · have e1 : (a.2 != q.2.2) = true := by simpa using hne
        rw [e1]
        simp only [if_true]
        refine wpAny_allTrue_And_cons (in_row (s := { s₅ with toks := tk }) (rs := rs) ((hM.keep K).keep K5) (hin a ha).1 (hin a ha).2 hrs (fun Q hQ => hpair tk _ _ fun t tk => hQ t tk) (fun tk Q hQ => ldCell (env := compEnvC _ _ C' _) (s := { s₅ with toks := tk }) (hc1.keeps fun b o e => K5 b o (K b o e)) hQ)
          (fun tk Q hQ => ldN (env := compEnvC _ _ C' _) (s := { s₅ with toks := tk }) hn5 h2 hQ) fun tk => ?_)
        cases hb : inAb rs q.2.2 a.2 with
        | false => exact ⟨rfl, Keeps.refl' s₅ tk, fun h => by cases h⟩
        | true => exact wpAny_allTrue_And_nil ⟨rfl, Keeps.refl' s₅ tk, fun _ => ldN (env := compEnvC _ _ C' _) (s := { s₅ with toks := tk }) hn5 h2 ⟨Keeps.refl' { s₅ with toks := tk } _, .inl ⟨_, rfl⟩⟩⟩
    · refine ⟨D, ys, rfl, hl, ints_of hF, fun s₂ hK2 => ⟨rfl, Keeps.trans' hK hK2, fun _ => ?_⟩⟩
      exact ldCell (env := compEnvX _ _ C _) (hc₄.keeps (Sub.of_keeps (Keeps.trans' hK hK2))) ⟨Keeps.refl' s₂ _, .inl rfl⟩
  · intro D s' ys hD hl hF hch
    have hys : ys = (ps.filter fun q => lowestOf rs (ps.map (·.2)) q.2).map fun p => Value.ref p.1 := by
      clear hl
      generalize (ps.filter fun q => lowestOf rs (ps.map (·.2)) q.2) = l at hF
      induction hF with
      | nil => rfl
      | cons h1 _ ih =>
        have : _ = Value.ref _ := h1.elim id fun ⟨_, _, _, _, _, h⟩ => h
        rw [this, ih]; rfl
    subst hys
    have hD' : s.heap.get? D = none := by
      cases e : s.heap.get? D with
      | none => rfl
      | some o => have := Heap.get?_push_of_some { cls := .type "list_iterator", data := .fields #[.ref u, .int 0 0] } e; rw [hD] at this; cases this
    have hK : ∀ b o, s.heap.get? b = some o → s'.heap.get? b = some o := fun b o e => hch.get (ne_of_get e (get_size _)) (Heap.get?_push_of_some _ e)
    obtain ⟨oi, hoi, hdi⟩ := hc5
    refine stCell (env := paEnv nm L f cd) ⟨oi, hK _ _ hoi, hdi⟩ (fun h'' hcell hs'' => ?_)
    refine h _ D ?_ hcell (hl.at fun o e => hs''.extBut _ o (Ne.symm (ne_of_get hoi hD')) e) hD'
    obtain ⟨h9, tk9, rfl, k9⟩ := hch
    exact ⟨h'', _, rfl, fun b o hb e => hs''.extBut b o hb (hK b o e)⟩
end
end Mine

end

/- Parts5 -/
section
open PySem PySem.W PyProof.Rows
set_option Elab.async false
namespace Mine
set_option maxRecDepth 10000

theorem items_of {vs : List Value} {ns : List Int} (h : IntsAre vs ns) : ∃ xs : Array (Int × Tok), intItems xs = vs.toArray ∧ xs.size = ns.length ∧ ∀ i, numAt xs i = ns.getD i 0 := by
  have key : ∃ l : List (Int × Tok), l.map (fun p => Value.int p.1 p.2) = vs ∧ l.map (·.1) = ns := by
    induction h with
    | nil => exact ⟨[], rfl, rfl⟩
    | cons n t _ ih => obtain ⟨l, h1, h2⟩ := ih; exact ⟨(n, t) :: l, by simp [h1], by simp [h2]⟩
  obtain ⟨l, rfl, rfl⟩ := key
  refine ⟨l.toArray, by simp [intItems], by simp, fun i => ?_⟩
  simp [numAt, List.getD]

section
variable {prog : Program} {w : World} {A : Around} {E : Value → Shared → Prop} {s : Shared}
theorem max_ints {l : Addr} {vs : List Value} {ns : List Int} {Q : Value → Shared → Prop} (hh : A.handled = none) (hl : s.heap.IsList l vs.toArray) (hi : IntsAre vs ns) (hne : ns ≠ [])
    (h : ∀ M t s', M ∈ ns → (∀ a ∈ ns, a ≤ M) → Keeps s s' → Q (.int M t) s') : wpAny (model prog w) A (call (.builtin "max") [.ref l]) Q E s := by
  obtain ⟨xs, e1, e2, e3⟩ := items_of hi
  have hpos : 0 < ns.length := List.length_pos_iff.mpr hne
  rw [← e1] at hl
  refine max_intList hh hl (by omega) fun v h' tk hv hk => ?_
  obtain ⟨t, rfl⟩ := intItems_at hv
  obtain ⟨b1, b2⟩ := argBest_gt (numAt xs) (xs.size - 1)
  refine h _ t _ ?_ (fun a ha => ?_) ⟨h', tk, rfl, hk⟩
  · rw [e3, List.getD, List.getElem?_eq_getElem (by omega)]
    exact List.getElem_mem _
  · obtain ⟨i, hi, rfl⟩ := List.mem_iff_getElem.mp ha
    have := b2 i (by omega)
    rw [e3 i, List.getD, List.getElem?_eq_getElem hi] at this
    exact this
theorem min_ints {l : Addr} {vs : List Value} {ns : List Int} {Q : Value → Shared → Prop} (hh : A.handled = none) (hl : s.heap.IsList l vs.toArray) (hi : IntsAre vs ns) (hne : ns ≠ [])
    (h : ∀ M t s', M ∈ ns → (∀ a ∈ ns, M ≤ a) → Keeps s s' → Q (.int M t) s') : wpAny (model prog w) A (call (.builtin "min") [.ref l]) Q E s := by
  obtain ⟨xs, e1, e2, e3⟩ := items_of hi
  have hpos : 0 < ns.length := List.length_pos_iff.mpr hne
  rw [← e1] at hl
  refine min_intList hh hl (by omega) fun v h' tk hv hk => ?_
  obtain ⟨t, rfl⟩ := intItems_at hv
  obtain ⟨b1, b2⟩ := argBest_lt (numAt xs) (xs.size - 1)
  refine h _ t _ ?_ (fun a ha => ?_) ⟨h', tk, rfl, hk⟩
  · rw [e3, List.getD, List.getElem?_eq_getElem (by omega)]
    exact List.getElem_mem _
  · obtain ⟨i, hi, rfl⟩ := List.mem_iff_getElem.mp ha
    have := b2 i (by omega)
    rw [e3 i, List.getD, List.getElem?_eq_getElem hi] at this
    exact this
end

/-- the block of a lambda that has a cell -/
abbrev lamEnv (qual : Str) (scope : Scope) (cl : List (Str × Addr)) (C f : Addr) (cdv : Value) : Env := newEnv scope C mainGlobals (cellsFrom (C + 1) scope.names cl) (qual ++ ".<locals>.") (some f) cdv none builtinsNs

section
variable {prog : Program} {w : World} {A : Around} {E : Value → Shared → Prop} {s : Shared}
theorem newEnv_cell1 {scope : Scope} {closure : List (Str × Addr)} {qual x : Str} {v : Value} {func : Addr} {code : Value} {Q : Env → Shared → Prop}
    (hone : ∀ h, pushCells h scope.names = h.push { cls := .type "cell", data := .cell none }) (hk : scope.kind = .function) (hx : scope.names.lookup x = some .cell) (hcx : ∀ C, (cellsFrom (C + 1) scope.names closure).lookup x = some (C + 1))
    (hQ : ∀ C h₁, s.heap.get? C = none → s.heap.get? (C + 1) = none → Sub s.heap h₁ → h₁.Ns C (fun _ => none) → h₁.IsCell (C + 1) (some v) → Q (lamEnv qual scope closure C func code) { s with heap := h₁ }) :
    wpAny (model prog w) A (newFunctionEnv scope mainGlobals closure [(x, v)] (qual ++ ".<locals>.") (some func) code none builtinsNs) Q E s := by
  have sz : ∀ o : Obj, (s.heap.push o).objs.size = s.heap.objs.size + 1 := fun o => Heap.size_push ..
  have new1 : s.heap.get? (s.heap.objs.size + 1) = none := get_ge (Nat.le_succ _)
  unfold newFunctionEnv
  refine wpAny_bind (wpAny_alloc (wpAny_bind (wpAny_layCells _ (fun _ _ _ => rfl) _ _ _ _ ?_)))
  dsimp only
  rw [hone, sz, List.forIn_cons]
  generalize hG : s.heap.push _ = G
  have names : G.Ns s.heap.objs.size fun _ => none := hG ▸ Heap.Ns.new s.heap _
  have old : Sub s.heap (G.push { cls := .type "cell", data := .cell none }) := fun b o e => Heap.get?_push_of_some _ (hG ▸ Heap.get?_push_of_some _ e)
  have cell : (G.push { cls := .type "cell", data := .cell none }).get? (s.heap.objs.size + 1) = some { cls := .type "cell", data := .cell none } := by
    rw [← sz, hG]; exact Heap.get?_push_size _ rfl
  refine wpAny_bind (wpAny_bind (wpAny_bind (stCell (env := lamEnv qual scope closure s.heap.objs.size func code) (s := { s with heap := G.push { cls := .type "cell", data := .cell none } }) ⟨_, cell, rfl⟩ (fun h₁ c₁ sb => wpAny_pure ?_) hk hx (hcx _))))
  dsimp only
  rw [List.forIn_nil]
  exact wpAny_pure (wpAny_pure (hQ _ h₁ (get_size _) new1 (fun b o e => sb.extBut b o (ne_of_get e new1) (old b o e)) ((names.push _).sameBut sb (Nat.ne_of_lt (Nat.lt_succ_self _))) c₁))

theorem lam_call {name qual : Str} {params : Arguments} {body : Expr} {scope : Scope} {clos : List (Str × Addr)} {pm ctv : Value} {c' fq : Addr} {x : Str} {v : Value} {Q : Value → Shared → Prop} (hroom : A.depth < recursionLimit)
    (ho : s.heap.get? fq = some (kla_obj name qual params body scope clos pm c' ctv)) (hcd : s.heap.CodeRec (.ref c') qual) (hlim : s.heap.NoLimit)
    (hbind : bindArgs (kla_fn name qual params body scope clos pm (.ref c') ctv) ⟨[v], []⟩ = pure [(x, v)])
    (hone : ∀ h, pushCells h scope.names = h.push { cls := .type "cell", data := .cell none }) (hx : scope.names.lookup x = some .cell) (hcx : ∀ C, (cellsFrom (C + 1) scope.names clos).lookup x = some (C + 1))
    (h : ∀ C h₁, s.heap.get? C = none → s.heap.get? (C + 1) = none → Sub s.heap h₁ → h₁.Ns C (fun _ => none) → h₁.IsCell (C + 1) (some v) →
      wpAny (model prog w) (A.deeper (lamEnv qual scope clos C fq (.ref c'))) (eval body (lamEnv qual scope clos C fq (.ref c'))) Q (fun _ _ => False) { s with heap := h₁ })
    (hco : scope.isCoroutine = false := by rfl) (hgen : scope.isGenerator = false := by rfl) (hk : scope.kind = .function := by rfl) :
    wpAny (model prog w) A (call (.ref fq) [v]) Q E s := by
  refine wpAny_call (kla_callFunE hroom ho rfl hco hgen rfl hcd ?_)
  rw [hbind]
  refine wpAny_pure (newEnv_cell1 hone hk hx hcx fun C h₁ hC hC1 K hn hc => ⟨hlim.keeps K, ?_⟩)
  exact kla_codeExpr (wpAny_mono (h C h₁ hC hC1 K hn hc) (fun _ _ h => h) fun _ _ h => h.elim)

/-- a.sort(key=..) -/
theorem sort_stmt {env : Env} {pl : Sem Bool} {x : Str} {lam : Expr} {p1 p2 p3 p4 p5 : Pos} {a : Addr} {vs : List Value} {key : Nat → Int × Int} {code : Nat → Int} {Q : Flow → Shared → Prop}
    (hx : ∀ Q : Value → Shared → Prop, Q (.ref a) s → wpAny (model prog w) A (eval (.Name x p1) env) Q E s) (hl : s.heap.PlainList a vs.toArray) (h64 : vs.length < 64)
    (hlam : wpAny (model prog w) A (eval lam env) (fun fv s₁ => ∃ fq, fv = .ref fq ∧ s₁.heap.PlainList a vs.toArray ∧
      (∀ i v s', vs[i]? = some v → Chg (· = a) s₁ s' → wpAny (model prog w) A.in1 (call (.ref fq) [v]) (fun y s'' => Keeps s' s'' ∧ (∃ T, y = .ref T ∧ s'.heap.get? T = none) ∧ Tup2 s''.heap y (key i)) (fun _ _ => False) s') ∧
      (∀ s' p, IsP vs.length p → Up code p vs.length → Chg (· = a) s₁ s' → s'.heap.PlainList a (p.toList.map fun i => vs.getD i Value.none).toArray → Q .next s')) E s)
    (hlex : ∀ i j, i < vs.length → j < vs.length → (((key i).1 < (key j).1 ∨ ((key i).1 = (key j).1 ∧ (key i).2 < (key j).2)) ↔ code i < code j)) (hinj : ∀ i j, i < vs.length → j < vs.length → code i = code j → i = j)
    (he : eval (.Call (.Attribute (.Name x p1) "sort" p2) [] [⟨some "key", lam, p3⟩] p4) env = (do
      let ov ← eval (.Name x p1) env
      standAt p2.atName
      let (f, first) ← holding [ov] (getMethod ov "sort" pl)
      callWith p4 f first (backTo p4 (starEach [] env)) (backToKw p4 (keywordEach [⟨some "key", lam, p3⟩] env))))
    (hi : interactive env = false := by rfl) :
    wpAny (model prog w) A (exec (.Expr (.Call (.Attribute (.Name x p1) "sort" p2) [] [⟨some "key", lam, p3⟩] p4) p5) env) Q E s := by
  refine wpAny_Expr (methodCall_KW (pl := pl) (hx _ ?_) he) hi
  obtain ⟨n, ho⟩ := id hl
  refine getMethod_builtin (T := "list") (Heap.IsList.typeIs hl.isList) F.plainAttrs_list F.slot_list_sort F.type_list_sort (fun b hb => by cases hb; exact ⟨_, ho, rfl⟩) ?_
  refine callWith_builtin_kwB rfl rfl (evalArgs_kw2_nil rfl (kws_cons (wpAny_mono hlam (fun fv s₁ h₁ => kws_nil ?_) fun _ _ e => e)))
  obtain ⟨fq, rfl, hl₁, hturn, hQ⟩ := h₁
  refine wpAny_call_entry_kw (T := "list") (name := "sort") slot_list_sort (Heap.IsList.typeIs hl₁.isList) entry_list_sort ?_ (ksk_l1 _ _)
  show wpAny _ _ (Builtin.«list.sort» ⟨[.ref a], [(Str.ofString "key", .ref fq)]⟩) _ _ _
  rw [ksk_t1]
  exact sort_tree hl₁ h64 hturn hlex hinj fun s' p hp hu hC hl' => ⟨_, rfl, hQ s' p hp hu hC hl'⟩
end
end Mine

end

/- Parts6 -/
section
open PySem PySem.W PyProof.Rows
set_option Elab.async false
namespace Mine
set_option maxRecDepth 10000

/-- what stays as it is: names, codes, limits -/
structure Stat (mg mb : Str → Option Value) (g : Heap) : Prop where
  gl : Gl mg mb g
  lim : g.NoLimit
  bm : ∃ bm ob, mg "__builtins__" = some (.ref bm) ∧ bm ≠ builtinsNs ∧ g.get? bm = some ob ∧ ob.cls = .type "module" ∧ ob.dict = some builtinsNs ∧ ob.data = .plain
theorem Stat.keep {mg mb : Str → Option Value} {g h : Heap} (x : Stat mg mb g) (k : Sub g h) : Stat mg mb h :=
  ⟨x.gl.keeps k, x.lim.keeps k, let ⟨bm, ob, a, b, c, d⟩ := x.bm; ⟨bm, ob, a, b, k _ _ c, d⟩⟩
theorem Stat.at {mg mb : Str → Option Value} {g h : Heap} {P : Addr} (x : Stat mg mb g) (k : Sub g h) (hP : g.get? P = none) : h.BuiltinsAt mg P := by
  obtain ⟨bm, ob, b1, b2, b3, b4, b5, b6⟩ := x.bm
  refine ⟨bm, ob, b1, b2, fun q => ?_, ne_of_get b3 hP, k _ _ b3, b4, b5, b6⟩
  obtain ⟨o, es, ep, e, hd, _⟩ := x.gl.g
  rw [q, e] at b3; cases b3; rw [hd] at b6; cases b6

theorem sort_out {vs : List Value} {ns : List Int} {kc : Int → Int} {p : Array Nat} (hi : IntsAre vs ns) (hp : IsP vs.length p) (hu : Up (fun i => kc (ns.getD i 0)) p vs.length) :
    ∃ ns', IntsAre (p.toList.map fun i => vs.getD i Value.none) ns' ∧ ns'.Perm ns ∧ ns'.Pairwise fun a b => kc a < kc b := by
  have hlen := hi.length
  refine ⟨p.toList.map fun i => ns.getD i 0, ?_, ?_, ?_⟩
  · have hall : ∀ i ∈ p.toList, i < vs.length := fun i hm => by
      have h2 : i ∈ (List.range vs.length) := by
        have := (Array.Perm.mem_iff hp (a := i)).mp (by simpa using hm)
        simpa using this
      simpa using h2
    have at_ : ∀ i, i < vs.length → ∃ t, vs.getD i Value.none = .int (ns.getD i 0) t := by
      clear hall hu hp hlen
      induction hi with
      | nil => intro i h; simp at h
      | cons n t _ ih =>
        intro i h
        cases i with
        | zero => exact ⟨t, by simp⟩
        | succ i => obtain ⟨t', e⟩ := ih i (by simpa using h); exact ⟨t', by simpa using e⟩
    generalize p.toList = l at hall
    clear hu hp
    induction l with
    | nil => exact .nil
    | cons i l ih =>
      obtain ⟨t, e⟩ := at_ i (hall i List.mem_cons_self)
      rw [List.map_cons, List.map_cons, e]
      exact .cons _ t (ih fun j hj => hall j (List.mem_cons_of_mem _ hj))
  · have h1 : p.toList.Perm (List.range vs.length) := by
      have := Array.perm_iff_toList_perm.mp hp
      simpa using this
    refine (h1.map _).trans ?_
    rw [hlen]
    have e : (List.range ns.length).map (fun i => ns.getD i 0) = ns := by
      apply List.ext_getElem?
      intro i
      by_cases h : i < ns.length
      · simp [h]
      · rw [List.getElem?_eq_none (by simp; omega), List.getElem?_eq_none (by omega)]
    rw [e]
  · rw [List.pairwise_iff_getElem]
    intro i j hi' hj' hij
    have hsz := hp.size
    simp only [List.length_map, Array.length_toList] at hi' hj'
    have := hu i j hij (by omega)
    simp only [KP] at this
    simp only [List.getElem_map, Array.getElem_toList]
    rw [show p.getD i 0 = p[i] by simp [Array.getD, hi'], show p.getD j 0 = p[j] by simp [Array.getD, hj']] at this
    exact this

section
variable {prog : Program} {w : World} {A : Around} {E : Value → Shared → Prop} {s : Shared} {env : Env} {mg mb : Str → Option Value}

/-- f(e), f a built-in -/
theorem call1 {fn : Str} {id : String} {p pos : Pos} {e : Expr} {Q : Value → Shared → Prop} (G : Gl mg mb s.heap) (hg : mg fn = none) (hb : mb fn = some (.builtin id))
    (h : wpAny (model prog w) A (eval e env) (fun v s₁ => wpAny (model prog w) A (call (.builtin id) [v]) Q E s₁) E s)
    (hse : backTo pos (starEach [e] env) = [(false, eval e env)] := by rfl)
    (hk : env.scope.kind = .function := by rfl) (hx : env.kindOf fn = some .globalImplicit := by rfl) (heg : env.globals = mainGlobals := by rfl) (heb : env.builtins = builtinsNs := by rfl) (hd : (fn == ("__debug__" : Str)) = false := by decide) :
    wpAny (model prog w) A (eval (.Call (.Name fn p) [e] [] pos) env) Q E s := by
  refine wpAny_Call_NameR (ldB G hg hb ?_ hk hx heg heb hd)
  rw [hse]
  exact Calls.callWith_builtin rfl (Calls.evalArgs_plain (Calls.spliced_cons (wpAny_mono h (fun v s₁ h₁ => Calls.spliced_nil h₁) fun _ _ e => e)))

theorem sort_lam {pl : Sem Bool} {x : Str} {params : Arguments} {body : Expr} {scope : Scope} {p1 p2 p3 p4 p5 lpos : Pos} {clos : List (Str × Addr)} {D P c : Addr} {tbs : Array Value} {ns : List Int} {kf : Int → Int × Int} {kc : Int → Int} {g : Heap} {Q : Flow → Shared → Prop}
    (hx : ∀ Q : Value → Shared → Prop, Q (.ref D) s → wpAny (model prog w) A (eval (.Name x p1) env) Q E s) (hD : IntL s.heap D ns) (h64 : ns.length < 64)
    (hdef : defaultsOf params env = ([], [])) (hcl : closureFor scope env = pure clos) (hge : env.globals = mainGlobals) (hcode : env.code = .ref c)
    (SG : Sub g s.heap) (S : Stat mg mb g) (hC : CodeHd g c P) (hgP : g.get? P = none) (hgD : g.get? D = none) (hPD : D ≠ P)
    (hP : s.heap.get? P = some (tabObj tbs)) (ht : TriplesOk tbs.toList) (hnf : codeAmong lpos tbs.toList = none) (hroom : A.depth < recursionLimit)
    (hbind : ∀ pm c' ctv v, bindArgs (kla_fn "<lambda>" (env.qual ++ "<lambda>") params body scope clos pm (.ref c') ctv) ⟨[v], []⟩ = pure [(("x" : Str), v)])
    (hone : ∀ h, pushCells h scope.names = h.push { cls := .type "cell", data := .cell none }) (hxc : scope.names.lookup ("x" : Str) = some .cell) (hcx : ∀ C, (cellsFrom (C + 1) scope.names clos).lookup ("x" : Str) = some (C + 1))
    (hco : scope.isCoroutine = false) (hgen : scope.isGenerator = false) (hk : scope.kind = .function)
    (hbody : ∀ n t C fq c' s' h₁, n ∈ ns → Chg (fun b => b = P ∨ b = D) s s' → s'.heap.get? C = none → s'.heap.get? (C + 1) = none → Sub s'.heap h₁ → h₁.Ns C (fun _ => none) → h₁.IsCell (C + 1) (some (.int n t)) →
      wpAny (model prog w) (A.in1.deeper (lamEnv (env.qual ++ "<lambda>") scope clos C fq (.ref c'))) (eval body (lamEnv (env.qual ++ "<lambda>") scope clos C fq (.ref c')))
        (fun y s'' => Keeps { s' with heap := h₁ } s'' ∧ (∃ T, y = .ref T ∧ h₁.get? T = none) ∧ Tup2 s''.heap y (kf n)) (fun _ _ => False) { s' with heap := h₁ })
    (hkc : ∀ a ∈ ns, ∀ b ∈ ns, (((kf a).1 < (kf b).1 ∨ ((kf a).1 = (kf b).1 ∧ (kf a).2 < (kf b).2)) ↔ kc a < kc b)) (hinj : ∀ a ∈ ns, ∀ b ∈ ns, kc a = kc b → a = b) (hnd : ns.Nodup)
    (hQ : ∀ s' ns' c', Chg (fun b => b = P ∨ b = D) s s' → IntL s'.heap D ns' → ns'.Perm ns → ns'.Pairwise (fun a b => kc a < kc b) → s'.heap.get? P = some (tabObj (tbs ++ #[rawInt lpos.line, rawInt lpos.col, .ref c'])) → Q .next s')
    (he : eval (.Call (.Attribute (.Name x p1) "sort" p2) [] [⟨some "key", .Lambda params body scope lpos, p3⟩] p4) env = (do
      let ov ← eval (.Name x p1) env
      standAt p2.atName
      let (f, first) ← holding [ov] (getMethod ov "sort" pl)
      callWith p4 f first (backTo p4 (starEach [] env)) (backToKw p4 (keywordEach [⟨some "key", .Lambda params body scope lpos, p3⟩] env))))
    (hi : interactive env = false) :
    wpAny (model prog w) A (exec (.Expr (.Call (.Attribute (.Name x p1) "sort" p2) [] [⟨some "key", .Lambda params body scope lpos, p3⟩] p4) p5) env) Q E s := by
  obtain ⟨vs, hl, hvi⟩ := hD
  have hlen := hvi.length
  have hmem : ∀ i, i < vs.length → ns.getD i 0 ∈ ns := fun i hi => by
    rw [List.getD, List.getElem?_eq_getElem (by omega)]; exact List.getElem_mem _
  have hgne : mainGlobals ≠ P := by obtain ⟨o, e⟩ := ns_live S.gl.g; exact ne_of_get e hgP
  refine sort_stmt (key := fun i => kf (ns.getD i 0)) (code := fun i => kc (ns.getD i 0)) hx hl (by omega) ?_ (fun i j hi hj => hkc _ (hmem i hi) _ (hmem j hj)) (fun i j hi hj h => ?_) he hi
  · refine kla_eval hdef (kla_makeFunction (mg := mg) hcl hge (S.gl.g.keeps SG) hcode (hC.keeps SG) hP ht hnf hgne (S.at SG hgP) fun c' ctv h' tk hex hge' hlt hrec htb => ?_)
    have kp : ∀ b o, b ≠ P → s.heap.get? b = some o → (h'.push (kla_obj "<lambda>" (env.qual ++ "<lambda>") params body scope clos ((mg "__name__").getD .none) c' ctv)).get? b = some o := fun b o hb e => Heap.get?_push_of_some _ (hex b o hb e)
    have Cs : ∀ tk, Chg (fun b => b = P ∨ b = D) s { s with heap := h'.push (kla_obj "<lambda>" (env.qual ++ "<lambda>") params body scope clos ((mg "__name__").getD .none) c' ctv), toks := tk } := fun tk => ⟨_, tk, rfl, fun b o hb e => kp b o (fun h => hb (.inl h)) e⟩
    have hfqD : h'.objs.size ≠ D := by
      obtain ⟨n, e⟩ := hl
      exact Ne.symm (ne_of_get (hex _ _ hPD e) (get_size _))
    refine ⟨_, rfl, hl.at fun o e => kp D o hPD e, fun i v s' hv hch => ?_, fun s' p hp hu hch hl' => ?_⟩
    · obtain ⟨t, rfl⟩ : ∃ t, v = Value.int (ns.getD i 0) t := by
        have : ∀ {vs : List Value} {ns : List Int}, IntsAre vs ns → ∀ i v, vs[i]? = some v → ∃ t, v = Value.int (ns.getD i 0) t := by
          intro vs ns h
          induction h with
          | nil => intro i v h; simp at h
          | cons n t _ ih =>
            intro i v h
            cases i with
            | zero => simp at h; exact ⟨t, by rw [← h]; simp⟩
            | succ i => obtain ⟨t', e⟩ := ih i v (by simpa using h); exact ⟨t', by simpa using e⟩
        exact this hvi i v hv
      have hi' : i < vs.length := (List.getElem?_eq_some_iff.mp hv).1
      have hC' : Chg (fun b => b = P ∨ b = D) s s' := (Cs _).trans (hch.mono fun b o _ h => .inr h)
      have SG' : Sub g s'.heap := fun b o e => hC'.get (fun h => h.elim (ne_of_get e hgP) (ne_of_get e hgD)) (SG b o e)
      have ho' : s'.heap.get? h'.objs.size = some (kla_obj "<lambda>" (env.qual ++ "<lambda>") params body scope clos ((mg "__name__").getD .none) c' ctv) := hch.get hfqD (Heap.get?_push_size _ rfl)
      have hrec' : s'.heap.CodeRec (.ref c') (env.qual ++ "<lambda>") := by
        obtain ⟨c2, oc, ovs, tq, e2, hoc, hd, hq⟩ := hrec
        cases e2
        refine ⟨c', oc, ovs, tq, rfl, hch.get (fun h => ?_) (Heap.get?_push_of_some _ hoc), hd, hq⟩
        obtain ⟨n, e⟩ := hl
        have := hex _ _ hPD e
        rw [← h, hoc] at this
        cases this
        cases hd
      refine lam_call (A := A.in1) hroom ho' hrec' (S.lim.keeps SG') (hbind _ _ _ _) hone hxc hcx (fun C h₁ hC0 hC1 K hn hc => ?_) hco hgen hk
      refine wpAny_mono (hbody (ns.getD i 0) t C _ c' s' h₁ (hmem i hi') hC' hC0 hC1 K hn hc) (fun y s'' ⟨k1, ⟨T, eT, hT⟩, k3⟩ => ⟨?_, ⟨T, eT, ?_⟩, k3⟩) fun _ _ h => h
      · exact Keeps.trans' (s' := { s' with heap := h₁ }) ⟨h₁, s'.toks, rfl, K⟩ k1
      · cases e : s'.heap.get? T with
        | none => rfl
        | some o => rw [K T o e] at hT; cases hT
    · obtain ⟨ns', h1, h2, h3⟩ := sort_out hvi hp hu
      refine hQ s' ns' c' ((Cs _).trans (hch.mono fun b o _ h => .inr h)) ⟨_, hl', h1⟩ h2 h3 (hch.get (Ne.symm hPD) (Heap.get?_push_of_some _ htb))
  · have h1 := hinj _ (hmem i hi) _ (hmem j hj) h
    rw [List.getD, List.getD, List.getElem?_eq_getElem (by omega), List.getElem?_eq_getElem (by omega)] at h1
    exact (List.getElem_inj hnd).mp h1
end
end Mine

end

/- Parts7 -/
section
open PySem PySem.W PyProof.Rows
set_option Elab.async false
namespace Mine
set_option maxRecDepth 10000

theorem fresh_size {h h' : Heap} (K : Sub h h') : h.get? h'.objs.size = none := by
  cases e : h.get? h'.objs.size with
  | none => rfl
  | some o => have := K _ _ e; rw [get_size] at this; cases this

/-- the built-in names that the law reads -/
structure Bi (mg mb : Str → Option Value) : Prop where
  rangeG : mg "range" = none
  rangeB : mb "range" = some (.type "range")
  lenG : mg "len" = none
  lenB : mb "len" = some (.builtin "len")
  maxG : mg "max" = none
  maxB : mb "max" = some (.builtin "max")
  minG : mg "min" = none
  minB : mb "min" = some (.builtin "min")

abbrev placesOf (rs : List (Addr × List Int)) (ps : List (Int × Int)) (x : Int) : List Int := (ps.filter fun a => inAb rs x a.2).map (·.1)
theorem hasAb_places {rs : List (Addr × List Int)} {ps : List (Int × Int)} {x : Int} : hasAb rs ps x = true ↔ placesOf rs ps x ≠ [] := by
  simp only [hasAb, placesOf, Bool.not_eq_true', decide_eq_false_iff_not, ne_eq, List.map_eq_nil_iff]

section
variable {prog : Program} {w : World} {A : Around} {E : Value → Shared → Prop} {s : Shared} {L f c P : Addr} {nm : Str} {m mg mb : Str → Option Value} {g : Heap} {tbs : Array Value}

theorem pa_sortC {D ab u : Addr} {rs : List (Addr × List Int)} {ps : List (Addr × (Int × Int))} {ns : List Int} {mx kc : Int → Int} {Q : Flow → Shared → Prop} (hh : A.handled = none) (B : Bi mg mb)
    (hn : s.heap.Ns L m) (hm : m "climbed" = some (.ref D)) (hD : IntL s.heap D ns) (h64 : ns.length < 64)
    (SG : Sub g s.heap) (S : Stat mg mb g) (hC : CodeHd g c P) (hgP : g.get? P = none) (hgD : g.get? D = none) (hPD : D ≠ P)
    (hP : s.heap.get? P = some (tabObj tbs)) (ht : TriplesOk tbs.toList) (hnf : codeAmong ⟨53, 21, 53, 101⟩ tbs.toList = none) (hroom : A.depth < recursionLimit)
    (hM : Mat g ab rs) (hrs : rs.length ≤ 1000) (hrl : ∀ r ∈ rs, r.2.length ≤ 1000)
    (hc1 : s.heap.IsCell (L + 1) (some (.ref ab))) (hc1P : ¬ (L + 1 = P ∨ L + 1 = D)) (hc5 : s.heap.IsCell (L + 5) (some (.ref u))) (hc5P : ¬ (L + 5 = P ∨ L + 5 = D))
    (hPr : Prs s.heap u ps) (huP : ¬ (u = P ∨ u = D)) (hpsP : ∀ p ∈ ps, ¬ (p.1 = P ∨ p.1 = D)) (hps : ps.length ≤ 1000) (hin : ∀ a ∈ ps.map (·.2), 0 ≤ a.2 ∧ a.2 < (rs.length : Int))
    (hns : ∀ n ∈ ns, 0 ≤ n ∧ n < (rs.length : Int)) (hne : ∀ n ∈ ns, placesOf rs (ps.map (·.2)) n ≠ []) (hmx : ∀ n ∈ ns, ∀ M, M ∈ placesOf rs (ps.map (·.2)) n → (∀ a ∈ placesOf rs (ps.map (·.2)) n, a ≤ M) → M = mx n)
    (hkc : ∀ a ∈ ns, ∀ b ∈ ns, ((mx a < mx b ∨ (mx a = mx b ∧ -((row rs a).length : Int) < -((row rs b).length : Int))) ↔ kc a < kc b)) (hinj : ∀ a ∈ ns, ∀ b ∈ ns, kc a = kc b → a = b) (hnd : ns.Nodup)
    (hQ : ∀ s' ns' c' l k, Chg (fun b => b = P ∨ b = D) s s' → IntL s'.heap D ns' → ns'.Perm ns → ns'.Pairwise (fun a b => kc a < kc b) → l = 53 → k = 21 → s'.heap.get? P = some (tabObj (tbs ++ #[rawInt l, rawInt k, .ref c'])) → Q .next s') :
    wpAny (model prog w) A (exec (nth paBody 5) (paEnv nm L f (.ref c))) Q E s := by
  refine sort_lam (D := D) (P := P) (g := g) (kf := fun n => (mx n, -((row rs n).length : Int))) (kc := kc) (clos := [("lowest", L + 5), ("above", L + 1)])
    (fun Q hQ => ldN (env := paEnv nm L f (.ref c)) hn hm hQ) hD h64 rfl rfl rfl rfl SG S hC hgP hgD hPD hP ht hnf hroom (fun _ _ _ _ => rfl) (fun _ => rfl) rfl (fun _ => rfl) rfl rfl rfl ?_ hkc hinj hnd (fun s' ns' c' h1 h2 h3 h4 h5 => hQ s' ns' c' _ _ h1 h2 h3 h4 rfl rfl h5) rfl rfl
  intro n t C fq c' s' h₁ hnm hch hC0 hC1 K hnC hcC
  have SG1 : Sub g h₁ := fun b o e => K b o (hch.get (fun h => h.elim (ne_of_get e hgP) (ne_of_get e hgD)) (SG b o e))
  have hc1' : h₁.IsCell (L + 1) (some (.ref ab)) := by obtain ⟨o, e, d⟩ := hc1; exact ⟨o, K _ _ (hch.get hc1P e), d⟩
  have hc5' : h₁.IsCell (L + 5) (some (.ref u)) := by obtain ⟨o, e, d⟩ := hc5; exact ⟨o, K _ _ (hch.get hc5P e), d⟩
  have hPr' : Prs h₁ u ps := ⟨hPr.l.at fun o e => K _ _ (hch.get huP e), fun p hp => (hPr.t p hp).keep fun T o eT e => by cases eT; exact K _ _ (hch.get (hpsP p hp) e)⟩
  have hM' := hM.keep SG1
  refine wpAny_Tuple (wpAny_items_cons ?_)
  refine call1 (s := { s' with heap := h₁ }) (S.keep SG1).gl B.maxG B.maxB ?_
  refine sel_comp (proj := (·.1)) (xx := n) (s := { s' with heap := h₁ }) (rs := rs) hh rfl (by decide) rfl (by decide) (fun Q hQ => ldFree (env := lamEnv _ _ _ C _ _) (s := { s' with heap := h₁ }) hc5' hQ) hPr' hps (fun C => rfl) (fun C => rfl) (by decide) (fun C => rfl) (fun C' s E Q h hq => ldFree (env := compEnvC _ _ C' _) h hq) (fun C => rfl) (fun C => rfl) (fun C => rfl) (by decide) hc1' hcC hM' hrs hin (fun m₄ a t u h1 h2 => ⟨_, h1⟩) fun D' s₅ ys hD' hl hi hK => ?_
  refine max_ints hh hl.isList hi (hne n hnm) fun M tM s₆ hM1 hM2 hK6 => ?_
  have hMm := hmx n hnm M hM1 hM2
  subst hMm
  have K6 : Keeps { s' with heap := h₁ } s₆ := Keeps.trans' hK hK6
  refine wpAny_items_cons (wpAny_UnaryOp (len_call (S.keep fun b o e => Keeps.get' K6 (SG1 b o e)).gl B.lenG B.lenB ?_))
  refine row_item (hM'.keep (Sub.of_keeps K6)) (hns n hnm).1 (hns n hnm).2 hrs (fun Q hQ => ldFree (env := lamEnv _ _ _ C _ _) (hc1'.keeps (Sub.of_keeps K6)) hQ) (fun Q hQ => ldCell (env := lamEnv _ _ _ C _ _) (hcC.keeps (Sub.of_keeps K6)) hQ) fun r hr hrow => ?_
  obtain ⟨rv, hrv, hri⟩ := (hM'.keep (Sub.of_keeps K6)).r r hr
  have hrlen := hri.length
  refine ⟨r.1, _, rfl, hrv.isList, by have := hrl r hr; simp; omega, fun t tk => neg_int (wpAny_items_nil ⟨by simp [sizeLine], ?_, ?_, ?_⟩)⟩
  · exact Keeps.trans' K6 (Keeps.push' s₆ _ _)
  · exact ⟨_, rfl, fresh_size (Sub.of_keeps K6)⟩
  · exact ⟨_, _, _, tM, _, rfl, Heap.get?_push_size _ rfl, rfl, by simp only [List.size_toArray]; rw [hrlen, ← hrow]⟩
theorem pa_sortW {D ab u : Addr} {rs : List (Addr × List Int)} {ps : List (Addr × (Int × Int))} {ns : List Int} {mx kc : Int → Int} {Q : Flow → Shared → Prop} (hh : A.handled = none) (B : Bi mg mb)
    (hn : s.heap.Ns L m) (hm : m "walked" = some (.ref D)) (hD : IntL s.heap D ns) (h64 : ns.length < 64)
    (SG : Sub g s.heap) (S : Stat mg mb g) (hC : CodeHd g c P) (hgP : g.get? P = none) (hgD : g.get? D = none) (hPD : D ≠ P)
    (hP : s.heap.get? P = some (tabObj tbs)) (ht : TriplesOk tbs.toList) (hnf : codeAmong ⟨54, 20, 54, 98⟩ tbs.toList = none) (hroom : A.depth < recursionLimit)
    (hM : Mat g ab rs) (hrs : rs.length ≤ 1000) (hrl : ∀ r ∈ rs, r.2.length ≤ 1000)
    (hc1 : s.heap.IsCell (L + 1) (some (.ref ab))) (hc1P : ¬ (L + 1 = P ∨ L + 1 = D)) (hc4 : s.heap.IsCell (L + 4) (some (.ref u))) (hc4P : ¬ (L + 4 = P ∨ L + 4 = D))
    (hPr : Prs s.heap u ps) (huP : ¬ (u = P ∨ u = D)) (hpsP : ∀ p ∈ ps, ¬ (p.1 = P ∨ p.1 = D)) (hps : ps.length ≤ 1000) (hin : ∀ a ∈ ps.map (·.2), 0 ≤ a.2 ∧ a.2 < (rs.length : Int))
    (hns : ∀ n ∈ ns, 0 ≤ n ∧ n < (rs.length : Int)) (hne : ∀ n ∈ ns, placesOf rs (ps.map (·.2)) n ≠ []) (hmx : ∀ n ∈ ns, ∀ M, M ∈ placesOf rs (ps.map (·.2)) n → (∀ a ∈ placesOf rs (ps.map (·.2)) n, M ≤ a) → M = mx n)
    (hkc : ∀ a ∈ ns, ∀ b ∈ ns, ((mx a < mx b ∨ (mx a = mx b ∧ ((row rs a).length : Int) < ((row rs b).length : Int))) ↔ kc a < kc b)) (hinj : ∀ a ∈ ns, ∀ b ∈ ns, kc a = kc b → a = b) (hnd : ns.Nodup)
    (hQ : ∀ s' ns' c' l k, Chg (fun b => b = P ∨ b = D) s s' → IntL s'.heap D ns' → ns'.Perm ns → ns'.Pairwise (fun a b => kc a < kc b) → l = 54 → k = 20 → s'.heap.get? P = some (tabObj (tbs ++ #[rawInt l, rawInt k, .ref c'])) → Q .next s') :
    wpAny (model prog w) A (exec (nth paBody 6) (paEnv nm L f (.ref c))) Q E s := by
  refine sort_lam (D := D) (P := P) (g := g) (kf := fun n => (mx n, ((row rs n).length : Int))) (kc := kc) (clos := [("downs", L + 4), ("above", L + 1)])
    (fun Q hQ => ldN (env := paEnv nm L f (.ref c)) hn hm hQ) hD h64 rfl rfl rfl rfl SG S hC hgP hgD hPD hP ht hnf hroom (fun _ _ _ _ => rfl) (fun _ => rfl) rfl (fun _ => rfl) rfl rfl rfl ?_ hkc hinj hnd (fun s' ns' c' h1 h2 h3 h4 h5 => hQ s' ns' c' _ _ h1 h2 h3 h4 rfl rfl h5) rfl rfl
  intro n t C fq c' s' h₁ hnm hch hC0 hC1 K hnC hcC
  have SG1 : Sub g h₁ := fun b o e => K b o (hch.get (fun h => h.elim (ne_of_get e hgP) (ne_of_get e hgD)) (SG b o e))
  have hc1' : h₁.IsCell (L + 1) (some (.ref ab)) := by obtain ⟨o, e, d⟩ := hc1; exact ⟨o, K _ _ (hch.get hc1P e), d⟩
  have hc4' : h₁.IsCell (L + 4) (some (.ref u)) := by obtain ⟨o, e, d⟩ := hc4; exact ⟨o, K _ _ (hch.get hc4P e), d⟩
  have hPr' : Prs h₁ u ps := ⟨hPr.l.at fun o e => K _ _ (hch.get huP e), fun p hp => (hPr.t p hp).keep fun T o eT e => by cases eT; exact K _ _ (hch.get (hpsP p hp) e)⟩
  have hM' := hM.keep SG1
  refine wpAny_Tuple (wpAny_items_cons ?_)
  refine call1 (s := { s' with heap := h₁ }) (S.keep SG1).gl B.minG B.minB ?_
  refine sel_comp (proj := (·.1)) (xx := n) (s := { s' with heap := h₁ }) (rs := rs) hh rfl (by decide) rfl (by decide) (fun Q hQ => ldFree (env := lamEnv _ _ _ C _ _) (s := { s' with heap := h₁ }) hc4' hQ) hPr' hps (fun C => rfl) (fun C => rfl) (by decide) (fun C => rfl) (fun C' s E Q h hq => ldFree (env := compEnvC _ _ C' _) h hq) (fun C => rfl) (fun C => rfl) (fun C => rfl) (by decide) hc1' hcC hM' hrs hin (fun m₄ a t u h1 h2 => ⟨_, h1⟩) fun D' s₅ ys hD' hl hi hK => ?_
  refine min_ints hh hl.isList hi (hne n hnm) fun M tM s₆ hM1 hM2 hK6 => ?_
  have hMm := hmx n hnm M hM1 hM2
  subst hMm
  have K6 : Keeps { s' with heap := h₁ } s₆ := Keeps.trans' hK hK6
  refine wpAny_items_cons (len_call (S.keep fun b o e => Keeps.get' K6 (SG1 b o e)).gl B.lenG B.lenB ?_)
  refine row_item (hM'.keep (Sub.of_keeps K6)) (hns n hnm).1 (hns n hnm).2 hrs (fun Q hQ => ldFree (env := lamEnv _ _ _ C _ _) (hc1'.keeps (Sub.of_keeps K6)) hQ) (fun Q hQ => ldCell (env := lamEnv _ _ _ C _ _) (hcC.keeps (Sub.of_keeps K6)) hQ) fun r hr hrow => ?_
  obtain ⟨rv, hrv, hri⟩ := (hM'.keep (Sub.of_keeps K6)).r r hr
  have hrlen := hri.length
  refine ⟨r.1, _, rfl, hrv.isList, by have := hrl r hr; simp; omega, fun t tk => wpAny_items_nil ⟨by simp [sizeLine], ?_, ?_, ?_⟩⟩
  · exact Keeps.trans' K6 (Keeps.push' s₆ _ _)
  · exact ⟨_, rfl, fresh_size (Sub.of_keeps K6)⟩
  · exact ⟨_, _, _, tM, _, rfl, Heap.get?_push_size _ rfl, rfl, by simp only [List.size_toArray]; rw [hrlen, ← hrow]⟩
end
end Mine

end

/- Parts8 -/
section
open PySem PySem.W PyProof.Rows
set_option Elab.async false
namespace Mine
set_option maxRecDepth 10000

theorem ns_ne_tab {h : Heap} {a P : Addr} {m : Str → Option Value} {t : Array Value} (x : h.Ns a m) (hP : h.get? P = some (tabObj t)) : a ≠ P := fun q => by
  obtain ⟨o, es, ep, e, hd, _⟩ := x
  rw [q, hP] at e; cases e; cases hd
theorem cell_ne_tab {h : Heap} {a P : Addr} {v : Option Value} {t : Array Value} (x : h.IsCell a v) (hP : h.get? P = some (tabObj t)) : a ≠ P := fun q => by
  obtain ⟨o, e, hd⟩ := x
  rw [q, hP] at e; cases e; cases hd
theorem cell_chg {W : Addr → Prop} {s s' : Shared} {a : Addr} {v : Option Value} (x : s.heap.IsCell a v) (c : Chg W s s') (n : ¬ W a) : s'.heap.IsCell a v := let ⟨o, e, d⟩ := x; ⟨o, c.get n e, d⟩
theorem cell_live {h : Heap} {a : Addr} {v : Option Value} (x : h.IsCell a v) : ∃ o, h.get? a = some o := let ⟨o, e, _⟩ := x; ⟨o, e⟩
theorem prs_chg {W : Addr → Prop} {s s' : Shared} {a : Addr} {ps : List (Addr × (Int × Int))} (x : Prs s.heap a ps) (c : Chg W s s') (n : ¬ W a) (np : ∀ p ∈ ps, ¬ W p.1) : Prs s'.heap a ps :=
  ⟨x.l.at fun o e => c.get n e, fun p hp => (x.t p hp).keep fun T o eT e => by cases eT; exact c.get (np p hp) e⟩
theorem sub_chg {W : Addr → Prop} {g : Heap} {s s' : Shared} (x : Sub g s.heap) (c : Chg W s s') (n : ∀ b, W b → g.get? b = none) : Sub g s'.heap := fun b o e => c.get (fun h => ne_of_get e (n b h) rfl) (x b o e)
theorem fresh_sub {g h : Heap} {a : Addr} (x : Sub g h) (n : h.get? a = none) : g.get? a = none := by
  cases e : g.get? a with
  | none => rfl
  | some o => rw [x a o e] at n; cases n
theorem ne_live {h : Heap} {a b : Addr} (l : ∃ o, h.get? a = some o) (n : h.get? b = none) : b ≠ a := let ⟨_, e⟩ := l; Ne.symm (ne_of_get e n)

/-- what the plain law must know of the places -/
structure Keyed (rs : List (Addr × List Int)) (ps : List (Int × Int)) (ns : List Int) (up : Bool) (mx kc : Int → Int) : Prop where
  ne : ∀ n ∈ ns, placesOf rs ps n ≠ []
  top : ∀ n ∈ ns, ∀ M, M ∈ placesOf rs ps n → (∀ a ∈ placesOf rs ps n, if up then a ≤ M else M ≤ a) → M = mx n
  lex : ∀ a ∈ ns, ∀ b ∈ ns, ((mx a < mx b ∨ (mx a = mx b ∧ (if up then -((row rs a).length : Int) < -((row rs b).length : Int) else ((row rs a).length : Int) < ((row rs b).length : Int)))) ↔ kc a < kc b)
  inj : ∀ a ∈ ns, ∀ b ∈ ns, kc a = kc b → a = b

section
variable {prog : Program} {w : World} {A : Around} {E : Value → Shared → Prop} {s : Shared} {L f c P : Addr} {nm : Str} {m mg mb : Str → Option Value} {g : Heap}

theorem pa_body {ab wy : Addr} {rs : List (Addr × List Int)} {ws : List (Addr × (Int × Bool))} {mxC kcC mxW kcW : Int → Int} {Q : Flow → Shared → Prop} (hh : A.handled = none) (hu : A.units + 64 < cLine) (hroom : A.depth < recursionLimit) (B : Bi mg mb)
    (SG : Sub g s.heap) (S : Stat mg mb g) (hC : CodeHd g c P) (hgP : g.get? P = none) (hP : s.heap.get? P = some (tabObj #[]))
    (hM : Mat g ab rs) (hrs : rs.length ≤ 60) (hrs1 : 1 ≤ rs.length) (hrl : ∀ r ∈ rs, r.2.length ≤ 1000) (hW : Wys g wy ws) (hws : ws.length ≤ 1000) (hin : ∀ p ∈ ws, 0 ≤ p.2.1 ∧ p.2.1 < (rs.length : Int))
    (hn : s.heap.Ns L m) (hc1 : s.heap.IsCell (L + 1) (some (.ref ab))) (hc2 : s.heap.IsCell (L + 2) (some (.ref wy))) (hc3 : s.heap.IsCell (L + 3) none) (hc4 : s.heap.IsCell (L + 4) none) (hc5 : s.heap.IsCell (L + 5) none)
    (hgL : g.get? L = none ∧ g.get? (L + 3) = none ∧ g.get? (L + 4) = none ∧ g.get? (L + 5) = none)
    (KC : Keyed rs ((prsOf (ws.map (·.2)) true).filter (lowestOf rs (prsOf (ws.map (·.2)) true))) ((nodesOf rs (prsOf (ws.map (·.2)) true)).map fun n : Nat => (n : Int)) true mxC kcC)
    (KW : Keyed rs (prsOf (ws.map (·.2)) false) ((nodesOf rs (prsOf (ws.map (·.2)) false)).map fun n : Nat => (n : Int)) false mxW kcW)
    (hQ : ∀ s' T D1 D2 ns1 ns2 tbs, Chg (fun b => b = P ∨ b = L ∨ b = L + 3 ∨ b = L + 4 ∨ b = L + 5) s s' → IsTup s'.heap T #[.ref D1, .ref D2] → IntL s'.heap D1 ns1 → IntL s'.heap D2 ns2 →
      ns1.Perm ((nodesOf rs (prsOf (ws.map (·.2)) true)).map fun n : Nat => (n : Int)) → ns1.Pairwise (fun a b => kcC a < kcC b) →
      ns2.Perm ((nodesOf rs (prsOf (ws.map (·.2)) false)).map fun n : Nat => (n : Int)) → ns2.Pairwise (fun a b => kcW a < kcW b) →
      s'.heap.get? P = some (tabObj tbs) → s.heap.get? D1 = none → s.heap.get? D2 = none → s.heap.get? T = none → Q (.ret (.ref T)) s') :
    wpAny (model prog w) A (execs paBody (paEnv nm L f (.ref c))) Q E s := by
  have hLP := ns_ne_tab hn hP
  have l1 : ∀ k, 1 ≤ k → L + k ≠ L := fun k hk => Nat.ne_of_gt (Nat.lt_add_of_pos_right hk)
  have l2 : ∀ j k, j ≠ k → L + j ≠ L + k := fun j k hjk h => hjk (Nat.add_left_cancel h)
  have hlenU : ∀ b, (prsOf (ws.map (·.2)) b).length ≤ 1000 := fun b => Nat.le_trans prs_len (by simpa using hws)
  have hinU : ∀ b, ∀ a ∈ prsOf (ws.map (·.2)) b, 0 ≤ a.2 ∧ a.2 < (rs.length : Int) := by
    intro b a ha
    obtain ⟨k, hk, rfl⟩ := List.mem_map.mp ha
    have hk' := (List.mem_filter.mp hk).1
    have hlt : k < ws.length := by simpa [List.mem_range'_1] using hk'
    have := hin ws[k] (List.getElem_mem hlt)
    simpa [List.getD, hlt] using this
  have hns64 : ∀ ps, ((nodesOf rs ps).map fun n : Nat => (n : Int)).length < 64 := fun ps => by
    rw [List.length_map]
    refine Nat.lt_of_le_of_lt (List.length_filter_le _ _) ?_
    simp; omega
  have hnsr : ∀ ps, ∀ n ∈ ((nodesOf rs ps).map fun n : Nat => (n : Int)), 0 ≤ n ∧ n < (rs.length : Int) := by
    intro ps n hn
    obtain ⟨k, hk, rfl⟩ := List.mem_map.mp hn
    have hk' := (List.mem_filter.mp hk).1
    have := List.mem_range'_1.mp hk'
    omega
  have hnd : ∀ ps, ((nodesOf rs ps).map fun n : Nat => (n : Int)).Nodup := by
    intro ps
    have h : (nodesOf rs ps).Nodup := List.Nodup.sublist List.filter_sublist List.nodup_range'
    rw [List.Nodup, List.pairwise_map]
    exact h.imp fun hab e => hab (by omega)
  -- ups
  refine wpAny_execs_cons (st := nth paBody 0) (pa_ups hh (S.keep SG).gl B.rangeG B.rangeB B.lenG B.lenB (hW.keep SG) hws hc2 hc3 fun s1 u1 ps1 C1 c3 P1 e1 fu1 fp1 => ?_)
  have SG1 := sub_chg SG C1 fun b h => h ▸ hgL.2.1
  have P1tab := C1.get (fun h => cell_ne_tab hc3 hP h.symm) hP
  have n1 : s1.heap.Ns L m := ns_chg hn C1 (Ne.symm (l1 3 (by decide)))
  have a1 := cell_chg hc1 C1 (l2 1 3 (by decide))
  have a2 := cell_chg hc2 C1 (l2 2 3 (by decide))
  have a4 := cell_chg hc4 C1 (l2 4 3 (by decide))
  have a5 := cell_chg hc5 C1 (l2 5 3 (by decide))
  -- downs
  refine wpAny_execs_cons (st := nth paBody 1) (pa_downs hh (S.keep SG1).gl B.rangeG B.rangeB B.lenG B.lenB (hW.keep SG1) hws a2 a4 fun s2 u2 ps2 C2 c4 P2 e2 fu2 fp2 => ?_)
  have SG2 := sub_chg SG1 C2 fun b h => h ▸ hgL.2.2.1
  have P2tab := C2.get (fun h => cell_ne_tab a4 P1tab h.symm) P1tab
  have n2 : s2.heap.Ns L m := ns_chg n1 C2 (Ne.symm (l1 4 (by decide)))
  have b1 := cell_chg a1 C2 (l2 1 4 (by decide))
  have b3 := cell_chg c3 C2 (l2 3 4 (by decide))
  have b5 := cell_chg a5 C2 (l2 5 4 (by decide))
  have P1' : Prs s2.heap u1 ps1 := prs_chg P1 C2 (ne_live (cell_live hc4) fu1) fun p hp => ne_live (cell_live hc4) (fp1 p hp)
  have hlen1 : ps1.length ≤ 1000 := by have := congrArg List.length e1; rw [List.length_map] at this; rw [this]; exact hlenU _
  have hlen2 : ps2.length ≤ 1000 := by have := congrArg List.length e2; rw [List.length_map] at this; rw [this]; exact hlenU _
  -- lowest
  refine wpAny_execs_cons (st := nth paBody 2) (pa_lowest hh hu (hM.keep SG2) (by omega) P1' hlen1 (by rw [e1]; exact hinU _) b1 b3 b5 fun s3 u3 C3 c5 P3l fu3 => ?_)
  have SG3 := sub_chg SG2 C3 fun b h => h ▸ hgL.2.2.2
  have P3tab := C3.get (fun h => cell_ne_tab b5 P2tab h.symm) P2tab
  have n3 : s3.heap.Ns L m := ns_chg n2 C3 (Ne.symm (l1 5 (by decide)))
  have d1 := cell_chg b1 C3 (l2 1 5 (by decide))
  have d3 := cell_chg b3 C3 (l2 3 5 (by decide))
  have d4 := cell_chg c4 C3 (l2 4 5 (by decide))
  have P1'' : Prs s3.heap u1 ps1 := prs_chg P1' C3 (ne_live (cell_live hc5) fu1) fun p hp => ne_live (cell_live hc5) (fp1 p hp)
  have P2' : Prs s3.heap u2 ps2 := prs_chg P2 C3 (ne_live (cell_live a5) fu2) fun p hp => ne_live (cell_live a5) (fp2 p hp)
  have P3 : Prs s3.heap u3 (ps1.filter fun q => lowestOf rs (ps1.map (·.2)) q.2) := ⟨P3l, fun p hp => P1''.t p (List.mem_filter.mp hp).1⟩
  -- climbed
  refine wpAny_execs_cons (st := nth paBody 3) (pa_climbed hh hu (S.keep SG3).gl B.rangeG B.rangeB B.lenG B.lenB (hM.keep SG3) (by omega) hrs1 P1'' hlen1 (by rw [e1]; exact hinU _) d1 d3 n3 fun s4 D1 C4 n4 I1 fD1 => ?_)
  have SG4 := sub_chg SG3 C4 fun b h => h ▸ hgL.1
  have P4tab := C4.get (fun h => ns_ne_tab n3 P3tab h.symm) P3tab
  have f1 := cell_chg d1 C4 (l1 1 (by decide))
  have f4 := cell_chg d4 C4 (l1 4 (by decide))
  have f5 := cell_chg c5 C4 (l1 5 (by decide))
  have hu1L : u1 ≠ L := ne_live (ns_live hn) fu1
  have hp1L : ∀ p ∈ ps1, p.1 ≠ L := fun p hp => ne_live (ns_live hn) (fp1 p hp)
  have hu2L : u2 ≠ L := ne_live (ns_live n1) fu2
  have hp2L : ∀ p ∈ ps2, p.1 ≠ L := fun p hp => ne_live (ns_live n1) (fp2 p hp)
  have P2'' : Prs s4.heap u2 ps2 := prs_chg P2' C4 hu2L hp2L
  have P3' : Prs s4.heap u3 (ps1.filter fun q => lowestOf rs (ps1.map (·.2)) q.2) := prs_chg P3 C4 (ne_live (ns_live n2) fu3) fun p hp => hp1L p (List.mem_filter.mp hp).1
  -- walked
  refine wpAny_execs_cons (st := nth paBody 4) (pa_walked hh hu (S.keep SG4).gl B.rangeG B.rangeB B.lenG B.lenB (hM.keep SG4) (by omega) hrs1 P2'' hlen2 (by rw [e2]; exact hinU _) f1 f4 n4 fun s5 D2 C5 n5 I2 fD2 => ?_)
  have SG5 := sub_chg SG4 C5 fun b h => h ▸ hgL.1
  have P5tab := C5.get (fun h => ns_ne_tab n4 P4tab h.symm) P4tab
  have g1 := cell_chg f1 C5 (l1 1 (by decide))
  have g4 := cell_chg f4 C5 (l1 4 (by decide))
  have g5 := cell_chg f5 C5 (l1 5 (by decide))
  have hD1L : D1 ≠ L := ne_live (ns_live n3) fD1
  have hD2L : D2 ≠ L := ne_live (ns_live n4) fD2
  have I1' : IntL s5.heap D1 _ := I1.chg C5 hD1L
  have P2c : Prs s5.heap u2 ps2 := prs_chg P2'' C5 hu2L hp2L
  have P3c : Prs s5.heap u3 (ps1.filter fun q => lowestOf rs (ps1.map (·.2)) q.2) := prs_chg P3' C5 (ne_live (ns_live n2) fu3) fun p hp => hp1L p (List.mem_filter.mp hp).1
  have hD1P : D1 ≠ P := ne_live ⟨_, P3tab⟩ fD1
  have hD2P : D2 ≠ P := ne_live ⟨_, P4tab⟩ fD2
  have hD21 : D2 ≠ D1 := ne_live I1.live fD2
  have hgD1 := fresh_sub SG3 fD1
  have hgD2 := fresh_sub SG4 fD2
  have hlowmap : ∀ (r : List (Addr × (Int × Int))) (q : Int × Int → Bool), (r.filter fun p => q p.2).map (·.2) = (r.map (·.2)).filter q := by
    intro r q
    induction r with
    | nil => rfl
    | cons p r ih => rw [List.map_cons, List.filter_cons, List.filter_cons]; split <;> simp_all
  have elow : (ps1.filter fun q => lowestOf rs (ps1.map (·.2)) q.2).map (·.2) = (prsOf (ws.map (·.2)) true).filter (lowestOf rs (prsOf (ws.map (·.2)) true)) := by
    rw [hlowmap, e1]
  rw [e1] at I1'
  rw [e2] at I2
  -- climbed.sort
  refine wpAny_execs_cons (st := nth paBody 5) (pa_sortC (D := D1) (P := P) (g := g) (tbs := #[]) (mx := mxC) (kc := kcC) hh B n5 ?_ I1' (hns64 _) SG5 S hC hgP hgD1 hD1P P5tab trivial rfl hroom hM (by omega) hrl g1 ?_ g5 ?_ P3c ?_ ?_ ?_ ?_ (hnsr _) ?_ ?_ ?_ KC.inj (hnd _) fun s6 ns1 c1' l1' k1' C6 J1 pm1 pw1 hl1 hk1 P6tab => ?_)
  · rw [if_neg (by decide), if_pos rfl]
  · exact fun h => h.elim (cell_ne_tab g1 P5tab) fun h => ne_live (cell_live d1) fD1 h.symm
  · exact fun h => h.elim (cell_ne_tab g5 P5tab) fun h => ne_live (cell_live c5) fD1 h.symm
  · exact fun h => h.elim (ne_live ⟨_, P2tab⟩ fu3) fun h => ne_live ⟨_, P3l.choose_spec⟩ fD1 h.symm
  · intro p hp h
    have hp' := (List.mem_filter.mp hp).1
    rcases h with h | h
    · exact ne_live ⟨_, hP⟩ (fp1 p hp') h
    · obtain ⟨T, o, e, t, u, eT, ho, _⟩ := P1''.t p hp'
      cases eT
      exact ne_live ⟨o, ho⟩ fD1 h.symm
  · exact Nat.le_trans (List.length_filter_le _ _) hlen1
  · intro a ha
    rw [elow] at ha
    exact hinU true a (List.mem_filter.mp ha).1
  · rw [elow]; exact KC.ne
  · rw [elow]; simpa using KC.top
  · simpa using KC.lex
  subst hl1; subst hk1
  have SG6 := sub_chg SG5 C6 fun b h => h.elim (fun h => h ▸ hgP) fun h => h ▸ hgD1
  have n6 := ns_chg n5 C6 fun h => h.elim hLP fun h => hD1L h.symm
  have k1 := cell_chg g1 C6 fun h => h.elim (cell_ne_tab g1 P5tab) fun h => ne_live (cell_live d1) fD1 h.symm
  have k4 := cell_chg g4 C6 fun h => h.elim (cell_ne_tab g4 P5tab) fun h => ne_live (cell_live d4) fD1 h.symm
  have I2' : IntL s6.heap D2 _ := I2.chg C6 fun h => h.elim hD2P hD21
  have hp2t : ∀ p ∈ ps2, ∃ o, s3.heap.get? p.1 = some o := fun p hp => by
    obtain ⟨T, o, e, t, u, eT, ho, _⟩ := P2'.t p hp
    cases eT
    exact ⟨o, ho⟩
  have hp2t' : ∀ p ∈ ps2, ∃ o, s4.heap.get? p.1 = some o := fun p hp => by
    obtain ⟨T, o, e, t, u, eT, ho, _⟩ := P2''.t p hp
    cases eT
    exact ⟨o, ho⟩
  have P2d : Prs s6.heap u2 ps2 := prs_chg P2c C6 (fun h => h.elim (ne_live ⟨_, P1tab⟩ fu2) fun h => ne_live ⟨_, P2'.l.choose_spec⟩ fD1 h.symm) fun p hp h => h.elim (ne_live ⟨_, P1tab⟩ (fp2 p hp)) fun h => ne_live (hp2t p hp) fD1 h.symm
  -- walked.sort
  refine wpAny_execs_cons (st := nth paBody 6) (pa_sortW (D := D2) (P := P) (g := g) (mx := mxW) (kc := kcW) hh B n6 ?_ I2' (hns64 _) SG6 S hC hgP hgD2 hD2P P6tab ?_ ?_ hroom hM (by omega) hrl k1 ?_ k4 ?_ P2d ?_ ?_ hlen2 (by rw [e2]; exact hinU _) (hnsr _) ?_ ?_ ?_ KW.inj (hnd _) fun s7 ns2 c2' l2' k2' C7 J2 pm2 pw2 hl2 hk2 P7tab => ?_)
  · rw [if_pos rfl]
  · exact trivial
  · rfl
  · exact fun h => h.elim (cell_ne_tab k1 P6tab) fun h => ne_live (cell_live f1) fD2 h.symm
  · exact fun h => h.elim (cell_ne_tab k4 P6tab) fun h => ne_live (cell_live f4) fD2 h.symm
  · exact fun h => h.elim (ne_live ⟨_, P1tab⟩ fu2) fun h => ne_live ⟨_, P2''.l.choose_spec⟩ fD2 h.symm
  · exact fun p hp h => h.elim (ne_live ⟨_, P1tab⟩ (fp2 p hp)) fun h => ne_live (hp2t' p hp) fD2 h.symm
  · rw [e2]; exact KW.ne
  · rw [e2]; simpa using KW.top
  · simpa using KW.lex
  have n7 := ns_chg n6 C7 fun h => h.elim hLP fun h => hD2L h.symm
  have J1' : IntL s7.heap D1 ns1 := J1.chg C7 fun h => h.elim hD1P fun h => hD21 h.symm
  -- return
  refine wpAny_execs_cons (st := nth paBody 7) (wpAny_Return_some (wpAny_Tuple (wpAny_items_cons (ldN (env := paEnv nm L f (.ref c)) n7 (by rw [if_neg (by decide), if_pos rfl]) (wpAny_items_cons (ldN (env := paEnv nm L f (.ref c)) n7 (by rw [if_pos rfl]) (wpAny_items_nil ⟨by simp [sizeLine], ?_⟩)))))))
  have back1 : ∀ a, s1.heap.get? a = none → a ≠ L + 3 → s.heap.get? a = none := fun a ha hne => by
    cases e : s.heap.get? a with
    | none => rfl
    | some o => rw [C1.get hne e] at ha; cases ha
  have back2 : ∀ a, s2.heap.get? a = none → a ≠ L + 4 → s1.heap.get? a = none := fun a ha hne => by
    cases e : s1.heap.get? a with
    | none => rfl
    | some o => rw [C2.get hne e] at ha; cases ha
  have back3 : ∀ a, s3.heap.get? a = none → a ≠ L + 5 → s2.heap.get? a = none := fun a ha hne => by
    cases e : s2.heap.get? a with
    | none => rfl
    | some o => rw [C3.get hne e] at ha; cases ha
  have back4 : ∀ a, s4.heap.get? a = none → a ≠ L → s3.heap.get? a = none := fun a ha hne => by
    cases e : s3.heap.get? a with
    | none => rfl
    | some o => rw [C4.get hne e] at ha; cases ha
  have fr3 : ∀ a, s3.heap.get? a = none → s.heap.get? a = none := fun a ha => back1 a (back2 a (back3 a ha (ne_live (cell_live c5) ha)) (ne_live (cell_live d4) ha)) (ne_live (cell_live d3) ha)
  have CC : Chg (fun b => (b = P ∨ b = L ∨ b = L + 3 ∨ b = L + 4 ∨ b = L + 5) ∨ b = D1 ∨ b = D2) s s7 := by
    refine (C1.mono fun b o _ h => .inl (.inr (.inr (.inl h)))).trans ((C2.mono fun b o _ h => .inl (.inr (.inr (.inr (.inl h))))).trans ((C3.mono fun b o _ h => .inl (.inr (.inr (.inr (.inr h))))).trans ((C4.mono fun b o _ h => .inl (.inr (.inl h))).trans ((C5.mono fun b o _ h => .inl (.inr (.inl h))).trans ((C6.mono fun b o _ h => h.elim (fun h => .inl (.inl h)) fun h => .inr (.inl h)).trans (C7.mono fun b o _ h => h.elim (fun h => .inl (.inl h)) fun h => .inr (.inr h)))))))
  have hfD1 := fr3 D1 fD1
  have hfD2 := fr3 D2 (back4 D2 fD2 hD2L)
  have CC' : Chg (fun b => b = P ∨ b = L ∨ b = L + 3 ∨ b = L + 4 ∨ b = L + 5) s s7 := CC.mono fun b o e h => h.elim id fun h => h.elim (fun h => absurd h (ne_of_get e hfD1)) fun h => absurd h (ne_of_get e hfD2)
  refine hQ _ s7.heap.objs.size D1 D2 ns1 ns2 _ (CC'.stepH fun b o _ e => Heap.get?_push_of_some _ e) ⟨_, Heap.get?_push_size _ rfl, rfl, _, rfl⟩ (J1'.at fun o e => Heap.get?_push_of_some _ e) (J2.at fun o e => Heap.get?_push_of_some _ e) pm1 pw1 pm2 pw2 (Heap.get?_push_of_some _ P7tab) hfD1 hfD2 ?_
  have back : ∀ a, s7.heap.get? a = none → ¬ (a = P ∨ a = L ∨ a = L + 3 ∨ a = L + 4 ∨ a = L + 5) → s.heap.get? a = none := fun a ha hne => by
    cases e : s.heap.get? a with
    | none => rfl
    | some o => rw [CC'.get hne e] at ha; cases ha
  have hz := get_size s7.heap
  have m3 := cell_chg d3 C4 (l1 3 (by decide))
  refine back _ hz fun h => ?_
  rcases h with h | h | h | h | h
  · exact ne_live ⟨_, P7tab⟩ hz h
  · exact ne_live (ns_live n7) hz h
  · have q := cell_chg (cell_chg (cell_chg m3 C5 (l1 3 (by decide))) C6 fun h => h.elim (cell_ne_tab (cell_chg m3 C5 (l1 3 (by decide))) P5tab) fun h => ne_live (cell_live d3) fD1 h.symm) C7 fun h => h.elim (fun h => cell_ne_tab hc3 hP h) fun h => ne_live (cell_live m3) fD2 h.symm
    exact ne_live (cell_live q) hz h
  · have q := cell_chg k4 C7 fun h => h.elim (fun h => cell_ne_tab hc4 hP h) fun h => ne_live (cell_live f4) fD2 h.symm
    exact ne_live (cell_live q) hz h
  · have q := cell_chg (cell_chg g5 C6 fun h => h.elim (cell_ne_tab g5 P5tab) fun h => ne_live (cell_live c5) fD1 h.symm) C7 fun h => h.elim (fun h => cell_ne_tab hc5 hP h) fun h => ne_live (cell_live f5) fD2 h.symm
    exact ne_live (cell_live q) hz h
end
end Mine

end

/- Top1 -/
section
open PySem PySem.W PyProof.Rows
set_option Elab.async false
namespace Mine
set_option maxRecDepth 100000 in
set_option maxHeartbeats 8000000 in
open_top hd for PySem.Challenge.rw_nb0031_01
end Mine

end

/- Fns -/
section
open PySem PySem.W PyProof.Rows
set_option Elab.async false
set_option maxRecDepth 100000
namespace Mine
def argsOf : Stmt → Arguments
  | .FunctionDef _ a _ _ _ _ _ _ _ _ => a
  | _ => default
noncomputable abbrev KK (w : World) : Frag := hd.heap_39 w.params
theorem fn19 (w : World) : ∃ o pm doc, (KK w).lookup 19 = some o ∧ o.data = .func (Calls.docDef "_c3_merge" (argsOf (topStmt 1)) c3Body c3Scope pm (.ref 18) doc) := ⟨_, _, _, rfl, rfl⟩
theorem fn26 (w : World) : ∃ o pm doc, (KK w).lookup 26 = some o ∧ o.data = .func (Calls.docDef "get_parent_map" (argsOf (topStmt 3)) pmBody pmScope pm (.ref 25) doc) := ⟨_, _, _, rfl, rfl⟩
theorem fn54 (w : World) : ∃ o pm doc, (KK w).lookup 54 = some o ∧ o.data = .func (Calls.docDef "_law_context" (argsOf (topStmt 6)) cxBody cxScope pm (.ref 53) doc) := ⟨_, _, _, rfl, rfl⟩
theorem fn59 (w : World) : ∃ o pm doc, (KK w).lookup 59 = some o ∧ o.data = .func (Calls.docDef "_law_way_up" (argsOf (topStmt 7)) wuBody wuScope pm (.ref 58) doc) := ⟨_, _, _, rfl, rfl⟩
theorem fn64 (w : World) : ∃ o pm doc, (KK w).lookup 64 = some o ∧ o.data = .func (Calls.docDef "_law_parts" (argsOf (topStmt 8)) paBody paScope pm (.ref 63) doc) := ⟨_, _, _, rfl, rfl⟩
theorem cd18 (w : World) : codeIn (KK w) (.ref 18) "_c3_merge" = true := rfl
theorem cd25 (w : World) : codeIn (KK w) (.ref 25) "get_parent_map" = true := rfl
theorem cd53 (w : World) : codeIn (KK w) (.ref 53) "_law_context" = true := rfl
theorem cd58 (w : World) : codeIn (KK w) (.ref 58) "_law_way_up" = true := rfl
theorem cd63 (w : World) : codeIn (KK w) (.ref 63) "_law_parts" = true := rfl
def inScope : Scope := match topStmt 4 with | .ClassDef _ _ _ b _ _ _ _ _ _ _ => scopeOf (nth b 1) | _ => default
def inBody : List Stmt := match topStmt 4 with | .ClassDef _ _ _ b _ _ _ _ _ _ _ => bodyOf (nth b 1) | _ => []
def inArgs : Arguments := match topStmt 4 with | .ClassDef _ _ _ b _ _ _ _ _ _ _ => argsOf (nth b 1) | _ => default
theorem fn40 (w : World) : ∃ o doc pm an ct, (KK w).lookup 40 = some o ∧ o.data = .func (fnOf "__init__" "_SelectorContext.__init__" inArgs inBody inScope .none .none doc pm an (.ref 39) ct) := ⟨_, _, _, _, _, rfl, rfl⟩
theorem cd39 (w : World) : codeIn (KK w) (.ref 39) "_SelectorContext.__init__" = true := rfl
end Mine

end

/- Inst -/
section
open PySem PySem.W PyProof.Rows
set_option Elab.async false
set_option maxRecDepth 100000
namespace Mine

section
variable {prog : Program} {w : World} {A : Around} {E : Value → Shared → Prop} {s : Shared} {K : Frag} {C x dx : Addr} {ox : Obj} {es : List DictEntry} {n : Nat} {name : Str} {v : Value}

/-- all that lives in h, but at the addresses a and b -/
def others (h : Heap) (a b : Addr) : List (Addr × Obj) := (List.range h.objs.size).filterMap fun i => if i = a ∨ i = b then none else (h.get? i).map fun o => (i, o)
theorem mem_others {h : Heap} {a b : Addr} {p : Addr × Obj} : p ∈ others h a b ↔ p.1 ≠ a ∧ p.1 ≠ b ∧ h.get? p.1 = some p.2 := by
  unfold others
  rw [List.mem_filterMap]
  constructor
  · rintro ⟨i, _, e⟩
    split at e
    · cases e
    · rename_i n
      obtain ⟨o, ho, rfl⟩ := Option.map_eq_some_iff.mp e
      exact ⟨fun q => n (.inl q), fun q => n (.inr q), ho⟩
  · rintro ⟨h1, h2, h3⟩
    exact ⟨p.1, List.mem_range.mpr (Heap.lt_size h3), by rw [if_neg (fun q => q.elim h1 h2), h3]; rfl⟩
theorem void_get (a : Addr) : (default : Heap).get? a = none := get_ge (Nat.zero_le _)

/-- x.name = v, into its own dict: the library's rule, with all other objects on the ledger of an empty base -/
theorem set_inst {L : Addr} {m : Str → Option Value} {Q : Unit → Shared → Prop} (X : K.In s.heap) (I : InstAt s.heap x ox C (some (dictOf es n))) (hd : ox.dict = some dx) (D : s.heap.get? dx = some (dictOf es n)) (hn : s.heap.Ns L m) (hL : dx ≠ L)
    (hs : findIn K (.ref C) "__setattr__" = some (some (.builtin "object.__setattr__"))) (hp : plainOver K C = true) (ht : takerIn K C name = some none) (hh : hasDictIn K C = true) (hl : (getL name es).isSome = true)
    (hz : es.length ≤ 900)
    (h : ∀ h' hsh tk t, (∀ b o, b ≠ dx → b ≠ L → s.heap.get? b = some o → h'.get? b = some o) → h'.Ns L m → h'.get? dx = some (dictOf (putL name hsh (.str name tk) v es) (putN name es n)) → Q () { s with heap := h', toks := t }) :
    wpAny (model prog w) A (setAttr (.ref x) name v) Q E s := by
  have grow : ∀ es : List DictEntry, ∀ hsh k, (putL name hsh k v es).length ≤ es.length + 1 := fun es hsh k => by
    induction es with
    | nil => exact Nat.le_refl _
    | cons a r ih => unfold putL; split <;> simp only [List.length_cons] <;> omega
  have F : Fr default L s.heap m := ⟨hn, fun b o e => (by rw [void_get] at e; cases e), Nat.zero_le _⟩
  have N : News default L s.heap ([] ++ (dx, dictOf es n) :: others s.heap dx L) := fun p hp => by
    rcases List.mem_cons.mp hp with rfl | hp
    · exact ⟨D, hL, void_get _⟩
    · obtain ⟨_, h2, h3⟩ := mem_others.mp hp
      exact ⟨h3, h2, void_get _⟩
  refine set_plain X I hs (osa_dict (s := { s with toks := s.toks + 1 }) F N X I hd hp ht hh hl (fun _ q => nomatch q) (fun p q => (mem_others.mp q).1) (putName_dict ..) rfl (Nat.le_trans (grow _ _ _) (by omega)) fun h' F' N' => ?_)
  exact h h' _ _ _ (fun b o h1 h2 e => (N' (b, o) (.tail _ (mem_others.mpr ⟨h1, h2, e⟩))).1) F'.ns (N' _ (.head _)).1
end

section
variable {prog : Program} {w : World} {A : Around} {E : Value → Shared → Prop} {s : Shared} {g : Heap} {mg mb : Str → Option Value}

theorem under_tc_depth (v : List Value) : (A.under (.builtin "type.__call__" ⟨.ref 43 :: v, []⟩)).depth = A.depth + 1 := by
  show A.depth + Code.weight _ = _
  rw [show Code.weight (.builtin "type.__call__" ⟨.ref 43 :: v, []⟩) = 1 from rfl]

/-- _SelectorContext(v) -/
theorem mk_ctx {v : Value} {Q : Value → Shared → Prop} (hroom : A.depth + 1 < recursionLimit) (X : (KK w).In g) (S : Stat mg mb g) (SG : Sub g s.heap)
    (hQ : ∀ s' x dx hsh kt n, Keeps s s' → s.heap.get? x = none → s.heap.get? dx = none → x ≠ dx → s'.heap.get? x = some (instObj 43 dx) → s'.heap.get? dx = some (dictOf [⟨hsh, .str "root" kt, v⟩] n) → Q (.ref x) s') :
    wpAny (model prog w) A (call (.ref 43) [v]) Q E s := by
  have Xs : (KK w).In s.heap := fun b o e => SG b o (X b o e)
  obtain ⟨hh, gg, d, t, os⟩ := s
  refine wpAny_call (make_core (init := .ref 40) (makes_of Xs rfl) (looks_findIn Xs rfl) (fun self => bind_fn Xs self rfl) (.inl rfl) ?_)
  obtain ⟨o, doc, pm, an, ct, ho, hdat⟩ := fn40 w
  generalize hH2 : (hh.push emptyDict).push (instObj 43 hh.objs.size) = H2
  have hsz : H2.objs.size = hh.objs.size + 2 := by rw [← hH2, Heap.size_push, Heap.size_push]
  have k2 : Sub hh H2 := fun b o e => hH2 ▸ Heap.get?_push_of_some _ (Heap.get?_push_of_some _ e)
  have hx2 : H2.get? (hh.objs.size + 1) = some (instObj 43 hh.objs.size) := by
    rw [← hH2]
    have := Heap.get?_push_size (hh.push emptyDict) (o := instObj 43 hh.objs.size) rfl
    rwa [Heap.size_push] at this
  have hd2 : H2.get? hh.objs.size = some (dictOf [] 0) := hH2 ▸ Heap.get?_push_of_some _ (Heap.get?_push_size _ rfl)
  have fr0 : hh.get? hh.objs.size = none := get_size _
  have fr1 : hh.get? (hh.objs.size + 1) = none := by
    cases e : hh.get? (hh.objs.size + 1) with
    | none => rfl
    | some o => exact absurd (Heap.lt_size e) (Nat.not_lt.mpr (Nat.le_succ _))
  refine codeAny_call_def (fd := fnOf "__init__" "_SelectorContext.__init__" inArgs inBody inScope .none .none doc pm an (.ref 39) ct) (body := inBody) (binds := [("self", .ref (hh.objs.size + 1)), ("root", v)]) (s := ⟨H2, gg, d, t, os⟩) (by rw [under_tc_depth]; exact hroom) (k2 _ _ (Xs _ _ ho)) hdat (S.lim.keeps fun b o e => k2 _ _ (SG b o e))
    (codeRec_of (fun b o e => k2 _ _ (Xs b o e)) (cd39 w)) rfl (BindsTo.of_eq rfl) (by show ∀ x ∈ inScope.names, _; decide) (by intro x hx; simp only [List.mem_cons, List.not_mem_nil, or_false] at hx; rcases hx with rfl | rfl <;> rfl) fun h₀ hns hk => ?_
  refine wpAny_mono (Q := fun f s' => ∃ hsh kt n, f = .next ∧ Keeps ⟨hh, gg, d, t, os⟩ s' ∧ s'.heap.get? (hh.objs.size + 1) = some (instObj 43 hh.objs.size) ∧ s'.heap.get? hh.objs.size = some (dictOf [⟨hsh, .str "root" kt, v⟩] n)) (E := fun _ _ => False) ?_ ?_ fun _ _ h => h.elim
  · refine wpAny_execs_cons (st := nth inBody 0) (plainObj_wpAny_Assign_Attribute (ldN (env := envOf _ inScope H2.objs.size _ _) hns rfl (ldN (env := envOf _ inScope H2.objs.size _ _) hns rfl ?_)))
    refine set_inst (K := KK w) (C := 43) (ox := instObj 43 hh.objs.size) (dx := hh.objs.size) (es := []) (n := 0) (fun b o e => hk _ _ (k2 _ _ (Xs b o e))) ⟨hk _ _ hx2, rfl, rfl, hk _ _ hd2⟩ rfl (hk _ _ hd2) hns (ne_of_get hd2 (get_size H2)) rfl rfl rfl rfl rfl (by decide) fun h' hsh tk t' k' _ hdx => ?_
    refine wpAny_execs_nil ⟨hsh, tk, _, rfl, ?_, ?_, hdx⟩
    · exact ⟨h', t', rfl, fun b o e => k' b o (ne_of_get e fr0) (ne_of_get (k2 b o e) (get_size H2)) (hk _ _ (k2 b o e))⟩
    · exact k' _ _ (Nat.succ_ne_self _) (ne_of_get hx2 (get_size H2)) (hk _ _ hx2)
  · rintro f s' ⟨hsh, kt, n, rfl, hK, h1, h2⟩
    exact ⟨rfl, hQ s' _ _ hsh kt n hK fr1 fr0 (Nat.succ_ne_self _) h1 h2⟩
end
end Mine

end

/- Cx -/
section
open PySem PySem.W PyProof.Rows
set_option Elab.async false
set_option maxRecDepth 100000
namespace Mine

/-- the lambda in _law_context -/
def cxLam : Expr := match nth cxBody 1 with | .Assign _ v _ => v | _ => .Constant .none 0 default
def lamScopeOf : Expr → Scope | .Lambda _ _ sc _ => sc | _ => default
def lamBodyOf : Expr → Expr | .Lambda _ b _ _ => b | e => e
def lamArgsOf : Expr → Arguments | .Lambda a _ _ _ => a | _ => default

/-- the context: what it holds -/
structure CtxAt (h : Heap) (L r2 d2 r1 d1 fq c' fam : Addr) : Prop where
  i2 : h.get? r2 = some (instObj 43 d2)
  e2 : ∃ hsh kt n, h.get? d2 = some (dictOf [⟨hsh, .str "root" kt, .ref r1⟩] n)
  i1 : h.get? r1 = some (instObj 43 d1)
  e1 : ∃ hsh kt hsh' kt' n, h.get? d1 = some (dictOf [⟨hsh, .str "root" kt, .ref fam⟩, ⟨hsh', .str "iter" kt', .ref fq⟩] n)
  fn : ∃ pm ctv, h.get? fq = some (kla_obj "<lambda>" ("_law_context.<locals>." ++ "<lambda>") (lamArgsOf cxLam) (lamBodyOf cxLam) (lamScopeOf cxLam) [("families", L + 1)] pm c' ctv)
  cell : h.IsCell (L + 1) (some (.ref fam))
  code : h.CodeRec (.ref c') ("_law_context.<locals>." ++ "<lambda>")
theorem CtxAt.keep {h h' : Heap} {L r2 d2 r1 d1 fq c' fam : Addr} (x : CtxAt h L r2 d2 r1 d1 fq c' fam) (k : Sub h h') : CtxAt h' L r2 d2 r1 d1 fq c' fam :=
  ⟨k _ _ x.i2, let ⟨a, b, c, e⟩ := x.e2; ⟨a, b, c, k _ _ e⟩, k _ _ x.i1, let ⟨a, b, c, d, n, e⟩ := x.e1; ⟨a, b, c, d, n, k _ _ e⟩, let ⟨a, b, e⟩ := x.fn; ⟨a, b, k _ _ e⟩, x.cell.keeps k, x.code.keeps k⟩

section
variable {prog : Program} {w : World} {A : Around} {E : Value → Shared → Prop} {s : Shared} {g : Heap} {m mg mb : Str → Option Value} {L f fam P : Addr}

theorem cx_body {Q : Flow → Shared → Prop} (hroom : A.depth + 1 < recursionLimit) (X : (KK w).In g) (S : Stat mg mb g) (SG : Sub g s.heap) (hmg : mg "_SelectorContext" = some (.ref 43))
    (hn : s.heap.Ns L m) (hc1 : s.heap.IsCell (L + 1) (some (.ref fam))) (hC : CodeHd g 53 P) (hgP : g.get? P = none) (hP : s.heap.get? P = some (tabObj #[])) (hgL : g.get? L = none)
    (hQ : ∀ s' r2 d2 r1 d1 fq c' tbs, Chg (fun b => b = P ∨ b = L) s s' → CtxAt s'.heap L r2 d2 r1 d1 fq c' fam → s'.heap.get? P = some (tabObj tbs) → s.heap.get? d2 = none → Q (.ret (.ref r2)) s') :
    wpAny (model prog w) A (execs cxBody (envOfC "_law_context" cxScope L f (.ref 53))) Q E s := by
  have hLP := ns_ne_tab hn hP
  have hcP := cell_ne_tab hc1 hP
  have hcL : L + 1 ≠ L := Nat.succ_ne_self L
  have hgne : mainGlobals ≠ P := by obtain ⟨o, e⟩ := ns_live S.gl.g; exact ne_of_get e hgP
  -- root = _SelectorContext(families)
  refine wpAny_execs_cons (st := nth cxBody 0) (wpAny_Assign_Name (wpAny_Call_NameR (ldG (S.keep SG).gl hmg ?_)))
  refine callWith_K (K := KK w) X rfl (wpAny_items_cons (ldCell (env := envOfC "_law_context" cxScope L f (.ref 53)) hc1 (wpAny_items_nil ⟨fun b o e => SG b o (X b o e), ?_⟩)))
  refine mk_ctx hroom X S SG fun s1 r1 d1 hsh kt n K1 fr1 fd1 hrd1 i1 e1 => ?_
  have SG1 : Sub g s1.heap := fun b o e => Keeps.get' K1 (SG b o e)
  refine stN' (env := envOfC "_law_context" cxScope L f (.ref 53)) (hn.keeps (Sub.of_keeps K1)) fun h2 n2 sb2 => ?_
  have hr1L : r1 ≠ L := ne_live (ns_live hn) fr1
  have hd1L : d1 ≠ L := ne_live (ns_live hn) fd1
  have hr1P : r1 ≠ P := ne_live ⟨_, hP⟩ fr1
  have hd1P : d1 ≠ P := ne_live ⟨_, hP⟩ fd1
  have SG2 : Sub g h2 := fun b o e => sb2.extBut b o (ne_of_get e hgL) (SG1 b o e)
  have P2 : h2.get? P = some (tabObj #[]) := sb2.extBut _ _ (Ne.symm hLP) (Keeps.get' K1 hP)
  -- root.iter = lambda: families
  refine wpAny_execs_cons (st := nth cxBody 1) (plainObj_wpAny_Assign_Attribute ?_)
  refine kla_eval rfl (kla_makeFunction (mg := mg) (c := 53) (P := P) (ps := #[]) (clos := [("families", L + 1)]) (s := { s1 with heap := h2, toks := _ }) rfl rfl (S.gl.g.keeps SG2) rfl (hC.keeps SG2) P2 trivial rfl hgne (S.at SG2 hgP) fun c' ctv h3 tk hex hge hlt hrec htb => ?_)
  generalize hob : kla_obj _ _ _ _ _ _ _ _ _ = ob
  have kp3 : ∀ b o, b ≠ P → h2.get? b = some o → (h3.push ob).get? b = some o := fun b o hb e => Heap.get?_push_of_some _ (hex b o hb e)
  have n3 : (h3.push ob).Ns L _ := n2.at' fun o e => kp3 _ o hLP e
  have SG3 : Sub g (h3.push ob) := fun b o e => kp3 b o (ne_of_get e hgP) (SG2 b o e)
  refine ldN (env := envOfC "_law_context" cxScope L f (.ref 53)) n3 (by rw [if_pos rfl]) ?_
  have i1' : (h3.push ob).get? r1 = some (instObj 43 d1) := kp3 _ _ hr1P (sb2.extBut _ _ hr1L i1)
  have e1' : (h3.push ob).get? d1 = some (dictOf [⟨hsh, .str "root" kt, .ref fam⟩] n) := kp3 _ _ hd1P (sb2.extBut _ _ hd1L e1)
  refine set_inst (K := KK w) (C := 43) (ox := instObj 43 d1) (dx := d1) (es := [⟨hsh, .str "root" kt, .ref fam⟩]) (n := n) (s := { s1 with heap := h3.push ob, toks := _ }) (fun b o e => SG3 b o (X b o e)) ⟨i1', rfl, rfl, e1'⟩ rfl e1' n3 hd1L rfl rfl rfl rfl rfl (by show 1 ≤ 900; decide) fun h4 hsh' kt' t4 k4 n4 e4 => ?_
  have hfd : h3.objs.size ≠ d1 := Ne.symm (ne_of_get (hex _ _ hd1P (sb2.extBut _ _ hd1L e1)) (get_size _))
  have hfL : h3.objs.size ≠ L := ne_live (ns_live (n2.at' fun o e => hex _ o hLP e)) (get_size _)
  have hob4 : h4.get? h3.objs.size = some ob := k4 _ _ hfd hfL (Heap.get?_push_size _ (by rw [← hob]; rfl))
  have SG4 : Sub g h4 := fun b o e => k4 b o (fun h => ne_of_get e (fresh_sub SG fd1) h) (ne_of_get e hgL) (SG3 b o e)
  have hcd1 : L + 1 ≠ d1 := Ne.symm (ne_live (cell_live hc1) fd1)
  have c4 : h4.IsCell (L + 1) (some (.ref fam)) := by
    obtain ⟨o, e, d⟩ := hc1
    exact ⟨o, k4 _ _ hcd1 hcL (kp3 _ _ hcP (sb2.extBut _ _ hcL (Keeps.get' K1 e))), d⟩
  have i4 : h4.get? r1 = some (instObj 43 d1) := k4 _ _ hrd1 hr1L i1'
  have P4 : h4.get? P = some (tabObj (#[] ++ #[rawInt ((cxLam).pos.line), rawInt ((cxLam).pos.col), .ref c'])) := k4 _ _ (Ne.symm hd1P) (Ne.symm hLP) (Heap.get?_push_of_some _ htb)
  have rec4 : h4.CodeRec (.ref c') ("_law_context.<locals>." ++ "<lambda>") := by
    obtain ⟨c2, oc, ovs, tq, e2, hoc, hd, hq⟩ := hrec
    cases e2
    refine ⟨c', oc, ovs, tq, rfl, k4 _ _ (fun h => ?_) (fun h => ?_) (Heap.get?_push_of_some _ hoc), hd, hq⟩
    · have := hex _ _ hd1P (sb2.extBut _ _ hd1L e1)
      rw [← h, hoc] at this
      cases this
      cases hd
    · obtain ⟨oL, es, ep, eL, dL, _⟩ := n3
      rw [← h, Heap.get?_push_of_some _ hoc] at eL
      cases eL
      rw [hd] at dL
      cases dL
  -- return _SelectorContext(root)
  refine wpAny_execs_cons (st := nth cxBody 2) (wpAny_Return_some (wpAny_Call_NameR (ldG (s := { s1 with heap := h4, toks := _ }) (S.keep SG4).gl hmg ?_)))
  refine callWith_K (K := KK w) X rfl (wpAny_items_cons (ldN (env := envOfC "_law_context" cxScope L f (.ref 53)) (s := { s1 with heap := h4, toks := _ }) n4 (by rw [if_pos rfl]) (wpAny_items_nil ⟨fun b o e => SG4 b o (X b o e), ?_⟩)))
  refine mk_ctx (s := { s1 with heap := h4, toks := _ }) hroom X S SG4 fun s5 r2 d2 hsh2 kt2 nn2 K5 fr2 fd2 hrd2 i2 e2 => ?_
  have CC : Chg (fun b => b = P ∨ b = L) s s5 := by
    obtain ⟨hA, tA, rfl, kA⟩ := K1
    obtain ⟨hB, tB, rfl, kB⟩ := K5
    refine ⟨hB, tB, rfl, fun b o hb e => kB b o (k4 b o (ne_of_get e fd1) (fun h => hb (.inr h)) (kp3 b o (fun h => hb (.inl h)) (sb2.extBut b o (fun h => hb (.inr h)) (kA b o e))))⟩
  refine hQ s5 r2 d2 r1 d1 h3.objs.size c' _ CC ⟨i2, ⟨_, _, _, e2⟩, Keeps.get' K5 i4, ⟨hsh, kt, hsh', kt', _, Keeps.get' K5 e4⟩, ⟨_, ctv, Keeps.get' K5 (hob4.trans (by rw [← hob]; rfl))⟩, c4.keeps (Sub.of_keeps K5), rec4.keeps (Sub.of_keeps K5)⟩ (Keeps.get' K5 P4) ?_
  cases e : s.heap.get? d2 with
  | none => rfl
  | some o =>
    exfalso
    by_cases h1 : d2 = P
    · rw [h1] at fd2; rw [P4] at fd2; cases fd2
    · by_cases h2 : d2 = L
      · rw [h2] at fd2
        obtain ⟨oL, eL⟩ := ns_live n4
        rw [eL] at fd2; cases fd2
      · have := k4 _ _ (ne_of_get e fd1) h2 (kp3 _ _ h1 (sb2.extBut _ _ h2 (Keeps.get' K1 e)))
        rw [this] at fd2; cases fd2
end
end Mine

end

/- Pm -/
section
open PySem PySem.W PyProof.Rows
set_option Elab.async false
set_option maxRecDepth 100000
namespace Mine

def setAll (tb : Int → Option Value) (p : Addr) (es : List Int) : Int → Option Value := fun y => if y ∈ es then some (.ref p) else tb y
def tblFrom (tb : Int → Option Value) (fs : List (Addr × List Int)) : Int → Option Value := fs.foldl (fun tb p => setAll tb p.1 p.2) tb
abbrev tbl (fs : List (Addr × List Int)) : Int → Option Value := tblFrom (fun _ => none) fs

theorem valueAt_stored (kvs : List (Int × Value)) (k : Int) (v : Value) (x : Int) : valueAt (stored kvs k v) x = if x = k then some v else valueAt kvs x := by
  unfold stored
  split
  · rename_i h
    induction kvs with
    | nil => simp at h
    | cons a r ih =>
      unfold valueAt at ih ⊢
      rw [List.map_cons, List.find?_cons, List.find?_cons]
      by_cases ha : a.1 = k
      · rw [if_pos ha]
        by_cases hx : x = k
        · subst hx; simp [ha]
        · have h1 : decide (a.1 = x) = false := by simp [ha]; exact fun e => hx e.symm
          simp only [h1, if_neg hx]
          by_cases hr : (r.any fun kv => decide (kv.1 = k)) = true
          · rw [ih hr, if_neg hx]
          · have hn : ∀ kv ∈ r, kv.1 ≠ k := fun kv hm e => hr (List.any_eq_true.mpr ⟨kv, hm, by simpa using e⟩)
            have e : (r.map fun kv => if kv.1 = k then (kv.1, v) else kv) = r := by
              conv => rhs; rw [← List.map_id r]
              exact List.map_congr_left fun kv hm => by simp [hn kv hm]
            rw [e]
      · have hr : (r.any fun kv => decide (kv.1 = k)) = true := by
          rw [List.any_cons] at h
          simpa [ha] using h
        rw [if_neg ha]
        by_cases hx : a.1 = x
        · have : x ≠ k := fun e => ha (hx.trans e)
          simp [hx, this]
        · simp only [hx, decide_false]
          exact ih hr
  · rename_i h
    have hn : ∀ kv ∈ kvs, kv.1 ≠ k := fun kv hm e => h (List.any_eq_true.mpr ⟨kv, hm, by simpa using e⟩)
    unfold valueAt
    rw [List.find?_append]
    by_cases hx : x = k
    · subst hx
      have : kvs.find? (fun kv => decide (kv.1 = x)) = none := List.find?_eq_none.mpr fun kv hm => by simpa using hn kv hm
      rw [this]; simp
    · rw [if_neg hx]
      cases e : kvs.find? (fun kv => decide (kv.1 = x)) with
      | some a => simp
      | none => simp [Ne.symm hx]

/-- the table -/
def TdAt (prog : Program) (w : World) (h : Heap) (td : Addr) (tb : Int → Option Value) (N : Nat) : Prop := ∃ kvs, h.DictOf (intKind prog w) td kvs ∧ (∀ k, valueAt kvs k = tb k) ∧ kvs.length ≤ N
theorem TdAt.at {prog : Program} {w : World} {h h' : Heap} {td : Addr} {tb : Int → Option Value} {N : Nat} (x : TdAt prog w h td tb N) (k : ∀ o, h.get? td = some o → h'.get? td = some o) : TdAt prog w h' td tb N :=
  let ⟨kvs, ⟨o, es, ep, e, r⟩, b⟩ := x; ⟨kvs, ⟨o, es, ep, k o e, r⟩, b⟩
theorem TdAt.live {prog : Program} {w : World} {h : Heap} {td : Addr} {tb : Int → Option Value} {N : Nat} (x : TdAt prog w h td tb N) : ∃ o, h.get? td = some o := let ⟨_, ⟨o, _, _, e, _⟩, _⟩ := x; ⟨o, e⟩

def pmIf : List Stmt := bodyOf (nth pmBody 1)
def pmFor : Stmt := nth pmIf 1

theorem ints_item {vs : List Value} {ns : List Int} (h : IntsAre vs ns) : ∀ {i : Nat} {v : Value}, vs[i]? = some v → ∃ n t, ns[i]? = some n ∧ v = Value.int n t := by
  induction h with
  | nil => intro i v h; simp at h
  | cons n t _ ih =>
    intro i v h
    cases i with
    | zero => simp at h; exact ⟨n, t, rfl, h.symm⟩
    | succ i => obtain ⟨n', t', e1, e2⟩ := ih (by simpa using h); exact ⟨n', t', by simpa using e1, e2⟩

section
variable {prog : Program} {w : World} {A : Around} {E : Value → Shared → Prop} {s : Shared} {m : Str → Option Value} {L f td : Addr} {cd : Value} {nm : Str}

theorem pm_inner {p : Addr} {es : List Int} {tb : Int → Option Value} {N : Nat} {Q : Flow → Shared → Prop} (hh : A.handled = none) (hn : s.heap.Ns L m) (hp : m "p" = some (.ref p)) (hd : m "parent_map" = some (.ref td))
    (hes : IntL s.heap p es) (hpL : p ≠ L) (hptd : p ≠ td) (htdL : td ≠ L) (hT : TdAt prog w s.heap td tb N) (hN : N + es.length ≤ 1000)
    (k : ∀ s' m', Chg (fun b => b = L ∨ b = td) s s' → s'.heap.Ns L m' → (∀ y : Str, y ≠ "e" → m' y = m y) → TdAt prog w s'.heap td (setAll tb p es) (N + es.length) → Q .next s') :
    wpAny (model prog w) A (exec (nth (bodyOf pmFor) 0) (envOf nm pmScope L f cd)) Q E s := by
  have hfresh := get_size s.heap
  have hLI : L ≠ s.heap.objs.size := by obtain ⟨o, e⟩ := ns_live hn; exact ne_of_get e hfresh
  have htI : td ≠ s.heap.objs.size := by obtain ⟨o, e⟩ := hT.live; exact ne_of_get e hfresh
  obtain ⟨vs, hvs, hvi⟩ := hes
  have hlen := hvi.length
  refine for_list hh (ldN hn hp ⟨p, _, fun i s₁ => Chg (fun b => b = L ∨ b = td) s s₁ ∧ (∃ m', s₁.heap.Ns L m' ∧ (∀ y : Str, y ≠ "e" → m' y = m y)) ∧ TdAt prog w s₁.heap td (setAll tb p (es.take i)) (N + i), rfl, hvs.isList, ?_, ?_, ?_, ?_⟩)
  · intro h' k
    refine ⟨(Chg.refl _ s).stepH fun b o _ e => k b o e, ⟨m, hn.at' fun o e => k _ o e, fun _ _ => rfl⟩, ?_⟩
    have e : setAll tb p (es.take 0) = tb := by funext y; simp [setAll]
    rw [e]
    exact hT.at fun o e => k _ o e
  · rintro i s₁ h' tk ⟨C, ⟨m', hn', hm'⟩, hi⟩ hk
    refine ⟨?_, ⟨m', hn'.at' fun o e => hk L o hLI e, hm'⟩, hi.at fun o e => hk _ o htI e⟩
    obtain ⟨h1, t1, rfl, k1⟩ := C
    exact ⟨h', tk, rfl, fun b o nb e => hk b o (ne_of_get e hfresh) (k1 b o nb e)⟩
  · rintro i v s₁ hP ⟨C, ⟨m', hn', hm'⟩, kvs, hkv, hkt, hkl⟩ hl₁ ⟨oI, hoI⟩
    obtain ⟨x, tx, hx, rfl⟩ := ints_item hvi (by simpa using hP)
    have hilt : i < es.length := (List.getElem?_eq_some_iff.mp hx).1
    refine wpAny_assign_Name (stN' (env := envOf nm pmScope L f cd) (s := s₁) hn' fun h₁ hn₁ hs₁ => ?_)
    refine wpAny_execs_cons (wpAny_Assign_Subscript (ldN (env := envOf nm pmScope L f cd) hn₁ (by rw [if_neg (by decide), hm' _ (by decide), hp]) (ldN (env := envOf nm pmScope L f cd) hn₁ (by rw [if_neg (by decide), hm' _ (by decide), hd]) (ldN (env := envOf nm pmScope L f cd) hn₁ (by rw [if_pos rfl]) ?_))))
    refine wpAny_setItem_pairs (knd := intKind prog w) (k := x) (kvs := kvs) (intKind_is _ _ _ _) (hkv.sameBut hs₁ htdL) (fun h₂ hd₂ hs₂ => ?_) (by rw [sizeLine_eq]; omega)
    have K2 : ∀ b o, b ≠ L → b ≠ td → s₁.heap.get? b = some o → h₂.get? b = some o := fun b o h1 h2 e => hs₂.extBut b o h2 (hs₁.extBut b o h1 e)
    refine wpAny_execs_nil ⟨⟨C.step fun b o hb e => K2 b o (fun h => hb (.inl h)) (fun h => hb (.inr h)) e, ⟨_, hn₁.sameBut hs₂ (Ne.symm htdL), fun y hy => by rw [if_neg hy, hm' y hy]⟩, _, hd₂, fun y => ?_, ?_⟩, fun o e => K2 _ o (Ne.symm hLI) (Ne.symm htI) e, fun o e => K2 _ o hpL hptd e⟩
    · rw [valueAt_stored, hkt]
      simp only [setAll]
      rw [List.take_add_one, hx]
      simp only [Option.toList_some, List.mem_append, List.mem_singleton]
      by_cases h1 : y = x
      · subst h1; simp
      · by_cases h2 : y ∈ es.take i <;> simp [h1, h2]
    · have := stored_length_le kvs x (.ref p); omega
  · rintro s₁ ⟨C, ⟨m', hn', hm'⟩, hi⟩
    refine wpAny_execs_nil (k s₁ m' C hn' hm' ?_)
    rw [show vs.toArray.size = es.length by simpa using hlen, List.take_length] at hi
    exact hi
end
end Mine

end

/- Pm2 -/
section
open PySem PySem.W PyProof.Rows
set_option Elab.async false
set_option maxRecDepth 100000
namespace Mine
def iterOf : Stmt → Expr | .For _ it _ _ _ => it | _ => .Constant .none 0 default

section
variable {prog : Program} {w : World} {A : Around} {E : Value → Shared → Prop} {s : Shared} {g : Heap} {m mg mb : Str → Option Value} {L f td : Addr} {cd : Value} {nm : Str}

theorem lam0_call {name qual : Str} {params : Arguments} {body : Expr} {scope : Scope} {clos : List (Str × Addr)} {pm ctv : Value} {c' fq : Addr} {Q : Value → Shared → Prop} (hroom : A.depth < recursionLimit)
    (ho : s.heap.get? fq = some (kla_obj name qual params body scope clos pm c' ctv)) (hcd : s.heap.CodeRec (.ref c') qual) (hlim : s.heap.NoLimit)
    (hbind : bindArgs (kla_fn name qual params body scope clos pm (.ref c') ctv) ⟨[], []⟩ = pure []) (hcell : ∀ x ∈ scope.names, x.2 ≠ .cell)
    (h : ∀ C h₁, Sub s.heap h₁ → wpAny (model prog w) (A.deeper (newEnv scope C mainGlobals clos (qual ++ ".<locals>.") (some fq) (.ref c') none builtinsNs)) (eval body (newEnv scope C mainGlobals clos (qual ++ ".<locals>.") (some fq) (.ref c') none builtinsNs)) Q (fun _ _ => False) { s with heap := h₁ })
    (hco : scope.isCoroutine = false := by rfl) (hgen : scope.isGenerator = false := by rfl) (hk : scope.kind = .function := by rfl) :
    wpAny (model prog w) A (call (.ref fq) []) Q E s := by
  refine wpAny_call (kla_callFunE hroom ho rfl hco hgen rfl hcd ?_)
  rw [hbind]
  refine wpAny_pure (wpAny_newFunctionEnv hcell (by intro x hx; cases hx) (fun h₁ hns hsb => ?_) hk)
  have K : Sub s.heap h₁ := fun b o e => hsb.extBut b o (ne_of_get e (get_size _)) (Heap.get?_push_of_some _ e)
  exact ⟨hlim.keeps K, kla_codeExpr (wpAny_mono (h s.heap.objs.size h₁ K) (fun _ _ h => h) fun _ _ h => h.elim)⟩

/-- context.root.iter() -/
theorem pm_iter {Lc r2 d2 r1 d1 fq c' fam : Addr} {Q : Value → Shared → Prop} (hroom : A.depth < recursionLimit) (X : (KK w).In g) (S : Stat mg mb g) (SG : Sub g s.heap)
    (hn : s.heap.Ns L m) (hm : m "context" = some (.ref r2)) (i2 : s.heap.get? r2 = some (instObj 43 d2)) {es : List DictEntry} {n : Nat} (e2 : s.heap.get? d2 = some (dictOf es n)) (hl2 : getL "root" es = some (some (.ref r1)))
    (i1 : s.heap.get? r1 = some (instObj 43 d1)) (e1 : ∃ hsh kt hsh' kt' n, s.heap.get? d1 = some (dictOf [⟨hsh, .str "root" kt, .ref fam⟩, ⟨hsh', .str "iter" kt', .ref fq⟩] n))
    (fn : ∃ pm ctv, s.heap.get? fq = some (kla_obj "<lambda>" ("_law_context.<locals>." ++ "<lambda>") (lamArgsOf cxLam) (lamBodyOf cxLam) (lamScopeOf cxLam) [("families", Lc + 1)] pm c' ctv))
    (cell : s.heap.IsCell (Lc + 1) (some (.ref fam))) (code : s.heap.CodeRec (.ref c') ("_law_context.<locals>." ++ "<lambda>"))
    (hQ : ∀ s', Keeps s s' → Q (.ref fam) s') :
    wpAny (model prog w) A (eval (iterOf pmFor) (envOf nm pmScope L f cd)) Q E s := by
  have Xs : (KK w).In s.heap := fun b o e => SG b o (X b o e)
  have I2 : InstAt s.heap r2 (instObj 43 d2) 43 (some (dictOf es n)) := ⟨i2, rfl, rfl, e2⟩
  obtain ⟨hsh, kt, hsh', kt', n1, e1⟩ := e1
  have I1 : InstAt s.heap r1 (instObj 43 d1) 43 (some (dictOf [⟨hsh, .str "root" kt, .ref fam⟩, ⟨hsh', .str "iter" kt', .ref fq⟩] n1)) := ⟨i1, rfl, rfl, e1⟩
  refine methodCall_KW (Attribute_name (ldN (env := envOf nm pmScope L f cd) hn hm (get_value (K := KK w) Xs I2 rfl (findObj_own (attr := none) rfl rfl rfl (by rw [lookIn_dict]; exact hl2)) rfl ?_)))
  refine method_usual (K := KK w) (s := { s with toks := s.toks + 1 }) (r := none) Xs I1 rfl rfl rfl rfl (get_value (K := KK w) (s := { s with toks := s.toks + 1 }) Xs I1 rfl (findObj_own (attr := none) rfl rfl rfl rfl) rfl ?_)
  obtain ⟨pm, ctv, hfn⟩ := fn
  refine Calls.callWith_function (o := kla_obj "<lambda>" ("_law_context.<locals>." ++ "<lambda>") (lamArgsOf cxLam) (lamBodyOf cxLam) (lamScopeOf cxLam) [("families", Lc + 1)] pm c' ctv) (evalArgs_nil3 ⟨⟨hfn, rfl⟩, ?_⟩)
  refine lam0_call (s := { s with toks := _ }) hroom hfn code (S.lim.keeps SG) rfl (by decide) fun C h₁ K => ?_
  refine ldFree (env := newEnv (lamScopeOf cxLam) C mainGlobals [("families", Lc + 1)] _ _ _ none builtinsNs) (cell.keeps K) (hQ _ ⟨h₁, _, rfl, K⟩)
end
end Mine

end

/- Pm3 -/
section
open PySem PySem.W PyProof.Rows
set_option Elab.async false
set_option maxRecDepth 100000
namespace Mine

theorem tbl_take {fs : List (Addr × List Int)} {i : Nat} {p : Addr × List Int} (h : fs[i]? = some p) (tb : Int → Option Value) : tblFrom tb (fs.take (i + 1)) = setAll (tblFrom tb (fs.take i)) p.1 p.2 := by
  unfold tblFrom
  rw [List.take_add_one, h]
  simp
theorem sum_take {fs : List (Addr × List Int)} {i : Nat} {p : Addr × List Int} (h : fs[i]? = some p) : (((fs.take (i + 1)).map fun p => p.2.length).sum) = ((fs.take i).map fun p => p.2.length).sum + p.2.length := by
  rw [List.take_add_one, h]
  simp

section
variable {prog : Program} {w : World} {A : Around} {E : Value → Shared → Prop} {s : Shared} {g : Heap} {m mg mb : Str → Option Value} {L f td : Addr} {cd : Value} {nm : Str}

theorem pm_for {fam : Addr} {fs : List (Addr × List Int)} {Q : Flow → Shared → Prop} (hh : A.handled = none)
    (hiter : ∀ E (Q : Value → Shared → Prop), (∀ s', Keeps s s' → Q (.ref fam) s') → wpAny (model prog w) A (eval (iterOf pmFor) (envOf nm pmScope L f cd)) Q E s)
    (hn : s.heap.Ns L m) (hd : m "parent_map" = some (.ref td)) (hM : Mat s.heap fam fs) (hfL : fam ≠ L ∧ fam ≠ td) (hrow : ∀ p ∈ fs, p.1 ≠ L ∧ p.1 ≠ td) (htdL : td ≠ L) (hT : TdAt prog w s.heap td (fun _ => none) 0)
    (hN : (fs.map fun p => p.2.length).sum ≤ 900)
    (k : ∀ s' m', Chg (fun b => b = L ∨ b = td) s s' → s'.heap.Ns L m' → (∀ y : Str, y ≠ "e" → y ≠ "p" → m' y = m y) → TdAt prog w s'.heap td (tbl fs) ((fs.map fun p => p.2.length).sum) → Q .next s') :
    wpAny (model prog w) A (exec pmFor (envOf nm pmScope L f cd)) Q E s := by
  refine for_list hh (hiter _ _ fun s₀ K₀ => ?_)
  have hn₀ := hn.keeps (Sub.of_keeps K₀)
  have hM₀ := hM.keep (Sub.of_keeps K₀)
  have hT₀ : TdAt prog w s₀.heap td (fun _ => none) 0 := hT.at fun o e => Keeps.get' K₀ e
  have hfresh := get_size s₀.heap
  have hLI : L ≠ s₀.heap.objs.size := by obtain ⟨o, e⟩ := ns_live hn₀; exact ne_of_get e hfresh
  have htI : td ≠ s₀.heap.objs.size := by obtain ⟨o, e⟩ := hT₀.live; exact ne_of_get e hfresh
  refine ⟨fam, _, fun i s₁ => Chg (fun b => b = L ∨ b = td) s₀ s₁ ∧ (∃ m', s₁.heap.Ns L m' ∧ (∀ y : Str, y ≠ "e" → y ≠ "p" → m' y = m y)) ∧ TdAt prog w s₁.heap td (tblFrom (fun _ => none) (fs.take i)) ((fs.take i).map fun p => p.2.length).sum, rfl, hM₀.l, ?_, ?_, ?_, ?_⟩
  · intro h' k
    exact ⟨(Chg.refl _ s₀).stepH fun b o _ e => k b o e, ⟨m, hn₀.at' fun o e => k _ o e, fun _ _ _ => rfl⟩, hT₀.at fun o e => k _ o e⟩
  · rintro i s₁ h' tk ⟨C, ⟨m', hn', hm'⟩, hi⟩ hk
    refine ⟨?_, ⟨m', hn'.at' fun o e => hk L o hLI e, hm'⟩, hi.at fun o e => hk _ o htI e⟩
    obtain ⟨h1, t1, rfl, k1⟩ := C
    exact ⟨h', tk, rfl, fun b o nb e => hk b o (ne_of_get e hfresh) (k1 b o nb e)⟩
  · rintro i v s₁ hP ⟨C, ⟨m', hn', hm'⟩, hT₁⟩ hl₁ ⟨oI, hoI⟩
    obtain ⟨p, hp, rfl⟩ : ∃ p, fs[i]? = some p ∧ v = .ref p.1 := by
      simp only [List.getElem?_toArray, List.getElem?_map, Option.map_eq_some_iff] at hP
      obtain ⟨p, hp, e⟩ := hP; exact ⟨p, hp, e.symm⟩
    have hpm := List.mem_of_getElem? hp
    have hpl : IntL s₁.heap p.1 p.2 := (hM₀.r p hpm).chg C fun h => h.elim (hrow p hpm).1 (hrow p hpm).2
    refine wpAny_assign_Name (stN' (env := envOf nm pmScope L f cd) (s := s₁) hn' fun h₁ hn₁ hs₁ => ?_)
    have hsum := sum_take hp
    have hle : ((fs.take (i + 1)).map fun p => p.2.length).sum ≤ 900 := by
      have e : (fs.map fun p => p.2.length).sum = ((fs.take (i + 1)).map fun p => p.2.length).sum + ((fs.drop (i + 1)).map fun p => p.2.length).sum := by
        rw [← List.sum_append, ← List.map_append, List.take_append_drop]
      omega
    have nI : s₀.heap.objs.size ≠ L := Ne.symm hLI
    refine wpAny_execs_cons (st := nth (bodyOf pmFor) 0) (pm_inner (tb := tblFrom (fun _ => none) (fs.take i)) (N := ((fs.take i).map fun p => p.2.length).sum) (s := { s₁ with heap := h₁, toks := _ }) hh hn₁ (by rw [if_pos rfl]) (by rw [if_neg (by decide), hm' _ (by decide) (by decide), hd]) (hpl.at fun o e => hs₁.extBut _ o (hrow p hpm).1 e) (hrow p hpm).1 (hrow p hpm).2 htdL (hT₁.at fun o e => hs₁.extBut _ o htdL e) (by omega) fun s₂ m₂ C₂ hn₂ hm₂ hT₂ => ?_)
    have CC : Chg (fun b => b = L ∨ b = td) s₁ s₂ := ((Chg.refl _ s₁).step fun b o hb e => hs₁.extBut b o (fun h => hb (.inl h)) e).trans C₂
    refine wpAny_execs_nil ⟨⟨C.trans CC, ⟨m₂, hn₂, fun y h1 h2 => by rw [hm₂ y h1, if_neg h2, hm' y h1 h2]⟩, ?_⟩, fun o e => CC.get (fun h => h.elim nI (Ne.symm htI)) e, fun o e => CC.get (fun h => h.elim hfL.1 hfL.2) e⟩
    rw [tbl_take hp, hsum]
    exact hT₂
  · rintro s₁ ⟨C, ⟨m', hn', hm'⟩, hT₁⟩
    refine wpAny_execs_nil (k s₁ m' ((Chg.of_keeps _ K₀).trans C) hn' hm' ?_)
    have e : (fs.map fun p => Value.ref p.1).toArray.size = fs.length := by simp
    rw [e, List.take_length] at hT₁
    exact hT₁

theorem pm_body {Lc r2 d2 r1 d1 fq c' fam : Addr} {fs : List (Addr × List Int)} {Q : Flow → Shared → Prop} (hh : A.handled = none) (hroom : A.depth < recursionLimit) (X : (KK w).In g) (S : Stat mg mb g) (SG : Sub g s.heap)
    (hn : s.heap.Ns L m) (hm : m "context" = some (.ref r2)) (Cx : CtxAt s.heap Lc r2 d2 r1 d1 fq c' fam) (hM : Mat s.heap fam fs) (hgL : g.get? L = none) (hgd : g.get? d2 = none)
    (hLd : ∀ b, b = r2 ∨ b = d2 ∨ b = r1 ∨ b = d1 ∨ b = fq ∨ b = c' ∨ b = Lc + 1 ∨ b = fam ∨ b ∈ fs.map (·.1) → b ≠ L) (hd2 : ∀ b, b = r2 ∨ b = r1 ∨ b = d1 ∨ b = fq ∨ b = c' ∨ b = Lc + 1 ∨ b = fam ∨ b ∈ fs.map (·.1) → b ≠ d2)
    (hN : (fs.map fun p => p.2.length).sum ≤ 900)
    (hQ : ∀ s' td, Chg (fun b => b = L ∨ b = d2) s s' → TdAt prog w s'.heap td (tbl fs) ((fs.map fun p => p.2.length).sum) → s.heap.get? td = none → mainGlobals < td → Q (.ret (.ref td)) s') :
    wpAny (model prog w) A (execs pmBody (envOf nm pmScope L f cd)) Q E s := by
  have Xs : ∀ {h : Heap}, Sub g h → (KK w).In h := fun k b o e => k b o (X b o e)
  obtain ⟨hsh, kt, n2, e2⟩ := Cx.e2
  have hd2L : d2 ≠ L := hLd _ (.inr (.inl rfl))
  have hr2L : r2 ≠ L := hLd _ (.inl rfl)
  have hr2d : r2 ≠ d2 := hd2 _ (.inl rfl)
  have I2 : InstAt s.heap r2 (instObj 43 d2) 43 (some (dictOf [⟨hsh, .str "root" kt, .ref r1⟩] n2)) := ⟨Cx.i2, rfl, rfl, e2⟩
  -- parent_map = context.parent_map
  refine wpAny_execs_cons (st := nth pmBody 0) (wpAny_Assign_Name (Attribute_name (ldN (env := envOf nm pmScope L f cd) hn hm (get_value (K := KK w) (Xs SG) I2 rfl (findObj_cls (a := .none) rfl rfl rfl rfl (by decide +kernel) rfl) rfl (stN' (env := envOf nm pmScope L f cd) (s := { s with toks := _ }) hn fun h₁ hn₁ hs₁ => ?_)))))
  have SG1 : Sub g h₁ := fun b o e => hs₁.extBut b o (ne_of_get e hgL) (SG b o e)
  have i2' : h₁.get? r2 = some (instObj 43 d2) := hs₁.extBut _ _ hr2L Cx.i2
  have e2' : h₁.get? d2 = some (dictOf [⟨hsh, .str "root" kt, .ref r1⟩] n2) := hs₁.extBut _ _ hd2L e2
  -- if parent_map is None
  refine wpAny_execs_cons (st := nth pmBody 1) (wpAny_If (wpAny_isTrue_Compare1 (ldN (env := envOf nm pmScope L f cd) hn₁ (by rw [if_pos rfl]) (wpAny_Constant_none (is_none_none (wpAny_truthy_bool ?_))))))
  simp only [if_true]
  -- context.parent_map = parent_map = {}
  refine wpAny_execs_cons (st := nth pmIf 0) (wpAny_Assign_two (wpAny_Dict_empty (kas_attr (ldN (env := envOf nm pmScope L f cd) (hn₁.push _) (by rw [if_neg (by decide), hm]) ?_))))
  generalize hH2 : h₁.push { cls := .type "dict", data := .dict #[] } = H2
  have k2 : Sub h₁ H2 := fun b o e => hH2 ▸ Heap.get?_push_of_some _ e
  have hTd : H2.DictOf (intKind prog w) h₁.objs.size [] := hH2 ▸ Heap.DictOf.new h₁
  have ftd : h₁.get? h₁.objs.size = none := get_size _
  refine set_inst (K := KK w) (C := 43) (ox := instObj 43 d2) (dx := d2) (es := [⟨hsh, .str "root" kt, .ref r1⟩]) (n := n2) (s := { s with heap := H2, toks := _ }) (Xs fun b o e => k2 b o (SG1 b o e)) ⟨k2 _ _ i2', rfl, rfl, k2 _ _ e2'⟩ rfl (k2 _ _ e2') (hn₁.keeps k2) hd2L rfl rfl rfl rfl rfl (by show 1 ≤ 900; decide) fun h₃ hsh3 kt3 t3 k3 hn₃ e3 => ?_
  refine wpAny_assign_Name (stN' (env := envOf nm pmScope L f cd) (s := { s with heap := h₃, toks := t3 }) hn₃ fun h₄ hn₄ hs₄ => ?_)
  have K4 : ∀ b o, b ≠ L → b ≠ d2 → s.heap.get? b = some o → h₄.get? b = some o := fun b o h1 h2 e => hs₄.extBut b o h1 (k3 b o h2 h1 (k2 b o (hs₁.extBut b o h1 e)))
  have SG4 : Sub g h₄ := fun b o e => K4 b o (ne_of_get e hgL) (ne_of_get e hgd) (SG b o e)
  have htdL : h₁.objs.size ≠ L := ne_live (ns_live hn₁) ftd
  have htd2 : h₁.objs.size ≠ d2 := ne_live ⟨_, e2'⟩ ftd
  have hK : ∀ b, (b = r2 ∨ b = r1 ∨ b = d1 ∨ b = fq ∨ b = c' ∨ b = Lc + 1 ∨ b = fam ∨ b ∈ fs.map (·.1)) → ∀ o, s.heap.get? b = some o → h₄.get? b = some o := fun b hb o e =>
    K4 b o (hLd b (by rcases hb with h | h | h | h | h | h | h | h <;> simp [h])) (hd2 b hb) e
  have hM4 : Mat h₄ fam fs := ⟨hM.l.at fun o e => hK _ (.inr (.inr (.inr (.inr (.inr (.inr (.inl rfl))))))) o e, fun p hp => (hM.r p hp).at fun o e => hK _ (.inr (.inr (.inr (.inr (.inr (.inr (.inr (List.mem_map_of_mem hp)))))))) o e⟩
  have e4 : h₄.get? d2 = some (dictOf (putL "parent_map" hsh3 (.str "parent_map" kt3) (.ref h₁.objs.size) [⟨hsh, .str "root" kt, .ref r1⟩]) (putN "parent_map" [⟨hsh, .str "root" kt, .ref r1⟩] n2)) := hs₄.extBut _ _ hd2L e3
  have ftds : s.heap.get? h₁.objs.size = none := by
    cases e : s.heap.get? h₁.objs.size with
    | none => rfl
    | some o => have := hs₁.extBut _ _ htdL e; rw [ftd] at this; cases this
  refine wpAny_execs_cons (st := pmFor) (pm_for (td := h₁.objs.size) (fam := fam) (fs := fs) (s := { s with heap := h₄, toks := _ }) hh (fun E Q hq => ?_) hn₄ (by rw [if_pos rfl]) hM4 ⟨hLd _ (by simp), ?_⟩ (fun p hp => ⟨hLd _ (by simp only [List.mem_map_of_mem hp, or_true]), ?_⟩) htdL ⟨[], ?_, fun _ => rfl, Nat.le_refl _⟩ hN fun s₅ m₅ C₅ hn₅ hm₅ hT₅ => ?_)
  · refine pm_iter (Lc := Lc) (r2 := r2) (d2 := d2) (r1 := r1) (d1 := d1) (fq := fq) (c' := c') (fam := fam) (s := { s with heap := h₄, toks := _ }) hroom X S SG4 hn₄ (by rw [if_neg (by decide), if_neg (by decide), hm]) (hK _ (.inl rfl) _ Cx.i2) e4 rfl (hK _ (.inr (.inl rfl)) _ Cx.i1) ?_ ?_ ?_ ?_ hq
    · obtain ⟨a, b, c, d, n, e⟩ := Cx.e1
      exact ⟨a, b, c, d, n, hK _ (.inr (.inr (.inl rfl))) _ e⟩
    · obtain ⟨a, b, e⟩ := Cx.fn
      exact ⟨a, b, hK _ (.inr (.inr (.inr (.inl rfl)))) _ e⟩
    · obtain ⟨o, e, d⟩ := Cx.cell
      exact ⟨o, hK _ (.inr (.inr (.inr (.inr (.inr (.inl rfl)))))) _ e, d⟩
    · obtain ⟨c0, o, vs, t, ec, e, r⟩ := Cx.code
      cases ec
      exact ⟨_, o, vs, t, rfl, hK _ (.inr (.inr (.inr (.inr (.inl rfl))))) _ e, r⟩
  · obtain ⟨o, e⟩ := isList_live hM.l
    exact ne_of_get e ftds
  · obtain ⟨o, e⟩ := (hM.r p hp).live
    exact ne_of_get e ftds
  · exact (hTd.at fun o e => k3 _ o htd2 htdL e).sameBut hs₄ htdL
  · refine wpAny_execs_nil (wpAny_execs_cons (st := nth pmBody 2) (wpAny_Return_some (ldN (env := envOf nm pmScope L f cd) hn₅ (by rw [hm₅ _ (by decide) (by decide), if_pos rfl]) ?_)))
    refine hQ s₅ h₁.objs.size ?_ hT₅ ftds (by obtain ⟨o, e⟩ := ns_live S.gl.g; exact Heap.lt_size (SG1 _ _ e))
    obtain ⟨h5, t5, rfl, k5⟩ := C₅
    exact ⟨h5, t5, rfl, fun b o hb e => k5 b o (fun h => h.elim (fun h => hb (.inl h)) (ne_of_get e ftds)) (K4 b o (fun h => hb (.inl h)) (fun h => hb (.inr h)) e)⟩
end
end Mine

end

/- LOps -/
section
open PySem PySem.W PyProof.Rows
set_option Elab.async false
set_option maxRecDepth 100000
namespace Mine
section
variable {prog : Program} {w : World} {A : Around} {E : Value → Shared → Prop} {s : Shared} {env : Env} {mg mb : Str → Option Value}

/-- e[::-1] -/
theorem rev_slice {value : Expr} {p pos p1 p2 : Pos} {Q : Value → Shared → Prop}
    (h : wpAny (model prog w) A (eval value env) (fun o s₁ => ∃ l items, o = .ref l ∧ s₁.heap.IsList l (List.toArray items) ∧ items.length ≤ 1000 ∧ ∀ D s', Keeps s₁ s' → s₁.heap.get? D = none → s'.heap.PlainList D items.reverse.toArray → Q (.ref D) s') E s) :
    wpAny (model prog w) A (eval (.Subscript value (.Slice none none (some (.UnaryOp .USub (.Constant (.int 1) 0 p1) p2)) p) pos) env) Q E s := by
  refine Subscript_ (wpAny_mono h (fun o s₁ h₁ => ?_) fun _ _ e => e)
  obtain ⟨l, items, rfl, hl, hsz, hQ⟩ := h₁
  refine wpAny_Slice (wpAny_evalPart_none (wpAny_evalPart_none (wpAny_evalPart_some (wpAny_UnaryOp (wpAny_Constant_int (neg_int ?_))))))
  refine tail_any (T := "list") (Heap.IsList.push (h := s₁.heap) hl _).typeIs slot_list_getitem.lookup (wpAny_getItem_list_slice (Heap.IsList.push (h := s₁.heap) hl _) (Heap.IsSliceOf.new ..) .none .none (.int (-1) _) (by decide) ?_ (by rw [List.size_toArray, sizeLine_eq]; omega)) (by with_unfolding_all rfl)
  rw [krv_pick]
  refine hQ _ _ ⟨_, _, rfl, fun b o e => Heap.get?_push_of_some _ (Heap.get?_push_of_some _ e)⟩ ?_ (push_plain _ _)
  exact fresh_size fun b o e => Heap.get?_push_of_some _ e

theorem plainL_isL {h : Heap} {l : Addr} {xs : Array Value} (x : h.PlainList l xs) : ∃ n, PySem.IsL h l xs n := x

/-- list + list -/
theorem add_lists' {l b : Addr} {vs us : List Value} {Q : Value → Shared → Prop} (hl : s.heap.PlainList l vs.toArray) (hb : s.heap.PlainList b us.toArray) (hsz : vs.length + us.length ≤ 1000)
    (h : ∀ D s', Keeps s s' → s.heap.get? D = none → s'.heap.PlainList D (vs ++ us).toArray → Q (.ref D) s') : wpAny (model prog w) A (binaryOp .Add (.ref l) (.ref b)) Q E s := by
  obtain ⟨n, h1⟩ := hl
  obtain ⟨n', h2⟩ := hb
  refine PySem.P.add_list h1 h2 ?_ (by simp only [List.size_toArray]; rw [sizeLine_eq]; omega)
  refine h _ _ (Keeps.push' s _ s.toks) (get_size _) ?_
  have := push_plain s.heap (vs.toArray ++ us.toArray)
  have e : vs.toArray ++ us.toArray = (vs ++ us).toArray := by simp
  rw [← e]
  exact this

theorem insert_0 {l : Addr} {vs : List Value} {u : Tok} {y : Value} {Q : Value → Shared → Prop} (hl : s.heap.PlainList l vs.toArray) (hsz : vs.length ≤ 1000)
    (h : ∀ h', Heap.SameBut l s.heap h' → h'.PlainList l (y :: vs).toArray → Q .none { s with heap := h' }) : wpAny (model prog w) A (call (.builtin "list.insert") [.ref l, .int 0 u, y]) Q E s := by
  obtain ⟨n, h1⟩ := hl
  refine call_meets PySem.F.slot_list_insert ⟨_, h1, rfl⟩ PySem.F.entry_list_insert (PySem.F.args_list_insert_3 _ _ _) (PySem.AutoSeq1.list_insert_list_int_val_1 l _ n 0 u y (by decide) (by rw [List.size_toArray, sizeLine_eq]; omega)) ⟨h1, h _ (Heap.SameBut.update ..) ?_⟩
  have := PySem.IsL.update h1 fun xs => (xs.extract 0 (if (0 : Int) < 0 then ((0 : Int) + (xs.size : Int)).toNat else min (0 : Int).toNat xs.size)).push y ++ xs.extract (if (0 : Int) < 0 then ((0 : Int) + (xs.size : Int)).toNat else min (0 : Int).toNat xs.size)
  have e : (vs.toArray.extract 0 (if (0 : Int) < 0 then ((0 : Int) + (vs.toArray.size : Int)).toNat else min (0 : Int).toNat vs.toArray.size)).push y ++ vs.toArray.extract (if (0 : Int) < 0 then ((0 : Int) + (vs.toArray.size : Int)).toNat else min (0 : Int).toNat vs.toArray.size) = (y :: vs).toArray := by
    rw [show (if (0 : Int) < 0 then ((0 : Int) + ((vs.toArray.size : Nat) : Int)).toNat else min (0 : Int).toNat vs.toArray.size) = 0 by simp, kl_ins_eq]
    first | rfl | simp
  simp only [e] at this
  exact ⟨_, this⟩

theorem sum_ints {l : Addr} {vs : List Value} {ns : List Int} {Q : Value → Shared → Prop} (hh : A.handled = none) (hl : s.heap.IsList l vs.toArray) (hi : IntsAre vs ns)
    (h : ∀ t s', Keeps s s' → Q (.int ns.sum t) s') : wpAny (model prog w) A (call (.builtin "sum") [.ref l]) Q E s := by
  obtain ⟨xs, e1, e2, e3⟩ := items_of hi
  rw [← e1] at hl
  refine sum_intListG hh hl fun h' tk t' hk => ?_
  have e4 : preSum (numAt xs) xs.size = ns.sum := by
    rw [preSum_eq]
    have : (xs.toList.map (·.1)) = ns := by
      apply List.ext_getElem?
      intro i
      by_cases hi : i < ns.length
      · have := e3 i
        simp only [numAt, List.getD] at this
        rw [List.getElem?_eq_getElem hi] at this
        have hx : i < xs.size := by omega
        simp [hx] at this
        simp [hx, hi, this]
      · rw [List.getElem?_eq_none (by simp; omega), List.getElem?_eq_none (by omega)]
    rw [this, List.take_of_length_le (by omega)]
  rw [e4]
  exact h t' _ ⟨h', tk, rfl, hk⟩

/-- f(a, b), f a built-in -/
theorem call2 {fn : Str} {id : String} {p pos : Pos} {e1 e2 : Expr} {Q : Value → Shared → Prop} (G : Gl mg mb s.heap) (hg : mg fn = none) (hb : mb fn = some (.builtin id))
    (h : wpAny (model prog w) A (eval e1 env) (fun v₁ s₁ => wpAny (model prog w) A (eval e2 env) (fun v₂ s₂ => wpAny (model prog w) A (call (.builtin id) [v₁, v₂]) Q E s₂) E s₁) E s)
    (hse : backTo pos (starEach [e1, e2] env) = [(false, eval e1 env), (false, eval e2 env)] := by rfl)
    (hk : env.scope.kind = .function := by rfl) (hx : env.kindOf fn = some .globalImplicit := by rfl) (heg : env.globals = mainGlobals := by rfl) (heb : env.builtins = builtinsNs := by rfl) (hd : (fn == ("__debug__" : Str)) = false := by decide) :
    wpAny (model prog w) A (eval (.Call (.Name fn p) [e1, e2] [] pos) env) Q E s := by
  refine wpAny_Call_NameR (ldB G hg hb ?_ hk hx heg heb hd)
  rw [hse]
  exact Calls.callWith_builtin rfl (Calls.evalArgs_plain (Calls.spliced_cons (wpAny_mono h (fun v s₁ h₁ => Calls.spliced_cons (wpAny_mono h₁ (fun v₂ s₂ h₂ => Calls.spliced_nil h₂) fun _ _ e => e)) fun _ _ e => e)))
end
end Mine

end

/- Pure2 -/
section
/- what the law builds, in plain numbers; no program in sight -/
namespace Mine
def numsF (ns : List Int) : List Int := ns.take 8 ++ [7, 38, 20, 41, 10]
def numF (ns : List Int) (k : Nat) : Int := (numsF ns).getD (k - 1) 0
def restF (ns : List Int) (k : Nat) : Int := (numF ns k).fdiv 5
def kindF (ns : List Int) (k : Nat) : Int := (numF ns k).fmod 5
def oneI (ns : List Int) (k : Nat) : Int := (restF ns k).fmod k
def othI (ns : List Int) (k : Nat) : Int := (oneI ns k + (restF ns k).fdiv k).fmod k
def oddF (ns : List Int) : Bool := (ns.length : Int).fmod 2 == 1
def parI (ns : List Int) (k : Nat) : Int := if oddF ns then (if othI ns k < oneI ns k then othI ns k else oneI ns k) else (if othI ns k > oneI ns k then othI ns k else oneI ns k)
def parF (ns : List Int) (k : Nat) : Nat := (parI ns k).toNat
def turnF (ns : List Int) : Int := ns.sum.fmod 3
def upF (ns : List Int) (k : Nat) : Bool := (turnF ns == 1) || ((turnF ns == 2) && ((kindF ns k).fmod 2 == 1))
def waysF (ns : List Int) : Nat → List (Int × Bool)
  | 0 => []
  | i + 1 => if kindF ns (i + 1) < 2 then waysF ns i ++ [(((i + 1 : Nat) : Int), upF ns (i + 1))] else if kindF ns (i + 1) < 4 then (((i + 1 : Nat) : Int), upF ns (i + 1)) :: waysF ns i else waysF ns i
def famF (ns : List Int) : Nat → Nat → List Int
  | 0, _ => []
  | i + 1, j => famF ns i j ++ (if oneI ns (i + 1) = j then [((i + 1 : Nat) : Int)] else []) ++ (if othI ns (i + 1) = j then [((i + 1 : Nat) : Int)] else [])
def abF (ns : List Int) : Nat → List (List Int)
  | 0 => [[0]]
  | i + 1 => abF ns i ++ [(abF ns i).getD (parF ns (i + 1)) [] ++ [((i + 1 : Nat) : Int)]]

theorem numsF_len (ns : List Int) : 5 ≤ (numsF ns).length ∧ (numsF ns).length ≤ 13 := by
  unfold numsF
  simp only [List.length_append, List.length_take, List.length_cons, List.length_nil]
  omega
theorem oneI_range (ns : List Int) {k : Nat} (hk : 1 ≤ k) : 0 ≤ oneI ns k ∧ oneI ns k < k := by
  have h : (0 : Int) < k := by omega
  exact ⟨Int.fmod_nonneg_of_pos _ h, Int.fmod_lt_of_pos _ h⟩
theorem othI_range (ns : List Int) {k : Nat} (hk : 1 ≤ k) : 0 ≤ othI ns k ∧ othI ns k < k := by
  have h : (0 : Int) < k := by omega
  exact ⟨Int.fmod_nonneg_of_pos _ h, Int.fmod_lt_of_pos _ h⟩
theorem parI_range (ns : List Int) {k : Nat} (hk : 1 ≤ k) : 0 ≤ parI ns k ∧ parI ns k < k := by
  have h1 := oneI_range ns hk
  have h2 := othI_range ns hk
  unfold parI
  split <;> split <;> assumption
theorem abF_len (ns : List Int) : ∀ i, (abF ns i).length = i + 1
  | 0 => rfl
  | i + 1 => by simp [abF, abF_len ns i]
theorem abF_row_len (ns : List Int) : ∀ i r, r ∈ abF ns i → r.length ≤ i + 1
  | 0, r, h => by simp [abF] at h; simp [h]
  | i + 1, r, h => by
    simp only [abF, List.mem_append, List.mem_singleton] at h
    rcases h with h | h
    · exact Nat.le_succ_of_le (abF_row_len ns i r h)
    · subst h
      have hl : (abF ns i).getD (parF ns (i + 1)) [] ∈ abF ns i := by
        have h1 := parI_range ns (k := i + 1) (by omega)
        have h2 : parF ns (i + 1) < (abF ns i).length := by rw [abF_len]; unfold parF; omega
        rw [List.getD, List.getElem?_eq_getElem h2]
        exact List.getElem_mem _
      have := abF_row_len ns i _ hl
      rw [List.length_append, List.length_singleton]; omega
theorem waysF_len (ns : List Int) : ∀ i, (waysF ns i).length ≤ i
  | 0 => Nat.le_refl _
  | i + 1 => by
    have := waysF_len ns i
    simp only [waysF]
    split
    · simp; omega
    · split
      · simp; omega
      · omega
theorem famF_len (ns : List Int) : ∀ i j, (famF ns i j).length ≤ 2 * i
  | 0, _ => Nat.le_refl _
  | i + 1, j => by
    have := famF_len ns i j
    simp only [famF, List.length_append]
    split <;> split <;> simp <;> omega
end Mine

end

/- Law1 -/
section
open PySem PySem.W PyProof.Rows
set_option Elab.async false
set_option linter.unusedVariables false
set_option maxRecDepth 100000
namespace Mine

/-- the addresses of the law's things -/
structure LP where
  L : Addr
  nl : Addr
  sc : Addr
  fa : Addr
  ab : Addr
  wy : Addr
  I : Addr
  fams : List Addr
def LP.W (p : LP) (b : Addr) : Prop := b = p.L ∨ b = p.ab ∨ b = p.wy ∨ b ∈ p.fams
/-- they are apart -/
structure LP.Ok (p : LP) : Prop where
  nd : p.fams.Nodup
  Lf : p.L ∉ p.fams
  abL : p.ab ≠ p.L
  wyL : p.wy ≠ p.L
  abwy : p.ab ≠ p.wy
  abf : p.ab ∉ p.fams
  wyf : p.wy ∉ p.fams
  nlW : ¬ p.W p.nl
  scW : ¬ p.W p.sc
  faW : ¬ p.W p.fa
  IW : ¬ p.W p.I

def TupB (h : Heap) (p : Addr × (Int × Bool)) : Prop := ∃ o e t, h.get? p.1 = some o ∧ o.cls = .type "tuple" ∧ o.data = .seq #[.int p.2.1 t, .bool p.2.2] e
theorem TupB.at {h h' : Heap} {p : Addr × (Int × Bool)} (x : TupB h p) (k : ∀ o, h.get? p.1 = some o → h'.get? p.1 = some o) : TupB h' p := let ⟨o, e, t, a, b⟩ := x; ⟨o, e, t, k o a, b⟩

structure LS (p : LP) (s₀ : Shared) (fc : Nat → List Int) (rs : List (Addr × List Int)) (ws : List (Addr × (Int × Bool))) (m : Str → Option Value) (s : Shared) : Prop where
  chg : Chg p.W s₀ s
  ns : s.heap.Ns p.L m
  fam : ∀ j a, p.fams[j]? = some a → IntL s.heap a (fc j)
  abl : s.heap.PlainList p.ab (rs.map fun p => Value.ref p.1).toArray
  abr : ∀ q ∈ rs, IntL s.heap q.1 q.2
  abn : ∀ q ∈ rs, ¬ p.W q.1 ∧ q.1 ≠ p.I
  wyl : s.heap.PlainList p.wy (ws.map fun p => Value.ref p.1).toArray
  wyr : ∀ q ∈ ws, TupB s.heap q
  wyn : ∀ q ∈ ws, ¬ p.W q.1 ∧ q.1 ≠ p.I
  live : ∃ o, s₀.heap.get? p.I = some o

section
variable {p : LP} {s₀ s s' : Shared} {fc : Nat → List Int} {rs : List (Addr × List Int)} {ws : List (Addr × (Int × Bool))} {m : Str → Option Value}

theorem LS.fresh (x : LS p s₀ fc rs ws m s) (ok : p.Ok) {D : Addr} (h : s.heap.get? D = none) : ¬ p.W D ∧ D ≠ p.I := by
  refine ⟨fun hw => ?_, ?_⟩
  · rcases hw with hw | hw | hw | hw
    · exact ne_live (ns_live x.ns) h hw
    · obtain ⟨n, e⟩ := x.abl; exact ne_live ⟨_, e⟩ h hw
    · obtain ⟨n, e⟩ := x.wyl; exact ne_live ⟨_, e⟩ h hw
    · obtain ⟨j, hj⟩ := List.mem_iff_getElem?.mp hw
      exact ne_live (x.fam j D hj).live h rfl
  · obtain ⟨o, e⟩ := x.live
    exact ne_live ⟨o, x.chg.get ok.IW e⟩ h

theorem LS.grow (x : LS p s₀ fc rs ws m s) (k : Keeps s s') : LS p s₀ fc rs ws m s' :=
  ⟨x.chg.trans (Chg.of_keeps _ k), x.ns.keeps (Sub.of_keeps k), fun j a h => (x.fam j a h).at fun o e => Keeps.get' k e, x.abl.at fun o e => Keeps.get' k e, fun q hq => (x.abr q hq).at fun o e => Keeps.get' k e, x.abn,
    x.wyl.at fun o e => Keeps.get' k e, fun q hq => (x.wyr q hq).at fun o e => Keeps.get' k e, x.wyn, x.live⟩

theorem LS.toks (x : LS p s₀ fc rs ws m s) (tk : Nat) : LS p s₀ fc rs ws m { s with toks := tk } := x.grow ⟨s.heap, tk, rfl, fun _ _ e => e⟩

theorem LS.famL (_ : LS p s₀ fc rs ws m s) (ok : p.Ok) : ∀ (j : Nat) (a : Addr), p.fams[j]? = some a → a ≠ p.L := fun _ a h e => ok.Lf (e ▸ List.mem_of_getElem? h)

theorem LS.set (x : LS p s₀ fc rs ws m s) (ok : p.Ok) {h' : Heap} {tk : Nat} {m' : Str → Option Value} (hn : h'.Ns p.L m') (hs : Heap.SameBut p.L s.heap h') : LS p s₀ fc rs ws m' { s with heap := h', toks := tk } :=
  ⟨x.chg.step fun b o hb e => hs.extBut b o (fun h => hb (.inl h)) e, hn, fun j a h => (x.fam j a h).at fun o e => hs.extBut _ o (x.famL ok j a h) e, x.abl.at fun o e => hs.extBut _ o ok.abL e,
    fun q hq => (x.abr q hq).at fun o e => hs.extBut _ o (fun h => (x.abn q hq).1 (.inl h)) e, x.abn, x.wyl.at fun o e => hs.extBut _ o ok.wyL e, fun q hq => (x.wyr q hq).at fun o e => hs.extBut _ o (fun h => (x.wyn q hq).1 (.inl h)) e, x.wyn, x.live⟩

theorem LS.famSet (x : LS p s₀ fc rs ws m s) (ok : p.Ok) {h' : Heap} {tk : Nat} {j : Nat} {a : Addr} {l : List Int} (hj : p.fams[j]? = some a) (hl : IntL h' a l) (hs : Heap.SameBut a s.heap h') :
    LS p s₀ (fun i => if i = j then l else fc i) rs ws m { s with heap := h', toks := tk } := by
  have ham := List.mem_of_getElem? hj
  have hW : p.W a := .inr (.inr (.inr ham))
  refine ⟨x.chg.step fun b o hb e => hs.extBut b o (fun h => hb (h ▸ hW)) e, x.ns.at' fun o e => hs.extBut _ o (Ne.symm (x.famL ok j a hj)) e, fun i b hi => ?_, x.abl.at fun o e => hs.extBut _ o (fun h => ok.abf (h ▸ ham)) e,
    fun q hq => (x.abr q hq).at fun o e => hs.extBut _ o (fun h => (x.abn q hq).1 (h ▸ hW)) e, x.abn, x.wyl.at fun o e => hs.extBut _ o (fun h => ok.wyf (h ▸ ham)) e, fun q hq => (x.wyr q hq).at fun o e => hs.extBut _ o (fun h => (x.wyn q hq).1 (h ▸ hW)) e, x.wyn, x.live⟩
  dsimp only
  by_cases h : i = j
  · subst h
    rw [hj] at hi; cases hi
    rw [if_pos rfl]; exact hl
  · rw [if_neg h]
    refine (x.fam i b hi).at fun o e => hs.extBut _ o (fun hb => h ?_) e
    subst hb
    exact (List.getElem?_inj (List.getElem?_eq_some_iff.mp hi).1 ok.nd).mp (hi.trans hj.symm)

theorem LS.abSet (x : LS p s₀ fc rs ws m s) (ok : p.Ok) {h' : Heap} {tk : Nat} {q : Addr × List Int} (hq : IntL s.heap q.1 q.2) (hqn : ¬ p.W q.1 ∧ q.1 ≠ p.I) (hl : h'.PlainList p.ab ((rs ++ [q]).map fun p => Value.ref p.1).toArray) (hs : Heap.SameBut p.ab s.heap h') :
    LS p s₀ fc (rs ++ [q]) ws m { s with heap := h', toks := tk } := by
  have hW : p.W p.ab := .inr (.inl rfl)
  refine ⟨x.chg.step fun b o hb e => hs.extBut b o (fun h => hb (h ▸ hW)) e, x.ns.at' fun o e => hs.extBut _ o (Ne.symm ok.abL) e, fun i b hi => (x.fam i b hi).at fun o e => hs.extBut _ o (fun h => ok.abf (h ▸ List.mem_of_getElem? hi)) e, hl,
    fun r hr => ?_, fun r hr => ?_, x.wyl.at fun o e => hs.extBut _ o (Ne.symm ok.abwy) e, fun r hr => (x.wyr r hr).at fun o e => hs.extBut _ o (fun h => (x.wyn r hr).1 (h ▸ hW)) e, x.wyn, x.live⟩
  · rcases List.mem_append.mp hr with hr | hr
    · exact (x.abr r hr).at fun o e => hs.extBut _ o (fun h => (x.abn r hr).1 (h ▸ hW)) e
    · rw [List.mem_singleton.mp hr]
      exact hq.at fun o e => hs.extBut _ o (fun h => hqn.1 (h ▸ hW)) e
  · rcases List.mem_append.mp hr with hr | hr
    · exact x.abn r hr
    · rw [List.mem_singleton.mp hr]; exact hqn

theorem LS.wySet (x : LS p s₀ fc rs ws m s) (ok : p.Ok) {h' : Heap} {tk : Nat} {ws' : List (Addr × (Int × Bool))} (hr : ∀ q ∈ ws', TupB s.heap q ∧ ¬ p.W q.1 ∧ q.1 ≠ p.I) (hl : h'.PlainList p.wy (ws'.map fun p => Value.ref p.1).toArray) (hs : Heap.SameBut p.wy s.heap h') :
    LS p s₀ fc rs ws' m { s with heap := h', toks := tk } := by
  have hW : p.W p.wy := .inr (.inr (.inl rfl))
  exact ⟨x.chg.step fun b o hb e => hs.extBut b o (fun h => hb (h ▸ hW)) e, x.ns.at' fun o e => hs.extBut _ o (Ne.symm ok.wyL) e, fun i b hi => (x.fam i b hi).at fun o e => hs.extBut _ o (fun h => ok.wyf (h ▸ List.mem_of_getElem? hi)) e, x.abl.at fun o e => hs.extBut _ o ok.abwy e,
    fun r hr => (x.abr r hr).at fun o e => hs.extBut _ o (fun h => (x.abn r hr).1 (h ▸ hW)) e, x.abn, hl, fun r h => (hr r h).1.at fun o e => hs.extBut _ o (fun h' => (hr r h).2.1 (h' ▸ hW)) e, fun r h => (hr r h).2, x.live⟩
end
end Mine

end

/- Law2 -/
section
open PySem PySem.W PyProof.Rows
set_option Elab.async false
set_option linter.unusedVariables false
set_option maxRecDepth 100000
namespace Mine

abbrev lawEnv (L f : Addr) (cd : Value) : Env := envOfC "law" lawScope L f cd
def lawFor : Stmt := nth lawBody 5
def lawT : List Stmt := bodyOf lawFor

/-- the built-in names that the law itself reads -/
structure BiL (mg mb : Str → Option Value) : Prop extends Bi mg mb where
  divG : mg "divmod" = none
  divB : mb "divmod" = some (.builtin "divmod")
  sumG : mg "sum" = none
  sumB : mb "sum" = some (.builtin "sum")
  strG : mg "str" = none
  strB : mb "str" = some (.type "str")
  rteG : mg "RuntimeError" = none
  rteB : mb "RuntimeError" = some (.type "RuntimeError")
  pmG : mg "get_parent_map" = some (.ref 26)
  cxG : mg "_law_context" = some (.ref 54)
  wuG : mg "_law_way_up" = some (.ref 59)
  paG : mg "_law_parts" = some (.ref 64)
  c3G : mg "_c3_merge" = some (.ref 19)
  scG : mg "_SelectorContext" = some (.ref 43)

/-- the law's names -/
structure Nm (p : LP) (tn : Int) (m : Str → Option Value) : Prop where
  nl : m "numbers" = some (.ref p.nl)
  sc : m "script" = some (.ref p.sc)
  fa : m "families" = some (.ref p.fa)
  ab : m "above" = some (.ref p.ab)
  wy : m "ways" = some (.ref p.wy)
  tn : ∃ t, m "turn" = some (.int tn t)
theorem Nm.set {p : LP} {tn : Int} {m : Str → Option Value} (x : Nm p tn m) (y : Str) (v : Value) (h : y ≠ "numbers" ∧ y ≠ "script" ∧ y ≠ "families" ∧ y ≠ "above" ∧ y ≠ "ways" ∧ y ≠ "turn") : Nm p tn (fun z => if z = y then some v else m z) :=
  ⟨by rw [if_neg (Ne.symm h.1)]; exact x.nl, by rw [if_neg (Ne.symm h.2.1)]; exact x.sc, by rw [if_neg (Ne.symm h.2.2.1)]; exact x.fa, by rw [if_neg (Ne.symm h.2.2.2.1)]; exact x.ab, by rw [if_neg (Ne.symm h.2.2.2.2.1)]; exact x.wy, by rw [if_neg (Ne.symm h.2.2.2.2.2)]; exact x.tn⟩

section
variable {prog : Program} {w : World} {A : Around} {E : Value → Shared → Prop} {p : LP} {s₀ s : Shared} {fc : Nat → List Int} {rs : List (Addr × List Int)} {ws : List (Addr × (Int × Bool))} {m mg mb : Str → Option Value} {f : Addr} {cd : Value} {g : Heap}

theorem LS.store (X : LS p s₀ fc rs ws m s) (ok : p.Ok) {x : Str} {v : Value} {Q : Unit → Shared → Prop} (hQ : ∀ s', LS p s₀ fc rs ws (fun y => if y = x then some v else m y) s' → Q () s')
    (hl : (lawEnv p.L f cd).kindOf x = some .local := by rfl) : wpAny (model prog w) A (storeName (lawEnv p.L f cd) x v) Q E s :=
  stN' (env := lawEnv p.L f cd) X.ns (fun h' hn hs => hQ _ (X.set ok hn hs)) hl

theorem LS.sub (X : LS p s₀ fc rs ws m s) (SG : Sub g s₀.heap) (hg : ∀ b, p.W b → g.get? b = none) : Sub g s.heap := sub_chg SG X.chg hg

theorem famF_succ (ns : List Int) (i j1 j2 : Nat) (h1 : oneI ns (i + 1) = j1) (h2 : othI ns (i + 1) = j2) : ∀ j, famF ns (i + 1) j =
    (if j = j2 then (if j = j1 then famF ns i j ++ [((i + 1 : Nat) : Int)] else famF ns i j) ++ [((i + 1 : Nat) : Int)] else (if j = j1 then famF ns i j ++ [((i + 1 : Nat) : Int)] else famF ns i j)) := by
  intro j
  simp only [famF, h1, h2]
  by_cases a : j = j1 <;> by_cases b : j = j2
  · subst a; subst b; simp
  · subst a; simp [b]; intro h; omega
  · subst b; simp [a]; intro h; omega
  · simp [a, b]
    refine ⟨fun h => ?_, fun h => ?_⟩ <;> omega

/-- families[x].append(k) -/
theorem fam_append {x : Str} {p1 p2 p3 p4 p5 p6 p7 : Pos} {j k : Nat} {t t' : Tok} {a : Addr} {Q : Flow → Shared → Prop} (X : LS p s₀ fc rs ws m s) (ok : p.Ok) (hfa : s₀.heap.IsList p.fa (p.fams.map Value.ref).toArray) (hj : p.fams[j]? = some a) (hlen : (fc j).length ≤ 500) (hfl : p.fams.length ≤ 500)
    (hmf : m "families" = some (.ref p.fa)) (hmx : m x = some (.int j t)) (hmk : m "k" = some (.int k t')) 
    (hline : (p4.endLine == p6.line) = true) (hQ : ∀ s', LS p s₀ (fun i => if i = j then fc j ++ [(k : Int)] else fc i) rs ws m s' → Q .next s')
    (hkx : (lawEnv p.L f cd).kindOf x = some .local := by rfl) (hd : (x == ("__debug__" : Str)) = false := by decide) :
    wpAny (model prog w) A (exec (.Expr (.Call (.Attribute (.Subscript (.Name "families" p1) (.Name x p2) p3) "append" p4) [.Name "k" p5] [] p6) p7) (lawEnv p.L f cd)) Q E s := by
  have hfa' : s.heap.IsList p.fa (p.fams.map Value.ref).toArray := isList_chg hfa X.chg ok.faW
  obtain ⟨vs, hvs, hvi⟩ := X.fam j a hj
  have hvl := hvi.length
  have hjl := (List.getElem?_eq_some_iff.mp hj).1
  refine wpAny_Expr (wpAny_Call_append (by rfl) (by rfl) hline (by rfl) (Subscript_ (ldN (env := lawEnv p.L f cd) X.ns hmf (ldN (env := lawEnv p.L f cd) X.ns hmx ?_ rfl hkx hd))))
  refine tail_any (T := "list") (Heap.IsList.typeIs hfa') slot_list_getitem.lookup (wpAny_getItem_list hfa' (by omega) (by omega) (x := .ref a) (by simp [hj]) ?_) (by with_unfolding_all rfl)
  refine ⟨a, vs.toArray, rfl, plainL_of hvs, ldN (env := lawEnv p.L f cd) X.ns hmk ?_⟩
  refine wpAny_list_append_plain (hsz := by rw [List.size_toArray, sizeLine_eq]; omega) hvs fun h₃ hl₃ hs₃ => ?_
  refine hQ _ (X.famSet (tk := s.toks) ok hj ⟨vs ++ [.int k t'], by simpa using hl₃, hvi.append (.cons k t' .nil)⟩ hs₃)

theorem turnA {ns : List Int} {i : Nat} {tk : Tok} {tn : Int} {Q : Flow → Shared → Prop} (ok : p.Ok) (hh : A.handled = none) (B : BiL mg mb) (S : Stat mg mb g) (SG : Sub g s₀.heap) (hg : ∀ b, p.W b → g.get? b = none)
    (hpy : ∀ h tk, Sub g h → PylongRoom (model prog w) A { s₀ with heap := h, toks := tk })
    (hnl : IntL s₀.heap p.nl (numsF ns)) (hfa : s₀.heap.IsList p.fa (p.fams.map Value.ref).toArray) (hfl : p.fams.length = (numsF ns).length + 1) (hi : i < (numsF ns).length)
    (X : LS p s₀ (famF ns i) rs ws m s) (nm : Nm p tn m) (hk : m "k" = some (.int ((i + 1 : Nat) : Int) tk))
    (hQ : ∀ s' m', LS p s₀ (famF ns (i + 1)) rs ws m' s' → Nm p tn m' → m' "k" = some (.int ((i + 1 : Nat) : Int) tk) → (∃ t, m' "kind" = some (.int (kindF ns (i + 1)) t)) → (∃ t, m' "one" = some (.int (oneI ns (i + 1)) t)) → (∃ t, m' "other" = some (.int (othI ns (i + 1)) t)) →
      wpAny (model prog w) A (execs (lawT.drop 5) (lawEnv p.L f cd)) Q E s') :
    wpAny (model prog w) A (execs lawT (lawEnv p.L f cd)) Q E s := by
  have hlen := numsF_len ns
  have hpos : ((i + 1 : Nat) : Int) ≠ 0 := by omega
  have room : ∀ {s' : Shared} {m' : Str → Option Value} {fc' : Nat → List Int}, LS p s₀ fc' rs ws m' s' → PylongRoom (model prog w) A s' := fun {s'} {m'} {fc'} X' => by
    have := X'.sub SG hg
    obtain ⟨h1, t1, rfl, _⟩ := X'.chg
    exact hpy h1 t1 this
  obtain ⟨vs, hvs, hvi⟩ := hnl
  have hvl := hvi.length
  obtain ⟨tx, hx⟩ : ∃ t, vs[i]? = some (.int (numF ns (i + 1)) t) := by
    have hlt : i < vs.length := by omega
    obtain ⟨n, t, h1, h2⟩ := ints_item hvi (List.getElem?_eq_getElem hlt)
    refine ⟨t, ?_⟩
    rw [List.getElem?_eq_getElem hlt, h2, numF, Nat.add_sub_cancel, List.getD, h1]; rfl
  -- rest, kind = divmod(numbers[k - 1], 5)
  have hnl' : ∀ {s' : Shared} {m' : Str → Option Value} {fc' : Nat → List Int}, LS p s₀ fc' rs ws m' s' → s'.heap.IsList p.nl vs.toArray := fun X' => isList_chg hvs.isList X'.chg ok.nlW
  refine wpAny_execs_cons (st := nth lawT 0) (Assign_Tuple (call2 (S.keep (X.sub SG hg)).gl B.divG B.divB (Subscript_ (ldN (env := lawEnv p.L f cd) X.ns nm.nl (wpAny_BinOp (ldN (env := lawEnv p.L f cd) X.ns hk (wpAny_Constant_int (sub_int ?_))))))))
  have X1 := X.toks (s.toks + 1 + 1)
  refine tail_any (T := "list") (Heap.IsList.typeIs (hnl' X1)) slot_list_getitem.lookup (wpAny_getItem_list (hnl' X1) (by omega) (by omega) (x := .int (numF ns (i + 1)) tx) ?_ ?_) (by with_unfolding_all rfl)
  · rw [show (((i + 1 : Nat) : Int) - 1).toNat = i by omega]
    simpa using hx
  refine wpAny_Constant_int (divmod_int (by decide) ?_ (.inr (room (X1.toks _))))
  generalize hT : s.heap.push { cls := .type "tuple", data := .seq #[.int ((numF ns (i + 1)).fdiv 5) _, .int ((numF ns (i + 1)).fmod 5) _] } = HT
  have X2 : ∀ tk, LS p s₀ (famF ns i) rs ws m { s with heap := HT, toks := tk } := fun tk => X.grow ⟨HT, tk, rfl, fun b o e => hT ▸ Heap.get?_push_of_some _ e⟩
  refine wpAny_assign_Tuple hh (s := { s with heap := HT, toks := _ }) (items := #[.int ((numF ns (i + 1)).fdiv 5) _, .int ((numF ns (i + 1)).fmod 5) _]) ⟨_, hT ▸ Heap.get?_push_size _ rfl, rfl, _, rfl⟩ rfl rfl fun h₁ he₁ => ?_
  have X3 : ∀ tk, LS p s₀ (famF ns i) rs ws m { s with heap := h₁, toks := tk } := fun tk => (X2 tk).grow ⟨h₁, tk, rfl, fun b o e => he₁ b o (ne_of_get e (get_size _)) e⟩
  refine assignInOrder_cons (wpAny_assign_Name ((X3 _).store ok fun s4 X4 => ?_))
  refine assignInOrder_cons (wpAny_assign_Name (X4.store ok fun s5 X5 => assignInOrder_nil ?_))
  have nm5 := (nm.set "rest" (.int ((numF ns (i + 1)).fdiv 5) (s.toks + 1 + 1 + 1)) (by decide)).set "kind" (.int ((numF ns (i + 1)).fmod 5) (s.toks + 1 + 1 + 1 + 1)) (by decide)
  -- one = rest % k
  refine wpAny_execs_cons (st := nth lawT 1) (wpAny_Assign_Name (wpAny_BinOp (ldN (env := lawEnv p.L f cd) X5.ns (v := .int (restF ns (i + 1)) (s.toks + 1 + 1 + 1)) (by rw [if_neg (by decide), if_pos rfl]; rfl) (ldN (env := lawEnv p.L f cd) X5.ns (v := .int ((i + 1 : Nat) : Int) tk) (by rw [if_neg (by decide), if_neg (by decide), hk]) (mod_int hpos ?_)))))
  refine (X5.toks _).store ok fun s6 X6 => ?_
  have nm6 := nm5.set "one" (.int (oneI ns (i + 1)) s5.toks) (by decide)
  -- other = (one + rest // k) % k
  refine wpAny_execs_cons (st := nth lawT 2) (wpAny_Assign_Name (wpAny_BinOp (wpAny_BinOp (ldN (env := lawEnv p.L f cd) X6.ns (v := .int (oneI ns (i + 1)) s5.toks) (by rw [if_pos rfl]; rfl) (wpAny_BinOp (ldN (env := lawEnv p.L f cd) X6.ns (v := .int (restF ns (i + 1)) (s.toks + 1 + 1 + 1)) (by rw [if_neg (by decide), if_neg (by decide), if_pos rfl]; rfl)
    (ldN (env := lawEnv p.L f cd) X6.ns (v := .int ((i + 1 : Nat) : Int) tk) (by rw [if_neg (by decide), if_neg (by decide), if_neg (by decide), hk]) (floordiv_int hpos (add_int ?_) (.inr (room X6))))))))))
  refine ldN (env := lawEnv p.L f cd) (X6.toks _).ns (v := .int ((i + 1 : Nat) : Int) tk) (by rw [if_neg (by decide), if_neg (by decide), if_neg (by decide), hk]) (mod_int hpos ?_)
  refine (X6.toks _).store ok fun s7 X7 => ?_
  have nm7 := nm6.set "other" (.int (othI ns (i + 1)) (s6.toks + 1 + 1)) (by decide)
  have r1 := oneI_range ns (k := i + 1) (by omega)
  have r2 := othI_range ns (k := i + 1) (by omega)
  obtain ⟨j1, hj1⟩ : ∃ j1 : Nat, oneI ns (i + 1) = j1 := ⟨(oneI ns (i + 1)).toNat, by omega⟩
  obtain ⟨j2, hj2⟩ : ∃ j2 : Nat, othI ns (i + 1) = j2 := ⟨(othI ns (i + 1)).toNat, by omega⟩
  obtain ⟨a1, ha1⟩ : ∃ a, p.fams[j1]? = some a := ⟨p.fams[j1]'(by omega), List.getElem?_eq_getElem _⟩
  obtain ⟨a2, ha2⟩ : ∃ a, p.fams[j2]? = some a := ⟨p.fams[j2]'(by omega), List.getElem?_eq_getElem _⟩
  have hfl' := famF_len ns i
  -- families[one].append(k)
  refine wpAny_execs_cons (st := nth lawT 3) (fam_append (j := j1) (k := i + 1) (t := s5.toks) (t' := tk) X7 ok hfa ha1 (by have := hfl' j1; omega) (by omega) nm7.fa (by rw [if_neg (by decide), if_pos rfl, ← hj1]; rfl) (by rw [if_neg (by decide), if_neg (by decide), if_neg (by decide), if_neg (by decide), hk]) rfl fun s8 X8 => ?_)
  -- families[other].append(k)
  refine wpAny_execs_cons (st := nth lawT 4) (fam_append (j := j2) (k := i + 1) (t := s6.toks + 1 + 1) (t' := tk) X8 ok hfa ha2 ?_ (by omega) nm7.fa (by rw [if_pos rfl, ← hj2]; rfl) (by rw [if_neg (by decide), if_neg (by decide), if_neg (by decide), if_neg (by decide), hk]) rfl fun s9 X9 => ?_)
  · have h1 := hfl' j1
    have h2 := hfl' j2
    split
    · rw [List.length_append, List.length_singleton]; omega
    · omega
  refine hQ s9 _ ?_ nm7 (by rw [if_neg (by decide), if_neg (by decide), if_neg (by decide), if_neg (by decide), hk]) ⟨_, by rw [if_neg (by decide), if_neg (by decide), if_pos rfl]; rfl⟩ ⟨_, by rw [if_neg (by decide), if_pos rfl]⟩ ⟨_, by rw [if_pos rfl]⟩
  have e : famF ns (i + 1) = (fun i_1 => if i_1 = j2 then (if j2 = j1 then famF ns i j1 ++ [((i + 1 : Nat) : Int)] else famF ns i j2) ++ [((i + 1 : Nat) : Int)] else if i_1 = j1 then famF ns i j1 ++ [((i + 1 : Nat) : Int)] else famF ns i i_1) := by
    funext j
    rw [famF_succ ns i j1 j2 hj1 hj2 j]
    by_cases h2 : j = j2
    · subst h2
      simp only [if_true]
      by_cases h1 : j = j1
      · subst h1; simp
      · simp [h1]
    · simp only [if_neg h2]
      by_cases h1 : j = j1
      · subst h1; simp
      · simp [h1]
  rw [e]
  exact X9
end
end Mine

end

/- Law3 -/
section
open PySem PySem.W PyProof.Rows
set_option Elab.async false
set_option linter.unusedVariables false
set_option maxRecDepth 100000
namespace Mine
section
variable {prog : Program} {w : World} {A : Around} {E : Value → Shared → Prop} {p : LP} {s₀ s : Shared} {fc : Nat → List Int} {rs : List (Addr × List Int)} {ws : List (Addr × (Int × Bool))} {m mg mb : Str → Option Value} {f : Addr} {cd : Value} {g : Heap}

/-- the script's length is odd -/
theorem odd_test {ns : List Int} {p1 p2 p3 p4 p5 p6 p7 : Pos} {Q : Bool → Shared → Prop} (ok : p.Ok) (B : BiL mg mb) (S : Stat mg mb g) (SG : Sub g s.heap) {vS : List Value} (hsc : s.heap.IsList p.sc vS.toArray) (hvl : vS.length = ns.length) (h63 : ns.length ≤ 63)
    (hn : s.heap.Ns p.L m) (hm : m "script" = some (.ref p.sc)) (hQ : ∀ tk, Q (oddF ns) { s with toks := tk }) :
    wpAny (model prog w) A (isTrue (.Compare (.BinOp (.Call (.Name "len" p1) [.Name "script" p2] [] p3) .Mod (.Constant (.int 2) 0 p4) p5) [.Eq] [.Constant (.int 1) 0 p6] p7) (lawEnv p.L f cd) (eval (.Compare (.BinOp (.Call (.Name "len" p1) [.Name "script" p2] [] p3) .Mod (.Constant (.int 2) 0 p4) p5) [.Eq] [.Constant (.int 1) 0 p6] p7) (lawEnv p.L f cd))) Q E s := by
  refine wpAny_isTrue_Compare1 (wpAny_BinOp (len_call (S.keep SG).gl B.lenG B.lenB (ldN (env := lawEnv p.L f cd) hn hm ⟨p.sc, _, rfl, hsc, by simp; omega, fun t tk => wpAny_Constant_int (mod_int (by decide) (wpAny_Constant_int (PyProof.Rows.eq_int (wpAny_truthy_bool ?_))))⟩)))
  rw [List.size_toArray, hvl]
  exact hQ _

theorem turnB {ns : List Int} {i : Nat} {tk : Tok} {tn : Int} {vS : List Value} {Q : Flow → Shared → Prop} (ok : p.Ok) (hh : A.handled = none) (B : BiL mg mb) (S : Stat mg mb g) (SG : Sub g s₀.heap) (hg : ∀ b, p.W b → g.get? b = none)
    (hsc : s₀.heap.IsList p.sc vS.toArray) (hvl : vS.length = ns.length) (h63 : ns.length ≤ 63) (hi : i ≤ 13) (htn : tn = turnF ns)
    (X : LS p s₀ fc rs ws m s) (hrs : rs.map (·.2) = abF ns i) (hws : ws.map (·.2) = waysF ns i) (nm : Nm p tn m) (hk : m "k" = some (.int ((i + 1 : Nat) : Int) tk))
    (hkind : ∃ t, m "kind" = some (.int (kindF ns (i + 1)) t)) (hone : ∃ t, m "one" = some (.int (oneI ns (i + 1)) t)) (hoth : ∃ t, m "other" = some (.int (othI ns (i + 1)) t))
    (hQ : ∀ s' rs' ws' m', LS p s₀ fc rs' ws' m' s' → rs'.map (·.2) = abF ns (i + 1) → ws'.map (·.2) = waysF ns (i + 1) → Nm p tn m' → Q .next s') :
    wpAny (model prog w) A (execs (lawT.drop 5) (lawEnv p.L f cd)) Q E s := by
  obtain ⟨tkd, hkd⟩ := hkind
  obtain ⟨to, ho⟩ := hone
  obtain ⟨th, hth⟩ := hoth
  have hrl : rs.length = i + 1 := by have := congrArg List.length hrs; rwa [List.length_map, abF_len] at this
  have hwl : ws.length ≤ i := by have := congrArg List.length hws; rw [List.length_map] at this; rw [this]; exact waysF_len ns i
  have hpr := parI_range ns (k := i + 1) (by omega)
  have hsc' : s.heap.IsList p.sc vS.toArray := isList_chg hsc X.chg ok.scW
  -- parent = ...
  have par_step : ∀ (Q' : Value → Shared → Prop) (E' : Value → Shared → Prop), (∀ t s', Keeps s s' → Q' (.int (parI ns (i + 1)) t) s') → wpAny (model prog w) A (eval (match nth lawT 5 with | .Assign _ v _ => v | _ => .Constant .none 0 default) (lawEnv p.L f cd)) Q' E' s := by
    intro Q' E' hq
    refine wpAny_IfExp (odd_test ok B S (X.sub SG hg) hsc' hvl h63 X.ns nm.sc fun tk' => ?_)
    have X1 := X.toks tk'
    have G1 := (S.keep (X1.sub SG hg)).gl
    by_cases hodd : oddF ns = true
    · rw [hodd]
      simp only [if_true]
      refine call2 (s := { s with toks := tk' }) G1 B.minG B.minB (ldN (env := lawEnv p.L f cd) X1.ns ho (ldN (env := lawEnv p.L f cd) X1.ns hth (min_two_ints hh fun h' tk'' kk => ?_)))
      have hK : Keeps s { s with heap := h', toks := tk'' } := ⟨h', tk'', rfl, kk⟩
      have e : parI ns (i + 1) = if othI ns (i + 1) < oneI ns (i + 1) then othI ns (i + 1) else oneI ns (i + 1) := by unfold parI; rw [if_pos hodd]
      split
      · rename_i hlt; have := hq th _ hK; rwa [e, if_pos hlt] at this
      · rename_i hlt; have := hq to _ hK; rwa [e, if_neg hlt] at this
    · have hodd' : oddF ns = false := by simpa using hodd
      rw [hodd']
      simp only [Bool.false_eq_true, if_false]
      refine call2 (s := { s with toks := tk' }) G1 B.maxG B.maxB (ldN (env := lawEnv p.L f cd) X1.ns ho (ldN (env := lawEnv p.L f cd) X1.ns hth (max_two_ints hh fun h' tk'' kk => ?_)))
      have hK : Keeps s { s with heap := h', toks := tk'' } := ⟨h', tk'', rfl, kk⟩
      have e : parI ns (i + 1) = if othI ns (i + 1) > oneI ns (i + 1) then othI ns (i + 1) else oneI ns (i + 1) := by unfold parI; rw [if_neg hodd]
      split
      · rename_i hlt; have := hq th _ hK; rwa [e, if_pos hlt] at this
      · rename_i hlt; have := hq to _ hK; rwa [e, if_neg hlt] at this
  refine wpAny_execs_cons (st := nth lawT 5) (wpAny_Assign_Name (par_step _ _ fun tp s1 K1 => (X.grow K1).store ok fun s2 X2 => ?_))
  have nm2 := nm.set "parent" (.int (parI ns (i + 1)) tp) (by decide)
  -- above.append(above[parent] + [k])
  obtain ⟨r, hr, hrm, hrow⟩ := getD_row (rs := rs) hpr.1 (by omega)
  obtain ⟨rv, hrv, hri⟩ := X2.abr r hrm
  have hrvl := hri.length
  have hr2 : r.2 ∈ abF ns i := by rw [← hrs]; exact List.mem_map_of_mem hrm
  have hr2l := abF_row_len ns i r.2 hr2
  refine wpAny_execs_cons (st := nth lawT 6) (wpAny_Expr (wpAny_Call_append (by rfl) (by rfl) (by rfl) (by rfl) (ldN (env := lawEnv p.L f cd) X2.ns nm2.ab ⟨p.ab, _, rfl, plainL_of X2.abl, ?_⟩)))
  refine wpAny_BinOp (Subscript_ (ldN (env := lawEnv p.L f cd) X2.ns nm2.ab (ldN (env := lawEnv p.L f cd) X2.ns (v := .int (parI ns (i + 1)) tp) (by rw [if_pos rfl]) ?_)))
  refine tail_any (T := "list") (Heap.IsList.typeIs X2.abl.isList) slot_list_getitem.lookup (wpAny_getItem_list X2.abl.isList hpr.1 (by omega) (x := .ref r.1) (by simp [hr]) ?_) (by with_unfolding_all rfl)
  refine wpAny_List (wpAny_items_cons (ldN (env := lawEnv p.L f cd) X2.ns (v := .int ((i + 1 : Nat) : Int) tk) (by rw [if_neg (by decide), hk]) (wpAny_items_nil ⟨by simp [sizeLine], ?_⟩)))
  have X3 := X2.grow (Keeps.push' s2 { cls := .type "list", data := .seq [Value.int ((i + 1 : Nat) : Int) tk].toArray } s2.toks)
  refine add_lists' (vs := rv) (us := [.int ((i + 1 : Nat) : Int) tk]) (hrv.at fun o e => Heap.get?_push_of_some _ e) (push_plain s2.heap _) (by simp; omega) fun D s4 K4 fD hD => ?_
  have X4 := X3.grow K4
  have hDn := X3.fresh ok fD
  have hDi : IntL s4.heap D (r.2 ++ [((i + 1 : Nat) : Int)]) := ⟨_, hD, hri.append (.cons _ tk .nil)⟩
  refine wpAny_list_append_plain (hsz := by simp only [List.size_toArray, List.length_map]; rw [sizeLine_eq]; omega) X4.abl fun h5 hl5 hs5 => ?_
  have X5 := X4.abSet (tk := s4.toks) ok (q := (D, r.2 ++ [((i + 1 : Nat) : Int)])) hDi hDn (by simpa using hl5) hs5
  have hrs5 : (rs ++ [(D, r.2 ++ [((i + 1 : Nat) : Int)])]).map (·.2) = abF ns (i + 1) := by
    rw [List.map_append, hrs]
    simp only [abF, List.map_cons, List.map_nil]
    rw [← hrow, row, hrs]; rfl
  -- leads_up = ...
  obtain ⟨tt, htt⟩ := nm2.tn
  have up_step : ∀ (Q' : Value → Shared → Prop) (E' : Value → Shared → Prop), (∀ tk', Q' (.bool (upF ns (i + 1))) { s4 with heap := h5, toks := tk' }) → wpAny (model prog w) A (eval (match nth lawT 7 with | .Assign _ v _ => v | _ => .Constant .none 0 default) (lawEnv p.L f cd)) Q' E' { s4 with heap := h5 } := by
    intro Q' E' hq
    refine BoolOp_or (wpAny_Compare1 (ldN (env := lawEnv p.L f cd) X5.ns htt (wpAny_Constant_int (PyProof.Rows.eq_int (wpAny_truthy_bool ?_)))))
    by_cases h1 : turnF ns = 1
    · have e : upF ns (i + 1) = true := by simp [upF, h1]
      have e1 : (tn == 1) = true := by rw [htn, h1]; rfl
      rw [e1]
      simp only [if_true]
      have := hq (s4.toks + 1)
      rwa [e] at this
    · have e1 : (tn == 1) = false := by rw [htn]; simpa using h1
      rw [e1]
      simp only [Bool.false_eq_true, if_false]
      refine BoolOp_one (BoolOp_and (wpAny_Compare1 (ldN (env := lawEnv p.L f cd) (X5.toks _).ns htt (wpAny_Constant_int (PyProof.Rows.eq_int (wpAny_truthy_bool ?_))))))
      by_cases h2 : turnF ns = 2
      · have e2 : (tn == 2) = true := by rw [htn, h2]; rfl
        rw [e2]
        simp only [if_true]
        refine BoolOp_one (wpAny_Compare1 (wpAny_BinOp (ldN (env := lawEnv p.L f cd) (X5.toks _).ns (v := .int (kindF ns (i + 1)) tkd) (by rw [if_neg (by decide), hkd]) (wpAny_Constant_int (mod_int (by decide) (wpAny_Constant_int (PyProof.Rows.eq_int ?_)))))))
        have e : upF ns (i + 1) = ((kindF ns (i + 1)).fmod 2 == 1) := by simp [upF, h2]
        rw [← e]
        exact hq _
      · have e2 : (tn == 2) = false := by rw [htn]; simpa using h2
        rw [e2]
        simp only [Bool.false_eq_true, if_false]
        have e : upF ns (i + 1) = false := by simp [upF, h1, h2]
        have := hq (s4.toks + 1 + 1)
        rwa [e] at this
  refine wpAny_execs_cons (st := nth lawT 7) (wpAny_Assign_Name (up_step _ _ fun tk' => (X5.toks tk').store ok fun s6 X6 => ?_))
  have nm6 := nm2.set "leads_up" (.bool (upF ns (i + 1))) (by decide)
  have hk6 : ∀ {Q' : Value → Shared → Prop} {E' : Value → Shared → Prop} {s' : Shared} {pos : Pos}, s'.heap.Ns p.L (fun y => if y = "leads_up" then some (Value.bool (upF ns (i + 1))) else if y = "parent" then some (.int (parI ns (i + 1)) tp) else m y) → Q' (.int ((i + 1 : Nat) : Int) tk) s' → wpAny (model prog w) A (eval (.Name "k" pos) (lawEnv p.L f cd)) Q' E' s' :=
    fun hn h => ldN (env := lawEnv p.L f cd) hn (by rw [if_neg (by decide), if_neg (by decide), hk]) h
  have mk_tup : ∀ {s' : Shared} (X' : LS p s₀ fc (rs ++ [(D, r.2 ++ [((i + 1 : Nat) : Int)])]) ws (fun y => if y = "leads_up" then some (Value.bool (upF ns (i + 1))) else if y = "parent" then some (.int (parI ns (i + 1)) tp) else m y) s') {Q' : Value → Shared → Prop} {E' : Value → Shared → Prop} {p1 p2 p3 : Pos},
      (∀ T s'', LS p s₀ fc (rs ++ [(D, r.2 ++ [((i + 1 : Nat) : Int)])]) ws (fun y => if y = "leads_up" then some (Value.bool (upF ns (i + 1))) else if y = "parent" then some (.int (parI ns (i + 1)) tp) else m y) s'' → TupB s''.heap (T, (((i + 1 : Nat) : Int), upF ns (i + 1))) → (¬ p.W T ∧ T ≠ p.I) → Q' (.ref T) s'') →
      wpAny (model prog w) A (eval (.Tuple [.Name "k" p1, .Name "leads_up" p2] 0 p3) (lawEnv p.L f cd)) Q' E' s' := fun {s'} X' {Q'} {E'} {p1 p2 p3} hq =>
    wpAny_Tuple (wpAny_items_cons (hk6 X'.ns (wpAny_items_cons (ldN (env := lawEnv p.L f cd) X'.ns (by rw [if_pos rfl]) (wpAny_items_nil ⟨by simp [sizeLine], hq _ _ (X'.grow (Keeps.push' s' _ s'.toks)) ⟨_, _, tk, Heap.get?_push_size _ rfl, rfl, rfl⟩ (X'.fresh ok (get_size _))⟩)))))
  -- if kind < 2
  refine wpAny_execs_cons (st := nth lawT 8) (wpAny_If (wpAny_isTrue_Compare1 (ldN (env := lawEnv p.L f cd) X6.ns (v := .int (kindF ns (i + 1)) tkd) (by rw [if_neg (by decide), if_neg (by decide), hkd]) (wpAny_Constant_int (PyProof.Rows.lt_int (wpAny_truthy_bool ?_))))))
  have X7 := X6.toks (s6.toks + 1)
  by_cases h2 : kindF ns (i + 1) < 2
  · rw [show decide (kindF ns (i + 1) < 2) = true by simpa using h2]
    simp only [if_true]
    refine wpAny_execs_cons (wpAny_Expr (wpAny_Call_append (by rfl) (by rfl) (by rfl) (by rfl) (ldN (env := lawEnv p.L f cd) X7.ns nm6.wy ⟨p.wy, _, rfl, plainL_of X7.wyl, mk_tup X7 fun T s8 X8 hT hTn => ?_⟩)))
    refine wpAny_list_append_plain (hsz := by simp only [List.size_toArray, List.length_map]; rw [sizeLine_eq]; omega) X8.wyl fun h9 hl9 hs9 => ?_
    refine wpAny_execs_nil (wpAny_execs_nil (hQ _ _ (ws ++ [(T, (((i + 1 : Nat) : Int), upF ns (i + 1)))]) _ (X8.wySet (tk := s8.toks) ok (fun q hq => ?_) (by simpa using hl9) hs9) hrs5 ?_ nm6))
    · rcases List.mem_append.mp hq with hq | hq
      · exact ⟨X8.wyr q hq, X8.wyn q hq⟩
      · rw [List.mem_singleton.mp hq]; exact ⟨hT, hTn⟩
    · rw [List.map_append, hws]
      simp only [waysF, if_pos h2, List.map_cons, List.map_nil]
  · rw [show decide (kindF ns (i + 1) < 2) = false by simpa using h2]
    simp only [Bool.false_eq_true, if_false]
    refine wpAny_execs_cons (wpAny_If (wpAny_isTrue_Compare1 (ldN (env := lawEnv p.L f cd) X7.ns (v := .int (kindF ns (i + 1)) tkd) (by rw [if_neg (by decide), if_neg (by decide), hkd]) (wpAny_Constant_int (PyProof.Rows.lt_int (wpAny_truthy_bool ?_))))))
    have X8 := X7.toks (s6.toks + 1 + 1)
    by_cases h4 : kindF ns (i + 1) < 4
    · rw [show decide (kindF ns (i + 1) < 4) = true by simpa using h4]
      simp only [if_true]
      refine wpAny_execs_cons (wpAny_Expr (wpAny_Call_method (T := "list") (id := "list.insert") (by rfl) (by rfl) (by rfl) F.plainAttrs_list F.slot_list_insert F.type_list_insert (ldN (env := lawEnv p.L f cd) X8.ns nm6.wy ⟨Heap.IsList.typeIs X8.wyl.isList, ?_, ?_⟩)))
      · intro a ha; cases ha
        obtain ⟨n, e⟩ := X8.wyl
        exact ⟨_, e, rfl⟩
      refine Calls.callWith_builtin rfl (Calls.evalArgs_plain (Calls.spliced_cons (wpAny_Constant_int (k := 0) (pos := ⟨0, 0, 0, 0⟩) (Calls.spliced_cons (mk_tup (X8.toks _) fun T s9 X9 hT hTn => Calls.spliced_nil ?_)))))
      refine insert_0 X9.wyl (by simp; omega) fun h10 hs10 hl10 => ?_
      refine wpAny_execs_nil (wpAny_execs_nil (wpAny_execs_nil (hQ _ _ ((T, (((i + 1 : Nat) : Int), upF ns (i + 1))) :: ws) _ (X9.wySet (tk := s9.toks) ok (fun q hq => ?_) (by simpa using hl10) hs10) hrs5 ?_ nm6)))
      · rcases List.mem_cons.mp hq with rfl | hq
        · exact ⟨hT, hTn⟩
        · exact ⟨X9.wyr q hq, X9.wyn q hq⟩
      · rw [List.map_cons, hws]
        simp only [waysF, if_neg h2, if_pos h4]
    · rw [show decide (kindF ns (i + 1) < 4) = false by simpa using h4]
      simp only [Bool.false_eq_true, if_false]
      refine wpAny_execs_nil (wpAny_execs_nil (wpAny_execs_nil (hQ _ _ ws _ X8 hrs5 ?_ nm6)))
      rw [hws]
      simp only [waysF, if_neg h2, if_neg h4]
end
end Mine

end

/- Law4 -/
section
open PySem PySem.W PyProof.Rows
set_option Elab.async false
set_option linter.unusedVariables false
set_option maxRecDepth 100000
namespace Mine

/-- the law's things, between its turns -/
structure LB (p : LP) (fc : Nat → List Int) (rs : List (Addr × List Int)) (ws : List (Addr × (Int × Bool))) (m : Str → Option Value) (s : Shared) : Prop where
  ns : s.heap.Ns p.L m
  fam : ∀ (j : Nat) (a : Addr), p.fams[j]? = some a → IntL s.heap a (fc j)
  abl : s.heap.PlainList p.ab (rs.map fun p => Value.ref p.1).toArray
  abr : ∀ q ∈ rs, IntL s.heap q.1 q.2 ∧ ¬ p.W q.1
  wyl : s.heap.PlainList p.wy (ws.map fun p => Value.ref p.1).toArray
  wyr : ∀ q ∈ ws, TupB s.heap q ∧ ¬ p.W q.1
theorem LS.lb {p : LP} {s₀ s : Shared} {fc : Nat → List Int} {rs : List (Addr × List Int)} {ws : List (Addr × (Int × Bool))} {m : Str → Option Value} (x : LS p s₀ fc rs ws m s) : LB p fc rs ws m s :=
  ⟨x.ns, x.fam, x.abl, fun q hq => ⟨x.abr q hq, (x.abn q hq).1⟩, x.wyl, fun q hq => ⟨x.wyr q hq, (x.wyn q hq).1⟩⟩
theorem LB.at {p : LP} {s s' : Shared} {fc : Nat → List Int} {rs : List (Addr × List Int)} {ws : List (Addr × (Int × Bool))} {m : Str → Option Value} (x : LB p fc rs ws m s) {I : Addr} (hI : ¬ p.W I) (hr : ∀ q ∈ rs, q.1 ≠ I) (hw : ∀ q ∈ ws, q.1 ≠ I)
    (k : ∀ b o, b ≠ I → s.heap.get? b = some o → s'.heap.get? b = some o) : LB p fc rs ws m s' := by
  have ne : ∀ b, p.W b → b ≠ I := fun b hb h => hI (h ▸ hb)
  exact ⟨x.ns.at' fun o e => k _ o (ne _ (.inl rfl)) e, fun j a h => (x.fam j a h).at fun o e => k _ o (ne _ (.inr (.inr (.inr (List.mem_of_getElem? h))))) e, x.abl.at fun o e => k _ o (ne _ (.inr (.inl rfl))) e,
    fun q hq => ⟨(x.abr q hq).1.at fun o e => k _ o (hr q hq) e, (x.abr q hq).2⟩, x.wyl.at fun o e => k _ o (ne _ (.inr (.inr (.inl rfl)))) e, fun q hq => ⟨(x.wyr q hq).1.at fun o e => k _ o (hw q hq) e, (x.wyr q hq).2⟩⟩

section
variable {prog : Program} {w : World} {A : Around} {E : Value → Shared → Prop} {p : LP} {s : Shared} {rs : List (Addr × List Int)} {ws : List (Addr × (Int × Bool))} {m mg mb : Str → Option Value} {f : Addr} {cd : Value} {g : Heap}

theorem law_for {ns : List Int} {vS : List Value} {Q : Flow → Shared → Prop} (ok : ∀ I, ¬ p.W I → ({ p with I := I } : LP).Ok) (hh : A.handled = none) (B : BiL mg mb) (S : Stat mg mb g) (SG : Sub g s.heap) (hg : ∀ b, p.W b → g.get? b = none)
    (hpy : ∀ h tk, Sub g h → PylongRoom (model prog w) A { s with heap := h, toks := tk })
    (hnl : IntL s.heap p.nl (numsF ns)) (hsc : s.heap.IsList p.sc vS.toArray) (hvl : vS.length = ns.length) (h63 : ns.length ≤ 63) (hfa : s.heap.IsList p.fa (p.fams.map Value.ref).toArray) (hfl : p.fams.length = (numsF ns).length + 1)
    (X : LB p (famF ns 0) rs ws m s) (hrs : rs.map (·.2) = abF ns 0) (hws : ws.map (·.2) = waysF ns 0) (nm : Nm p (turnF ns) m)
    (hQ : ∀ s' rs' ws' m', Chg p.W s s' → LB p (famF ns (numsF ns).length) rs' ws' m' s' → rs'.map (·.2) = abF ns (numsF ns).length → ws'.map (·.2) = waysF ns (numsF ns).length → Nm p (turnF ns) m' → Q .next s') :
    wpAny (model prog w) A (exec lawFor (lawEnv p.L f cd)) Q E s := by
  have hlen := numsF_len ns
  obtain ⟨vs, hvs, hvi⟩ := hnl
  have hvn := hvi.length
  refine for_walk (range2 (S.keep SG).gl B.rangeG B.rangeB (wpAny_Constant_int (wpAny_BinOp (len_call (s := { s with toks := _ }) (S.keep SG).gl B.lenG B.lenB (ldN (env := lawEnv p.L f cd) (s := { s with toks := _ }) X.ns nm.nl ⟨p.nl, _, rfl, hvs.isList, by simp; omega, fun t tk => wpAny_Constant_int (add_int ⟨1, (numsF ns).length + 1, tk + 1, s.toks, rfl, ?_, by omega, by omega, ?_⟩)⟩)))))
  · simp only [List.size_toArray, hvn]; rfl
  intro I h' tk' hI hk hIlt hit
  dsimp only at hI hk
  have hIW : ¬ p.W I := by
    intro hw
    rcases hw with hw | hw | hw | hw
    · exact ne_live (ns_live X.ns) hI hw
    · obtain ⟨n, e⟩ := X.abl; exact ne_live ⟨_, e⟩ hI hw
    · obtain ⟨n, e⟩ := X.wyl; exact ne_live ⟨_, e⟩ hI hw
    · obtain ⟨j, hj⟩ := List.mem_iff_getElem?.mp hw
      exact ne_live (X.fam j I hj).live hI rfl
  have okI := ok I hIW
  have hrI : ∀ q ∈ rs, q.1 ≠ I := fun q hq => Ne.symm (ne_live (X.abr q hq).1.live hI)
  have hwI : ∀ q ∈ ws, q.1 ≠ I := fun q hq => by obtain ⟨⟨o, e, t, ho, _⟩, _⟩ := X.wyr q hq; exact Ne.symm (ne_live ⟨o, ho⟩ hI)
  have W := Walks.range (prog := prog) (w := w) (A := A) hh I 1 1 (numsF ns).length
  refine ⟨I, _, _, _, _, _, fun i s₁ => Chg (fun b => p.W b ∨ b = I) s s₁ ∧ ∃ rs ws m', LB p (famF ns i) rs ws m' s₁ ∧ (∀ q ∈ rs, q.1 ≠ I) ∧ (∀ q ∈ ws, q.1 ≠ I) ∧ rs.map (·.2) = abF ns i ∧ ws.map (·.2) = waysF ns i ∧ Nm p (turnF ns) m', rfl, W, ?_, ?_, ?_, ?_, ?_, ?_⟩
  · exact fun _ _ _ _ _ _ hq => wpAny_of_eq (by rfl) hq
  · simpa using hit
  · refine ⟨⟨h', _, rfl, fun b o _ e => hk b o e⟩, rs, ws, m, X.at hIW hrI hwI fun b o _ e => hk b o e, hrI, hwI, hrs, hws, nm⟩
  · rintro i s₁ h₁ tk₁ ⟨C, rs, ws, m', X', h1, h2, h3, h4, h5⟩ hk₁
    have k' : ∀ b o, b ≠ I → s₁.heap.get? b = some o → h₁.get? b = some o := fun b o hb e => hk₁ b o (by simpa using hb) e
    exact ⟨C.step fun b o hb e => k' b o (fun h => hb (.inr h)) e, rs, ws, m', X'.at hIW h1 h2 k', h1, h2, h3, h4, h5⟩
  · rintro i v s₁ hi ⟨tv, rfl⟩ ⟨C, rs, ws, m', X', h1, h2, h3, h4, h5⟩ hst
    have liveI : ∃ o, s₁.heap.get? I = some o := ⟨_, hst⟩
    have LS1 : LS { p with I := I } s₁ (famF ns i) rs ws m' s₁ := ⟨Chg.refl _ _, X'.ns, X'.fam, X'.abl, fun q hq => (X'.abr q hq).1, fun q hq => ⟨(X'.abr q hq).2, h1 q hq⟩, X'.wyl, fun q hq => (X'.wyr q hq).1, fun q hq => ⟨(X'.wyr q hq).2, h2 q hq⟩, liveI⟩
    have SG1 : Sub g s₁.heap := sub_chg SG C fun b h => h.elim (hg b) fun h => h ▸ fresh_sub SG hI
    have nI : ∀ b, (∃ o, s.heap.get? b = some o) → b ≠ I := fun b l => Ne.symm (ne_live l hI)
    have hsc1 : s₁.heap.IsList p.sc vS.toArray := isList_chg hsc C fun h => h.elim okI.scW (nI _ (isList_live hsc))
    have hfa1 : s₁.heap.IsList p.fa (p.fams.map Value.ref).toArray := isList_chg hfa C fun h => h.elim okI.faW (nI _ (isList_live hfa))
    have hnl1 : IntL s₁.heap p.nl (numsF ns) := IntL.chg ⟨vs, hvs, hvi⟩ C fun h => h.elim okI.nlW (nI _ (isList_live hvs.isList))
    have hpy1 : ∀ h tk, Sub g h → PylongRoom (model prog w) A { s₁ with heap := h, toks := tk } := by
      obtain ⟨h9, t9, rfl, _⟩ := C
      exact hpy
    have ev : (1 + (i : Int) * 1) = ((i + 1 : Nat) : Int) := by omega
    rw [ev]
    refine wpAny_assign_Name (LS.store (p := { p with I := I }) LS1 okI fun s₂ X2 => ?_)
    have nm2 : Nm { p with I := I } (turnF ns) (fun y => if y = "k" then some (.int ((i + 1 : Nat) : Int) tv) else m' y) := Nm.set (p := { p with I := I }) ⟨h5.nl, h5.sc, h5.fa, h5.ab, h5.wy, h5.tn⟩ "k" _ (by decide)
    refine turnA (p := { p with I := I }) (tk := tv) okI hh B S SG1 hg hpy1 hnl1 hfa1 hfl hi X2 nm2 (by rw [if_pos rfl]) fun s3 m3 X3 nm3 k3 kd3 o3 t3 => ?_
    refine turnB (p := { p with I := I }) okI hh B S SG1 hg hsc1 hvl h63 (by omega) rfl X3 h3 h4 nm3 k3 kd3 o3 t3 fun s4 rs4 ws4 m4 X4 hr4 hw4 nm4 => ?_
    refine ⟨⟨C.trans (X4.chg.mono fun b o _ h => .inl h), rs4, ws4, m4, ⟨X4.ns, X4.fam, X4.abl, fun q hq => ⟨X4.abr q hq, (X4.abn q hq).1⟩, X4.wyl, fun q hq => ⟨X4.wyr q hq, (X4.wyn q hq).1⟩⟩, fun q hq => (X4.abn q hq).2, fun q hq => (X4.wyn q hq).2, hr4, hw4, ⟨nm4.nl, nm4.sc, nm4.fa, nm4.ab, nm4.wy, nm4.tn⟩⟩, ?_⟩
    exact X4.chg.get (W := LP.W { p with I := I }) okI.IW hst
  · rintro s₁ ⟨C, rs, ws, m', X', h1, h2, h3, h4, h5⟩
    refine wpAny_execs_nil (hQ s₁ rs ws m' ?_ X' h3 h4 h5)
    exact C.mono fun b o e h => h.elim id fun h => absurd h (ne_of_get e hI)
end
end Mine

end

/- Law5 -/
section
open PySem PySem.W PyProof.Rows
set_option Elab.async false
set_option linter.unusedVariables false
set_option maxRecDepth 100000
namespace Mine

theorem refs_of {h h₀ : Heap} {α : Type} {ob : Obj} {src : List α} {ys : List Value} (P : Paired (Elt (fun _ _ o => o = some ob) h₀ h) src ys) :
    ∃ fs : List Addr, ys = fs.map Value.ref ∧ fs.length = src.length ∧ ∀ a ∈ fs, h₀.get? a = none ∧ h.get? a = some ob := by
  induction P with
  | nil => exact ⟨[], rfl, rfl, by simp⟩
  | cons h1 _ ih =>
    obtain ⟨fs, e1, e2, e3⟩ := ih
    rcases h1 with h1 | ⟨T, o, rfl, h0, ho, hF⟩
    · cases h1
    · cases hF
      refine ⟨T :: fs, by simp [e1], by simp [e2], fun a ha => ?_⟩
      rcases List.mem_cons.mp ha with rfl | ha
      · exact ⟨h0, ho⟩
      · exact e3 a ha

section
variable {prog : Program} {w : World} {A : Around} {E : Value → Shared → Prop} {s : Shared} {m mg mb : Str → Option Value} {L f sc : Addr} {cd : Value} {g : Heap}

theorem law_build {ns : List Int} {vS : List Value} {Q : Flow → Shared → Prop} (hh : A.handled = none) (B : BiL mg mb) (S : Stat mg mb g) (SG : Sub g s.heap) (hgL : g.get? L = none)
    (hpy : ∀ h tk, Sub g h → PylongRoom (model prog w) A { s with heap := h, toks := tk })
    (hn : s.heap.Ns L m) (hm : m "script" = some (.ref sc)) (hsc : s.heap.IsList sc vS.toArray) (hscL : sc ≠ L) (hvi : IntsAre vS ns) (h63 : ns.length ≤ 63)
    (hQ : ∀ s' p rs ws m', p.L = L → p.sc = sc → Chg (· = L) s s' → (∀ I, ¬ p.W I → ({ p with I := I } : LP).Ok) → ¬ p.W p.fa → p.fams.length = (numsF ns).length + 1 → s'.heap.IsList p.fa (p.fams.map Value.ref).toArray → s'.heap.IsList sc vS.toArray →
      (∀ b, p.W b ∨ b = p.fa → b = L ∨ s.heap.get? b = none) → LB p (famF ns (numsF ns).length) rs ws m' s' → rs.map (·.2) = abF ns (numsF ns).length → ws.map (·.2) = waysF ns (numsF ns).length → Nm p (turnF ns) m' →
      wpAny (model prog w) A (execs (lawBody.drop 6) (lawEnv L f cd)) Q E s') :
    wpAny (model prog w) A (execs lawBody (lawEnv L f cd)) Q E s := by
  have hvl := hvi.length
  have hlen := numsF_len ns
  -- numbers
  refine wpAny_execs_cons (st := nth lawBody 0) (wpAny_Assign_Name (wpAny_BinOp (wpAny_Subscript_list_slice (ldN (env := lawEnv L f cd) hn hm (wpAny_evalPart_none (wpAny_evalPart_some (wpAny_Constant_int ⟨sc, vS.toArray, none, some 8, rfl, hsc, by rw [List.size_toArray, sizeLine_eq]; omega, .none, .int 8 _, ?_⟩)))))))
  have hpick : slicePick vS.toArray none (some 8) none = (vS.take 8).toArray := slicePick_upto' vS.toArray 8
  rw [hpick]
  refine wpAny_List (wpAny_items_cons (wpAny_Constant_int (wpAny_items_cons (wpAny_Constant_int (wpAny_items_cons (wpAny_Constant_int (wpAny_items_cons (wpAny_Constant_int (wpAny_items_cons (wpAny_Constant_int (wpAny_items_nil ⟨by simp [sizeLine], ?_⟩))))))))))) 
  refine add_lists' (vs := vS.take 8) ((push2_plain s.heap _ _).at fun o e => Heap.get?_push_of_some _ e) (push_plain _ _) (by simp; omega) fun nl s1 K1 fnl hnl => ?_
  have K1' : Sub s.heap s1.heap := fun b o e => Keeps.get' K1 (Heap.get?_push_of_some _ (push2_keep e))
  have E1 : ∃ h1 t1, s1 = { s with heap := h1, toks := t1 } := by obtain ⟨h1, t1, rfl, _⟩ := K1; exact ⟨h1, t1, rfl⟩
  have hnlI : IntL s1.heap nl (numsF ns) := ⟨_, hnl, (hvi.take 8).append (.cons _ _ (.cons _ _ (.cons _ _ (.cons _ _ (.cons _ _ .nil)))))⟩
  have fnl' : s.heap.get? nl = none := fresh_sub (fun b o e => Heap.get?_push_of_some _ (push2_keep e)) fnl
  have hnlL : nl ≠ L := ne_live (ns_live hn) fnl'
  refine stN' (env := lawEnv L f cd) (hn.keeps K1') fun h2 n2 hs2 => ?_
  have C2 : ∀ tk, Chg (· = L) s { s1 with heap := h2, toks := tk } := fun tk => by
    obtain ⟨h1, t1, rfl⟩ := E1
    exact ⟨h2, tk, rfl, fun b o hb e => hs2.extBut b o hb (K1' b o e)⟩
  generalize hS2 : ({ s1 with heap := h2, toks := s1.toks + 1 } : Shared) = s2
  have C2' : Chg (· = L) s s2 := hS2 ▸ C2 _
  have n2' : s2.heap.Ns L (fun y => if y = "numbers" then some (.ref nl) else m y) := by rw [← hS2]; exact n2
  have nl2 : IntL s2.heap nl (numsF ns) := by rw [← hS2]; exact hnlI.at fun o e => hs2.extBut _ o hnlL e
  have sc2 : s2.heap.IsList sc vS.toArray := isList_chg hsc C2' hscL
  have SG2 : Sub g s2.heap := sub_chg SG C2' fun b h => h ▸ hgL
  -- turn
  refine wpAny_execs_cons (st := nth lawBody 1) (wpAny_Assign_Name (wpAny_BinOp (call1 (S.keep SG2).gl B.sumG B.sumB (ldN (env := lawEnv L f cd) n2' (v := .ref sc) (by rw [if_neg (by decide), hm]) (sum_ints hh sc2 hvi fun ts s3 K3 => wpAny_Constant_int (mod_int (by decide) (stN' (env := lawEnv L f cd) (s := { s3 with toks := _ }) (n2'.keeps (h' := s3.heap) fun b o e => Keeps.get' K3 e) fun h4 n4 hs4 => ?_)))))))
  generalize hS4 : ({ { s3 with toks := s3.toks + 1 + 1 } with heap := h4, toks := s3.toks + 1 + 1 + 1 } : Shared) = s4
  have C4 : Chg (· = L) s2 s4 := by
    obtain ⟨h3, t3, rfl, k3⟩ := K3
    exact ⟨h4, _, hS4.symm, fun b o hb e => hs4.extBut b o hb (k3 b o e)⟩
  have n4' : s4.heap.Ns L (fun y => if y = "turn" then some (.int (turnF ns) (s3.toks + 1)) else if y = "numbers" then some (.ref nl) else m y) := by rw [← hS4]; exact n4
  have nl4 : IntL s4.heap nl (numsF ns) := nl2.chg C4 hnlL
  have sc4 := isList_chg sc2 C4 hscL
  have SG4 : Sub g s4.heap := sub_chg SG2 C4 fun b h => h ▸ hgL
  obtain ⟨vn, hvn, hvni⟩ := id nl4
  have hvnl := hvni.length
  -- families
  refine wpAny_execs_cons (st := nth lawBody 2) (lc_assignN (src := List.range' 0 ((numsF ns).length + 1)) (Pv := fun (k : Nat) v => ∃ t, v = .int k t) (cl := []) (fun _ => true) (fun _ _ o => o = some { cls := .type "list", data := .seq #[] }) (by rfl) (by rfl) (by decide) rfl (by decide) (by simp; omega) rfl rfl ?_)
  refine range1 (S.keep SG4).gl B.rangeG B.rangeB (wpAny_BinOp (len_call (S.keep SG4).gl B.lenG B.lenB (ldN (env := lawEnv L f cd) n4' (v := .ref nl) (by rw [if_neg (by decide), if_pos rfl]) ⟨nl, _, rfl, hvn.isList, by simp; omega, fun t tk => wpAny_Constant_int (add_int ⟨(numsF ns).length + 1, tk + 1, ?_, by omega, fun I h5 tk5 hI hk5 hIlt hit => ⟨I, _, rfl, lc_range (a := 0) hh hIlt hit, ne_of_get (ns_live n4').choose_spec hI, n4'.keeps hk5, ?_, ?_⟩⟩)⟩)))
  · simp only [List.size_toArray, hvnl]; rfl
  · rintro C k v s₃ m₃ hkm ⟨tv, rfl⟩ hC hn₃ hch E'
    refine wpAny_assign_Name (stN' (env := compEnvC _ _ C _) hn₃ fun h₄ hn₄ hs₄ => ⟨⟨_, hn₄⟩, (Chg.refl _ _).step fun b o hb e => hs₄.extBut b o hb e, ?_⟩)
    refine wpAny_pure ⟨rfl, Keeps.refl' { s₃ with heap := h₄, toks := _ } _, fun _ => ?_⟩
    refine wpAny_List (wpAny_items_nil ⟨by simp [sizeLine], Keeps.push' { s₃ with heap := h₄, toks := _ } _ _, .inr ⟨_, _, rfl, get_size _, Heap.get?_push_size _ rfl, rfl⟩⟩)
  intro fa s6 ys hfa0 hfal hP n6 C6 hnd
  have hnd' := hnd fun _ _ h => by cases h
  rw [List.filter_eq_self.mpr (by simp)] at hP
  obtain ⟨fams, rfl, hfl, hfo⟩ := refs_of hP
  have hfl' : fams.length = (numsF ns).length + 1 := by simpa using hfl
  have hndf : fams.Nodup := by
    rw [List.Nodup, List.pairwise_map] at hnd'
    exact hnd'.imp fun h e => h (by rw [e])
  have fr5 : ∀ a, h5.get? a = none → s4.heap.get? a = none := fun a ha => fresh_sub hk5 ha
  have back4 : ∀ a, s4.heap.get? a = none → s.heap.get? a = none ∨ a = L := fun a ha => by
    by_cases h : a = L
    · exact .inr h
    · left
      cases e : s.heap.get? a with
      | none => rfl
      | some o => have := C4.get h (C2'.get h e); rw [ha] at this; cases this
  have notL4 : ∀ a, s4.heap.get? a = none → a ≠ L := fun a ha => ne_live (ns_live n4') ha
  have C6' : Chg (· = L) s4 s6 := by
    obtain ⟨h9, t9, rfl, k9⟩ := C6
    exact ⟨h9, t9, rfl, fun b o hb e => k9 b o (fun h => h.elim (ne_of_get e hI) hb) (hk5 b o e)⟩
  have nl6 := nl4.chg C6' hnlL
  have sc6 := isList_chg sc4 C6' hscL
  have hfaL : fa ≠ L := notL4 fa (fr5 fa hfa0)
  -- above = [[0]]
  refine wpAny_execs_cons (st := nth lawBody 3) (wpAny_Assign_Name (wpAny_List (wpAny_items_cons (wpAny_List (wpAny_items_cons (wpAny_Constant_int (wpAny_items_nil ⟨by simp [sizeLine], wpAny_items_nil ⟨by simp [sizeLine], ?_⟩⟩)))))))
  generalize hH7 : ((s6.heap.push { cls := .type "list", data := .seq [Value.int 0 s6.toks].toArray }).push { cls := .type "list", data := .seq [Value.ref s6.heap.objs.size].toArray } : Heap) = H7
  have k7 : Sub s6.heap H7 := fun b o e => hH7 ▸ push2_keep e
  have r0 : H7.get? s6.heap.objs.size = some { cls := .type "list", data := .seq [Value.int 0 s6.toks].toArray } := hH7 ▸ Heap.get?_push_of_some _ (Heap.get?_push_size _ rfl)
  have ab0 : H7.PlainList (s6.heap.objs.size + 1) [Value.ref s6.heap.objs.size].toArray := hH7 ▸ push2_plain _ _ _
  have fr0 : s6.heap.get? s6.heap.objs.size = none := get_size _
  have fr1 : s6.heap.get? (s6.heap.objs.size + 1) = none := by
    cases e : s6.heap.get? (s6.heap.objs.size + 1) with
    | none => rfl
    | some o => exact absurd (Heap.lt_size e) (Nat.not_lt.mpr (Nat.le_succ _))
  have hr0L := ne_live (ns_live n6) fr0
  have habL := ne_live (ns_live n6) fr1
  have hsz7 : (s6.heap.push { cls := .type "list", data := .seq [Value.int 0 s6.toks].toArray }).objs.size = s6.heap.objs.size + 1 := Heap.size_push ..
  simp only [hsz7]
  refine stN' (env := lawEnv L f cd) (s := { s6 with heap := H7, toks := _ }) (n6.keeps k7) fun h8 n8 hs8 => ?_
  -- ways = []
  refine wpAny_execs_cons (st := nth lawBody 4) (wpAny_Assign_Name (wpAny_List (wpAny_items_nil ⟨by simp [sizeLine], stN' (env := lawEnv L f cd) (n8.push _) fun h9 n9 hs9 => ?_⟩)))
  dsimp only at hs8 hs9 n8 n9
  have fr8 : h8.get? h8.objs.size = none := get_size _
  have hwyL := ne_live (ns_live n8) fr8
  generalize hS9 : ({ s6 with heap := h9, toks := s6.toks + 1 + 1 + 1 } : Shared) = s9
  have k9 : ∀ b o, b ≠ L → s6.heap.get? b = some o → s9.heap.get? b = some o := fun b o hb e => by
    rw [← hS9]; exact hs9.extBut b o hb (Heap.get?_push_of_some _ (hs8.extBut b o hb (k7 b o e)))
  have C9 : Chg (· = L) s6 s9 := ⟨h9, _, hS9.symm, fun b o hb e => by have := k9 b o hb e; rwa [← hS9] at this⟩
  obtain ⟨m9, hm9, n9'⟩ : ∃ m9 : Str → Option Value, m9 = (fun y : Str => if y = "ways" then some (Value.ref h8.objs.size) else if y = "above" then some (.ref (s6.heap.objs.size + 1)) else if y = "families" then some (.ref fa) else if y = "turn" then some (.int (turnF ns) (s3.toks + 1)) else if y = "numbers" then some (.ref nl) else m y) ∧ s9.heap.Ns L m9 := ⟨_, rfl, by rw [← hS9]; exact n9⟩
  have r9 : s9.heap.get? s6.heap.objs.size = some { cls := .type "list", data := .seq [Value.int 0 s6.toks].toArray } := by
    rw [← hS9]; exact hs9.extBut _ _ hr0L (Heap.get?_push_of_some _ (hs8.extBut _ _ hr0L r0))
  have ab9 : s9.heap.PlainList (s6.heap.objs.size + 1) [Value.ref s6.heap.objs.size].toArray := by
    rw [← hS9]; exact ab0.at fun o e => hs9.extBut _ _ habL (Heap.get?_push_of_some _ (hs8.extBut _ _ habL e))
  have wy9 : s9.heap.PlainList h8.objs.size ([] : List Value).toArray := by
    rw [← hS9]; exact (push_plain h8 _).at fun o e => hs9.extBut _ _ hwyL e
  have live8 : ∀ b, b ≠ L → (∃ o, s6.heap.get? b = some o) → ∃ o, h8.get? b = some o := fun b hb ⟨o, e⟩ => ⟨o, hs8.extBut _ _ hb (k7 _ _ e)⟩
  have hwyab : s6.heap.objs.size + 1 ≠ h8.objs.size := by
    obtain ⟨n, e⟩ := ab0
    exact ne_of_get (hs8.extBut _ _ habL e) fr8
  have hwyr0 : s6.heap.objs.size ≠ h8.objs.size := ne_of_get (hs8.extBut _ _ hr0L r0) fr8
  have CC : Chg (· = L) s s9 := C2'.trans (C4.trans (C6'.trans C9))
  have SG9 : Sub g s9.heap := sub_chg SG CC fun b h => h ▸ hgL
  have famf : ∀ a ∈ fams, s4.heap.get? a = none ∧ s6.heap.get? a = some { cls := .type "list", data := .seq #[] } := fun a ha => ⟨fr5 a (hfo a ha).1, (hfo a ha).2⟩
  have famL : ∀ a ∈ fams, a ≠ L := fun a ha => notL4 a (famf a ha).1
  have live6 : ∀ a, (∃ o, s4.heap.get? a = some o) → a ≠ L → ∃ o, s6.heap.get? a = some o := fun a ⟨o, e⟩ h => ⟨o, C6'.get h e⟩
  have nl6l : ∃ o, s6.heap.get? nl = some o := nl6.live
  have sc6l : ∃ o, s6.heap.get? sc = some o := isList_live sc6
  have fa6l : ∃ o, s6.heap.get? fa = some o := let ⟨n, e⟩ := hfal; ⟨_, e⟩
  have notW : ∀ b, b ≠ L → (∃ o, s6.heap.get? b = some o) → b ∉ fams → ¬ LP.W ⟨L, nl, sc, fa, s6.heap.objs.size + 1, h8.objs.size, 0, fams⟩ b := by
    intro b hb hl hf hw
    rcases hw with h | h | h | h
    · exact hb h
    · exact ne_live hl fr1 h.symm
    · exact ne_live (live8 b hb hl) fr8 h.symm
    · exact hf h
  have hnlf : nl ∉ fams := fun h => ne_live nl4.live (famf nl h).1 rfl
  have hscf : sc ∉ fams := fun h => ne_live (isList_live sc4) (famf sc h).1 rfl
  have hfaf : fa ∉ fams := fun h => by
    have h1 := (famf fa h).2
    obtain ⟨n, e⟩ := hfal
    rw [e] at h1
    injection h1 with h1
    injection h1 with _ _ h1
    injection h1 with h1
    have := congrArg Array.size h1
    simp [hfl'] at this
  have okI : ∀ I, ¬ LP.W ⟨L, nl, sc, fa, s6.heap.objs.size + 1, h8.objs.size, 0, fams⟩ I → ({ (⟨L, nl, sc, fa, s6.heap.objs.size + 1, h8.objs.size, 0, fams⟩ : LP) with I := I } : LP).Ok := fun I hI =>
    ⟨hndf, fun h => famL L h rfl, habL, hwyL, hwyab, fun h => ne_live ⟨_, (famf _ h).2⟩ fr1 rfl, fun h => by obtain ⟨o, e⟩ := live8 _ (famL _ h) ⟨_, (famf _ h).2⟩; exact ne_live ⟨o, e⟩ fr8 rfl,
      notW nl hnlL nl6l hnlf, notW sc hscL sc6l hscf, notW fa hfaL fa6l hfaf, hI⟩
  have hr0W : ¬ LP.W ⟨L, nl, sc, fa, s6.heap.objs.size + 1, h8.objs.size, 0, fams⟩ s6.heap.objs.size := by
    intro hw
    rcases hw with h | h | h | h
    · exact hr0L h
    · exact Nat.ne_of_lt (Nat.lt_succ_self _) h
    · exact hwyr0 h
    · exact ne_live ⟨_, (famf _ h).2⟩ fr0 rfl
  have fa9 : s9.heap.IsList fa (fams.map Value.ref).toArray := hfal.isList.at fun o e => k9 _ o hfaL e
  refine wpAny_execs_cons (st := lawFor) (law_for (p := ⟨L, nl, sc, fa, s6.heap.objs.size + 1, h8.objs.size, 0, fams⟩) (g := g) (ns := ns) (vS := vS) (rs := [(s6.heap.objs.size, [0])]) (ws := []) okI hh B S SG9 ?_ ?_ (nl6.at fun o e => k9 _ o hnlL e) (sc6.at fun o e => k9 _ o hscL e) hvl h63 fa9 hfl' ⟨n9', ?_, ab9, ?_, wy9, by simp⟩ rfl rfl ?_ fun s10 rs ws m' C10 X10 hr10 hw10 nm10 => ?_)
  · intro b hb
    rcases hb with h | h | h | h
    · rw [h]; exact hgL
    · rw [h]; exact fresh_sub (sub_chg SG4 C6' fun b h => h ▸ hgL) fr1
    · rw [h]; exact fresh_sub (fun b o e => hs8.extBut b o (ne_of_get e hgL) (k7 b o (sub_chg SG4 C6' (fun b h => h ▸ hgL) b o e))) fr8
    · exact fresh_sub SG4 (famf b h).1
  · intro h tk hsub
    obtain ⟨hz, tz, ez, _⟩ := CC
    rw [ez]
    exact hpy h tk hsub
  · intro j a hj
    have ha := List.mem_of_getElem? hj
    exact ⟨[], ⟨_, k9 _ _ (famL a ha) (famf a ha).2⟩, .nil⟩
  · intro q hq
    rw [List.mem_singleton.mp hq]
    exact ⟨⟨[.int 0 s6.toks], ⟨_, r9⟩, .cons _ _ .nil⟩, hr0W⟩
  · subst hm9
    exact ⟨by rw [if_neg (by decide), if_neg (by decide), if_neg (by decide), if_neg (by decide), if_pos rfl], by rw [if_neg (by decide), if_neg (by decide), if_neg (by decide), if_neg (by decide), if_neg (by decide), hm], by rw [if_neg (by decide), if_neg (by decide), if_pos rfl], by rw [if_neg (by decide), if_pos rfl], by rw [if_pos rfl],
      _, by rw [if_neg (by decide), if_neg (by decide), if_neg (by decide), if_pos rfl]⟩
  · have C6s : Chg (· = L) s s6 := C2'.trans (C4.trans C6')
    have back6 : ∀ a, s6.heap.get? a = none → a ≠ L → s.heap.get? a = none := fun a ha h => by
      cases e : s.heap.get? a with
      | none => rfl
      | some o => have := C6s.get h e; rw [ha] at this; cases this
    have hWf : ∀ b, LP.W ⟨L, nl, sc, fa, s6.heap.objs.size + 1, h8.objs.size, 0, fams⟩ b ∨ b = fa → b = L ∨ s.heap.get? b = none := by
      intro b hb
      rcases hb with (h | h | h | h) | h
      · exact .inl h
      · exact .inr (h ▸ back6 _ fr1 habL)
      · right
        rw [h]
        cases e : s.heap.get? h8.objs.size with
        | none => rfl
        | some o =>
          obtain ⟨o', e'⟩ := live8 _ hwyL ⟨o, C6s.get hwyL e⟩
          rw [fr8] at e'; cases e'
      · exact (back4 b (famf b h).1).symm
      · exact (back4 b (h ▸ fr5 fa hfa0)).symm
    have C10' : Chg (· = L) s s10 := ((CC.mono fun b o e h => .inl h).trans C10).mono fun b o e h => (hWf b (.inl h)).elim id fun h' => absurd rfl (ne_of_get e h')
    exact hQ s10 _ rs ws m' rfl rfl C10' okI (notW fa hfaL fa6l hfaf) hfl' (isList_chg fa9 C10 (notW fa hfaL fa6l hfaf)) (isList_chg hsc C10' hscL) hWf X10 hr10 hw10 nm10
end
end Mine

end

/- LCalls -/
section
open PySem PySem.W PyProof.Rows
set_option Elab.async false
set_option linter.unusedVariables false
set_option maxRecDepth 100000
namespace Mine

section
variable {prog : Program} {w : World} {A : Around} {E : Value → Shared → Prop} {s : Shared} {mg mb : Str → Option Value} {g : Heap} {P : Addr}

theorem deeper_handled {A : Around} {env : Env} : (A.deeper env).handled = A.handled := rfl

/-- _law_context(handed) -/
theorem ctx_call {hdl : Addr} {Q : Value → Shared → Prop} (hroom : A.depth + 2 < recursionLimit) (X : (KK w).In g) (S : Stat mg mb g) (SG : Sub g s.heap) (hsc : mg "_SelectorContext" = some (.ref 43)) (hC : CodeHd g 53 P) (hgP : g.get? P = none) (hP : s.heap.get? P = some (tabObj #[]))
    (hQ : ∀ s' Lc r2 d2 r1 d1 fq c' tbs, Chg (· = P) s s' → CtxAt s'.heap Lc r2 d2 r1 d1 fq c' hdl → s'.heap.get? P = some (tabObj tbs) → s.heap.get? d2 = none → Q (.ref r2) s') : wpAny (model prog w) A (call (.ref 54) [.ref hdl]) Q E s := by
  obtain ⟨o, pm, doc, ho, hdat⟩ := fn54 w
  have Xs : (KK w).In s.heap := fun b o e => SG b o (X b o e)
  refine wpAny_call (call_cells_ret (binds := [("families", .ref hdl)]) (Nat.lt_of_le_of_lt (Nat.le_add_right _ 2) hroom) (Xs _ _ ho) hdat (S.lim.keeps SG) (codeRec_of Xs (cd53 w)) rfl (by intro x hx; rw [List.mem_singleton] at hx; subst hx; exact .inr ⟨rfl, rfl⟩) fun h₁ tk F Cl => ?_)
  have K1 : Sub s.heap h₁ := F.keep
  have hLn : s.heap.get? s.heap.objs.size = none := get_size _
  refine cx_body (s := { s with heap := h₁, toks := tk }) (fam := hdl) (P := P) (g := g) ?_ X S (fun b o e => K1 b o (SG b o e)) hsc F.ns (Cl.cell "families" _ rfl) hC hgP (K1 _ _ hP) (fresh_sub SG hLn) fun s' r2 d2 r1 d1 fq c' tbs C Cx hP' fd2 => ?_
  · show A.depth + 1 + 1 < recursionLimit; exact hroom
  · refine hQ s' s.heap.objs.size r2 d2 r1 d1 fq c' tbs ?_ Cx hP' (fresh_sub K1 fd2)
    obtain ⟨h', t', rfl, k⟩ := C
    exact ⟨h', t', rfl, fun b o hb e => k b o (fun h => h.elim hb (ne_of_get e hLn)) (K1 b o e)⟩

/-- get_parent_map(context) -/
theorem pm_call {Lc r2 d2 r1 d1 fq c' fam : Addr} {fs : List (Addr × List Int)} {Q : Value → Shared → Prop} (hh : A.handled = none) (hroom : A.depth + 2 < recursionLimit) (X : (KK w).In g) (S : Stat mg mb g) (SG : Sub g s.heap)
    (Cx : CtxAt s.heap Lc r2 d2 r1 d1 fq c' fam) (hM : Mat s.heap fam fs) (hgd : g.get? d2 = none) (hN : (fs.map fun p => p.2.length).sum ≤ 900)
    (hQ : ∀ s' td, Chg (· = d2) s s' → TdAt prog w s'.heap td (tbl fs) ((fs.map fun p => p.2.length).sum) → s.heap.get? td = none → mainGlobals < td → Q (.ref td) s') : wpAny (model prog w) A (call (.ref 26) [.ref r2]) Q E s := by
  obtain ⟨o, pm, doc, ho, hdat⟩ := fn26 w
  have Xs : (KK w).In s.heap := fun b o e => SG b o (X b o e)
  have hLn : s.heap.get? s.heap.objs.size = none := get_size _
  obtain ⟨hsh, kt, n2, e2⟩ := Cx.e2
  refine wpAny_call (codeAny_call_def (fd := Calls.docDef "get_parent_map" (argsOf (topStmt 3)) pmBody pmScope pm (.ref 25) doc) (body := pmBody) (binds := [("context", .ref r2)]) (Nat.lt_of_le_of_lt (Nat.le_add_right _ 2) hroom) (Xs _ _ ho) hdat (S.lim.keeps SG) (codeRec_of Xs (cd25 w)) rfl (BindsTo.of_eq rfl) (by show ∀ x ∈ pmScope.names, _; decide) (by intro x hx; rw [List.mem_singleton] at hx; subst hx; rfl) fun h₀ hns K0 => ?_)
  have live : ∀ b, (b = r2 ∨ b = d2 ∨ b = r1 ∨ b = d1 ∨ b = fq ∨ b = c' ∨ b = Lc + 1 ∨ b = fam ∨ b ∈ fs.map (·.1)) → ∃ o, s.heap.get? b = some o := by
    intro b hb
    rcases hb with h | h | h | h | h | h | h | h | h
    · exact h ▸ ⟨_, Cx.i2⟩
    · exact h ▸ ⟨_, e2⟩
    · exact h ▸ ⟨_, Cx.i1⟩
    · obtain ⟨_, _, _, _, _, e⟩ := Cx.e1; exact h ▸ ⟨_, e⟩
    · obtain ⟨_, _, e⟩ := Cx.fn; exact h ▸ ⟨_, e⟩
    · obtain ⟨c0, o, vs, t, ec, e, _⟩ := Cx.code; cases ec; exact h ▸ ⟨_, e⟩
    · exact h ▸ cell_live Cx.cell
    · exact h ▸ isList_live hM.l
    · obtain ⟨p, hp, rfl⟩ := List.mem_map.mp h; exact (hM.r p hp).live
  have hd2 : ∀ b, b = r2 ∨ b = r1 ∨ b = d1 ∨ b = fq ∨ b = c' ∨ b = Lc + 1 ∨ b = fam ∨ b ∈ fs.map (·.1) → b ≠ d2 := by
    intro b hb q
    rcases hb with h | h | h | h | h | h | h | h
    · have := Cx.i2; rw [← h, q, e2] at this; cases this
    · have := Cx.i1; rw [← h, q, e2] at this; cases this
    · obtain ⟨_, _, _, _, _, e⟩ := Cx.e1; rw [← h, q, e2] at e; injection e with e; injection e with _ _ e; injection e with e; have := congrArg Array.size e; simp at this
    · obtain ⟨_, _, e⟩ := Cx.fn; rw [← h, q, e2] at e; injection e with e; injection e with e1; injection e1 with e1; exact absurd e1 (by decide)
    · obtain ⟨c0, o, vs, t, ec, e, hd, _⟩ := Cx.code; cases ec; rw [← h, q, e2] at e; cases e; cases hd
    · obtain ⟨o, e, hd⟩ := Cx.cell; rw [← h, q, e2] at e; cases e; cases hd
    · obtain ⟨o, e, hc, _⟩ := hM.l; rw [← h, q, e2] at e; cases e; injection hc with e1; exact absurd e1 (by decide)
    · obtain ⟨p, hp, rfl⟩ := List.mem_map.mp h
      obtain ⟨vs, ⟨n, e⟩, _⟩ := hM.r p hp
      rw [q, e2] at e; injection e with e; injection e with e1; injection e1 with e1; exact absurd e1 (by decide)
  refine wpAny_mono (Q := fun f s' => match f with | .ret v => Q v s' | _ => False) (E := fun _ _ => False) ?_ (fun f s' h => ?_) fun _ _ h => h.elim
  · refine pm_body (s := { s with heap := h₀, toks := _ }) (g := g) (Lc := Lc) (r2 := r2) (d2 := d2) (r1 := r1) (d1 := d1) (fq := fq) (c' := c') (fam := fam) (fs := fs) hh ?_ X S (fun b o e => K0 b o (SG b o e)) hns rfl (Cx.keep K0) (hM.keep K0) (fresh_sub SG hLn) hgd ?_ hd2 hN fun s' td C hT ft hlt => ?_
    · show A.depth + 1 < recursionLimit; omega
    · exact fun b hb => Ne.symm (ne_live (live b hb) hLn)
    · refine hQ s' td ?_ hT (fresh_sub K0 ft) hlt
      obtain ⟨h', t', rfl, k⟩ := C
      exact ⟨h', t', rfl, fun b o hb e => k b o (fun h => h.elim (ne_of_get e hLn) hb) (K0 b o e)⟩
  · cases f with
    | ret v => exact h
    | next => exact h.elim
    | brk => exact h.elim
    | cont => exact h.elim

/-- _law_way_up(table, families, node) -/
theorem wu_call {td fa : Addr} {fams : List Addr} {par : Nat → Nat} {tb : Int → Option Value} {N k : Nat} {t : Tok} {Q : Value → Shared → Prop} (hh : A.handled = none) (hroom : A.depth + 2 < recursionLimit) (X : (KK w).In g) (S : Stat mg mb g) (SG : Sub g s.heap) (B : Bi mg mb)
    (hT : TdAt prog w s.heap td tb N) (htd : mainGlobals < td) (hfa : s.heap.IsList fa (fams.map Value.ref).toArray) (hnd : fams.Nodup) (hfl : ∀ a ∈ fams, ∃ ns, IntL s.heap a ns) (hlen : fams.length ≤ 1000)
    (hk : k ≤ 500) (hpar : ∀ j, 1 ≤ j → j ≤ k → par j < j) (htb0 : tb 0 = none) (htb : ∀ j : Nat, 1 ≤ j → j ≤ k → ∃ a, fams[par j]? = some a ∧ tb j = some (.ref a))
    (hQ : ∀ s' r, Keeps s s' → IntL s'.heap r (upI par k) → s.heap.get? r = none → Q (.ref r) s') : wpAny (model prog w) A (call (.ref 59) [.ref td, .ref fa, .int k t]) Q E s := by
  obtain ⟨o, pm, doc, ho, hdat⟩ := fn59 w
  have Xs : (KK w).In s.heap := fun b o e => SG b o (X b o e)
  refine wpAny_call (call_cells_ret (binds := [("table", .ref td), ("families", .ref fa), ("node", .int k t)]) (Nat.lt_of_le_of_lt (Nat.le_add_right _ 2) hroom) (Xs _ _ ho) hdat (S.lim.keeps SG) (codeRec_of Xs (cd58 w)) rfl (by intro x hx; simp only [List.mem_cons, List.not_mem_nil, or_false] at hx; rcases hx with rfl | rfl | rfl; exact .inl rfl; exact .inr ⟨rfl, rfl⟩; exact .inl rfl) fun h₁ tk F Cl => ?_)
  have K1 : Sub s.heap h₁ := F.keep
  have hLn : s.heap.get? s.heap.objs.size = none := get_size _
  have hLn2 : s.heap.get? (s.heap.objs.size + 2) = none := by
    cases e : s.heap.get? (s.heap.objs.size + 2) with
    | none => rfl
    | some o => exact absurd (Heap.lt_size e) (Nat.not_lt.mpr (Nat.le_add_right _ _))
  have liveNe : ∀ b, (∃ o, s.heap.get? b = some o) → b ≠ s.heap.objs.size ∧ b ≠ s.heap.objs.size + 2 := fun b l => ⟨Ne.symm (ne_live l hLn), Ne.symm (ne_live l hLn2)⟩
  have hgl := ns_live (S.gl.g.keeps SG)
  have hgb := ns_live (S.gl.b.keeps SG)
  obtain ⟨kvs, hkv, hkt, _⟩ := hT.at (fun o e => K1 _ o e)
  have hmap : h₁.MapOf (intKind prog w) td tb := by
    have := hkv.mapOf
    rwa [show valueAt kvs = tb from funext hkt] at this
  refine wu_body (s := { s with heap := h₁, toks := tk }) (L := s.heap.objs.size) (td := td) (fa := fa) (fams := fams) (par := par) (tb := tb) (k := k) (t := t) hh (S.keep fun b o e => K1 b o (SG b o e)).gl B.rangeG B.rangeB B.lenG B.lenB ⟨(liveNe _ hgl).1, (liveNe _ hgb).1, (liveNe _ hgl).2, (liveNe _ hgb).2⟩ F.ns rfl rfl (Cl.cell "families" _ rfl) (Cl.cell "family" _ rfl) hmap ?_ (liveNe _ hT.live) (hfa.at fun o e => K1 _ o e) (liveNe _ (isList_live hfa)) hnd ?_ hlen hk hpar htb0 htb fun s' r hr fr C => ?_
  · refine beq_eq_false_iff_ne.mpr fun h => ?_
    rw [h] at htd
    exact absurd htd (by decide)
  · intro b hb
    obtain ⟨ns, vs, ⟨n, e⟩, _⟩ := hfl b hb
    exact ⟨⟨_, K1 _ _ e, by simp⟩, liveNe b ⟨_, e⟩⟩
  · refine hQ s' r ?_ hr (fresh_sub K1 fr)
    obtain ⟨h', t', rfl, k⟩ := C
    exact ⟨h', t', rfl, fun b o e => k b o (fun h => h.elim (ne_of_get e hLn) (ne_of_get e hLn2)) (K1 b o e)⟩
end
end Mine

end

/- LCalls2 -/
section
open PySem PySem.W PyProof.Rows
set_option Elab.async false
set_option linter.unusedVariables false
set_option maxRecDepth 100000
namespace Mine

theorem list_ne_tab {h : Heap} {a P : Addr} {xs : Array Value} {t : Array Value} (x : h.IsList a xs) (hP : h.get? P = some (tabObj t)) : a ≠ P := fun q => by
  obtain ⟨o, e, hc, _⟩ := x
  rw [q, hP] at e; cases e; cases hc
theorem intL_ne_tab {h : Heap} {a P : Addr} {ns : List Int} {t : Array Value} (x : IntL h a ns) (hP : h.get? P = some (tabObj t)) : a ≠ P := let ⟨_, p, _⟩ := x; list_ne_tab p.isList hP
theorem tupB_ne_tab {h : Heap} {p : Addr × (Int × Bool)} {P : Addr} {t : Array Value} (x : TupB h p) (hP : h.get? P = some (tabObj t)) : p.1 ≠ P := fun q => by
  obtain ⟨o, _, _, e, hc, _⟩ := x
  rw [q, hP] at e; cases e; cases hc

section
variable {prog : Program} {w : World} {A : Around} {E : Value → Shared → Prop} {s : Shared} {mg mb : Str → Option Value} {g : Heap} {P : Addr}

/-- _law_parts(above, ways) -/
theorem pa_call {ab wy : Addr} {rs : List (Addr × List Int)} {ws : List (Addr × (Int × Bool))} {mxC kcC mxW kcW : Int → Int} {Q : Value → Shared → Prop} (hh : A.handled = none) (hu : A.units + 70 < cLine) (hroom : A.depth + 2 < recursionLimit) (B : Bi mg mb)
    (X : (KK w).In g) (S : Stat mg mb g) (SG : Sub g s.heap) (hC : CodeHd g 63 P) (hgP : g.get? P = none) (hP : s.heap.get? P = some (tabObj #[]))
    (hM : Mat s.heap ab rs) (hrs : rs.length ≤ 60) (hrs1 : 1 ≤ rs.length) (hrl : ∀ r ∈ rs, r.2.length ≤ 1000) (hW : Wys s.heap wy ws) (hws : ws.length ≤ 1000) (hin : ∀ p ∈ ws, 0 ≤ p.2.1 ∧ p.2.1 < (rs.length : Int))
    (KC : Keyed rs ((prsOf (ws.map (·.2)) true).filter (lowestOf rs (prsOf (ws.map (·.2)) true))) ((nodesOf rs (prsOf (ws.map (·.2)) true)).map fun n : Nat => (n : Int)) true mxC kcC)
    (KW : Keyed rs (prsOf (ws.map (·.2)) false) ((nodesOf rs (prsOf (ws.map (·.2)) false)).map fun n : Nat => (n : Int)) false mxW kcW)
    (hQ : ∀ s' T D1 D2 ns1 ns2 tbs, Chg (· = P) s s' → IsTup s'.heap T #[.ref D1, .ref D2] → IntL s'.heap D1 ns1 → IntL s'.heap D2 ns2 →
      ns1.Perm ((nodesOf rs (prsOf (ws.map (·.2)) true)).map fun n : Nat => (n : Int)) → ns1.Pairwise (fun a b => kcC a < kcC b) →
      ns2.Perm ((nodesOf rs (prsOf (ws.map (·.2)) false)).map fun n : Nat => (n : Int)) → ns2.Pairwise (fun a b => kcW a < kcW b) →
      s'.heap.get? P = some (tabObj tbs) → s.heap.get? D1 = none → s.heap.get? D2 = none → Q (.ref T) s') :
    wpAny (model prog w) A (call (.ref 64) [.ref ab, .ref wy]) Q E s := by
  obtain ⟨o, pm, doc, ho, hdat⟩ := fn64 w
  have Xs : (KK w).In s.heap := fun b o e => SG b o (X b o e)
  have G1 : ∀ b o, b ≠ P → s.heap.get? b = some o → (hideAll s.heap [P]).get? b = some o := fun b o hb e => hideAll_get _ e (by simpa using hb)
  have SG1 : Sub (hideAll s.heap [P]) s.heap := fun b o e => of_hideAll _ e
  have gg : Sub g (hideAll s.heap [P]) := fun b o e => G1 b o (ne_of_get e hgP) (SG b o e)
  have hg1P : (hideAll s.heap [P]).get? P = none := hideAll_none _ (by simp)
  have hM1 : Mat (hideAll s.heap [P]) ab rs := ⟨hM.l.at fun o e => G1 _ o (list_ne_tab hM.l hP) e, fun p hp => (hM.r p hp).at fun o e => G1 _ o (intL_ne_tab (hM.r p hp) hP) e⟩
  have hW1 : Wys (hideAll s.heap [P]) wy ws := ⟨hW.l.at fun o e => G1 _ o (list_ne_tab hW.l hP) e, fun p hp => by
    obtain ⟨o, e, t, h1, h2⟩ := hW.t p hp
    exact ⟨o, e, t, G1 _ o (tupB_ne_tab (p := p) ⟨o, e, t, h1, h2⟩ hP) h1, h2⟩⟩
  refine wpAny_call (call_cells_ret (binds := [("above", .ref ab), ("ways", .ref wy)]) (Nat.lt_of_le_of_lt (Nat.le_add_right _ 2) hroom) (Xs _ _ ho) hdat (S.lim.keeps SG) (codeRec_of Xs (cd63 w)) rfl (by intro x hx; simp only [List.mem_cons, List.not_mem_nil, or_false] at hx; rcases hx with rfl | rfl; exact .inr ⟨rfl, rfl⟩; exact .inr ⟨rfl, rfl⟩) fun h₁ tk F Cl => ?_)
  have K1 : Sub s.heap h₁ := F.keep
  have none_at : ∀ i, s.heap.get? (s.heap.objs.size + i) = none := fun i => by
    cases e : s.heap.get? (s.heap.objs.size + i) with
    | none => rfl
    | some o => exact absurd (Heap.lt_size e) (Nat.not_lt.mpr (Nat.le_add_right _ _))
  have hLn : s.heap.get? s.heap.objs.size = none := get_size _
  refine pa_body (s := { s with heap := h₁, toks := tk }) (g := hideAll s.heap [P]) (L := s.heap.objs.size) (P := P) (c := 63) (mxC := mxC) (kcC := kcC) (mxW := mxW) (kcW := kcW) hh ?_ ?_ B (fun b o e => K1 b o (SG1 b o e)) (S.keep gg) (hC.keeps gg) hg1P (K1 _ _ hP) hM1 hrs hrs1 hrl hW1 hws hin F.ns (Cl.cell "above" _ rfl) (Cl.cell "ways" _ rfl) (Cl.cell "ups" _ rfl) (Cl.cell "downs" _ rfl) (Cl.cell "lowest" _ rfl)
    ⟨fresh_sub SG1 hLn, fresh_sub SG1 (none_at 3), fresh_sub SG1 (none_at 4), fresh_sub SG1 (none_at 5)⟩ KC KW fun s' T D1 D2 ns1 ns2 tbs C h1 h2 h3 h4 h5 h6 h7 h8 h9 h10 h11 => ?_
  · show A.units + 3 + 64 < cLine; omega
  · show A.depth + 1 < recursionLimit; omega
  · refine hQ s' T D1 D2 ns1 ns2 tbs ?_ h1 h2 h3 h4 h5 h6 h7 h8 (fresh_sub K1 h9) (fresh_sub K1 h10)
    obtain ⟨h', t', rfl, k⟩ := C
    exact ⟨h', t', rfl, fun b o hb e => k b o (fun h => by
      rcases h with h | h | h | h | h
      · exact hb h
      · exact ne_of_get e hLn h
      · exact ne_of_get e (none_at 3) h
      · exact ne_of_get e (none_at 4) h
      · exact ne_of_get e (none_at 5) h) (K1 b o e)⟩
end
end Mine

end

/- LCalls3 -/
section
open PySem PySem.W PyProof.Rows
set_option Elab.async false
set_option linter.unusedVariables false
set_option maxRecDepth 100000
namespace Mine
section
variable {prog : Program} {w : World} {A : Around} {E : Value → Shared → Prop} {s : Shared} {mg mb : Str → Option Value} {g : Heap}

/-- _c3_merge(rows) -/
theorem c3_call {q : Addr} {rs0 : List (Addr × List Int)} {n : Nat} {res : Option (List Int)} {rowsF : List (List Int)} {envL : Env} {L : Addr} {m : Str → Option Value} {Q : Value → Shared → Prop}
    (hh : A.handled = none) (hroom : A.depth + 2 < recursionLimit) (X : (KK w).In g) (S : Stat mg mb g) (SG : Sub g s.heap) (hgE : mg "RuntimeError" = none) (hbE : mb "RuntimeError" = some (.type "RuntimeError"))
    (hfr : A.frames = some [envL]) (hfL : envL.frame = some L) (hkL : envL.scope.kind ≠ .module) (hn : s.heap.Ns L m)
    (hl : s.heap.IsList q (rs0.map fun p => Value.ref p.1).toArray) (hqR : q ∉ rs0.map (·.1)) (hrows : ∀ p ∈ rs0, IntL s.heap p.1 p.2) (hnd : (rs0.map (·.1)).Nodup) (hfit : total (rs0.map (·.2)) ≤ 500) (hlen0 : rs0.length ≤ 500)
    (hLR : L ∉ rs0.map (·.1)) (hgR : mainGlobals ∉ rs0.map (·.1)) (hbR : builtinsNs ∉ rs0.map (·.1))
    (hM : Mg n (rs0.map (·.2)) [] res rowsF)
    (kret : ∀ s' r acc, res = some acc → Chg (fun b => b ∈ rs0.map (·.1)) s s' → (∃ rs : List (Addr × List Int), rs.map (·.1) = rs0.map (·.1) ∧ rs.map (·.2) = rowsF ∧ ∀ p ∈ rs, IntL s'.heap p.1 p.2) → IntL s'.heap r acc → s.heap.get? r = none → Q (.ref r) s')
    (kerr : ∀ s' h' e t tt L', res = none → Chg (fun b => b ∈ rs0.map (·.1)) s s' → (∃ rs : List (Addr × List Int), rs.map (·.1) = rs0.map (·.1) ∧ rs.map (·.2) = rowsF ∧ ∀ p ∈ rs, IntL s'.heap p.1 p.2) → s.heap.get? L' = none →
      Heap.FlyingW (hideAll s'.heap [L, L']) [envL] e (.type "RuntimeError") (.ref t) h' → h'.TupAt t [.str "Inconsistent hierarchy" tt] → (hideAll s'.heap [L, L']).get? t = none → s'.heap.UpToSlots h' → E (.ref e) { s' with heap := h' }) :
    wpAny (model prog w) A (call (.ref 19) [.ref q]) Q E s := by
  obtain ⟨o, pm, doc, ho, hdat⟩ := fn19 w
  have Xs : (KK w).In s.heap := fun b o e => SG b o (X b o e)
  have hLn : s.heap.get? s.heap.objs.size = none := get_size _
  refine wpAny_call (codeAny_call_def (fd := Calls.docDef "_c3_merge" (argsOf (topStmt 1)) c3Body c3Scope pm (.ref 18) doc) (body := c3Body) (binds := [("sequences", .ref q)]) (Nat.lt_of_le_of_lt (Nat.le_add_right _ 2) hroom) (Xs _ _ ho) hdat (S.lim.keeps SG) (codeRec_of Xs (cd18 w)) rfl (BindsTo.of_eq rfl) (by show ∀ x ∈ c3Scope.names, _; decide) (by intro x hx; rw [List.mem_singleton] at hx; subst hx; rfl) fun h₀ hns K0 => ?_)
  have hrowLive : ∀ b ∈ rs0.map (·.1), ∃ o, s.heap.get? b = some o := fun b hb => by
    obtain ⟨p, hp, rfl⟩ := List.mem_map.mp hb
    exact (hrows p hp).live
  have hLrow : s.heap.objs.size ∉ rs0.map (·.1) := fun h => ne_live (hrowLive _ h) hLn rfl
  have hgl := ns_live (S.gl.g.keeps SG)
  have hgb := ns_live (S.gl.b.keeps SG)
  have SG0 : Sub g h₀ := fun b o e => K0 b o (SG b o e)
  have back : ∀ s', Chg (fun b => b = s.heap.objs.size ∨ b ∈ rs0.map (·.1)) { s with heap := h₀, toks := s.toks + ([("sequences", Value.ref q)] : List (Str × Value)).length } s' → Chg (fun b => b ∈ rs0.map (·.1)) s s' := by
    rintro s' ⟨h', t', rfl, k⟩
    exact ⟨h', t', rfl, fun b o hb e => k b o (fun h => h.elim (ne_of_get e hLn) hb) (K0 b o e)⟩
  refine c3_body (s := { s with heap := h₀, toks := _ }) (L := s.heap.objs.size) (q := q) (mg := mg) (mb := mb) hh hns rfl (hl.at fun o e => K0 _ o e) (Ne.symm (ne_live (isList_live hl) hLn)) hqR (fun p hp => (hrows p hp).at fun o e => K0 _ o e) hnd hLrow hfit hlen0 (S.gl.g.keeps SG0) (S.gl.b.keeps SG0) hgE hbE
    ⟨Ne.symm (ne_live hgl hLn), hgR⟩ ⟨Ne.symm (ne_live hgb hLn), hbR⟩ hM (fun s' r acc hres C hr fr hrL => ?_) (fun s' h' e tt hres C hE => ?_)
  · exact kret s' r acc hres (back s' C.chg) C.rows hr (fresh_sub K0 fr)
  · refine PassesOwn.leaving _ _ ?_
    have hnE : s'.heap.Ns L m := ns_chg (s := { s with heap := h₀, toks := _ }) (hn.keeps K0) C.chg fun h => h.elim (Ne.symm (ne_live (ns_live hn) hLn)) hLR
    obtain ⟨m', hnC⟩ := C.names
    refine wpAny_leaves_madeW (base := hideAll s'.heap [L, s.heap.objs.size]) (h := s'.heap) (cls := .type "RuntimeError") (args := [.str "Inconsistent hierarchy" tt]) (outer := [envL]) (L := s.heap.objs.size) ?_ rfl (fun b o e => of_hideAll _ e) ?_ ⟨hE.keeps, hE.new, hE.there⟩ fun h'' t hF hT hbt hU => ?_
    · show A.frames.map _ = _
      rw [hfr]; rfl
    · exact Heap.FunFrames.cons (by show c3Scope.kind ≠ _; decide) rfl hnC (hideAll_none _ (by simp)) (Heap.FunFrames.cons hkL hfL hnE (hideAll_none _ (by simp)) trivial)
    · exact kerr s' h'' e t tt _ hres (back s' C.chg) C.rows hLn hF hT hbt ((Heap.UpToSlots.of_keeps hE.keeps).trans hU)
end
end Mine

end

/- Law6 -/
section
open PySem PySem.W PyProof.Rows
set_option Elab.async false
set_option linter.unusedVariables false
set_option maxRecDepth 100000
namespace Mine

def LBset (p : LP) (rs : List (Addr × List Int)) (ws : List (Addr × (Int × Bool))) (b : Addr) : Prop := b = p.ab ∨ b = p.wy ∨ b ∈ p.fams ∨ b ∈ rs.map (·.1) ∨ b ∈ ws.map (·.1)

section
variable {p : LP} {fc : Nat → List Int} {rs : List (Addr × List Int)} {ws : List (Addr × (Int × Bool))} {m m' : Str → Option Value} {s s' : Shared}
theorem LB.mv (x : LB p fc rs ws m s) (hn : s'.heap.Ns p.L m') (k : ∀ b o, LBset p rs ws b → s.heap.get? b = some o → s'.heap.get? b = some o) : LB p fc rs ws m' s' :=
  ⟨hn, fun j a h => (x.fam j a h).at fun o e => k _ o (.inr (.inr (.inl (List.mem_of_getElem? h)))) e, x.abl.at fun o e => k _ o (.inl rfl) e, fun q hq => ⟨(x.abr q hq).1.at fun o e => k _ o (.inr (.inr (.inr (.inl (List.mem_map_of_mem hq))))) e, (x.abr q hq).2⟩,
    x.wyl.at fun o e => k _ o (.inr (.inl rfl)) e, fun q hq => ⟨(x.wyr q hq).1.at fun o e => k _ o (.inr (.inr (.inr (.inr (List.mem_map_of_mem hq))))) e, (x.wyr q hq).2⟩⟩
theorem LB.live (x : LB p fc rs ws m s) {b : Addr} (h : LBset p rs ws b) : ∃ o, s.heap.get? b = some o := by
  rcases h with h | h | h | h | h
  · obtain ⟨n, e⟩ := x.abl; exact h ▸ ⟨_, e⟩
  · obtain ⟨n, e⟩ := x.wyl; exact h ▸ ⟨_, e⟩
  · obtain ⟨j, hj⟩ := List.mem_iff_getElem?.mp h; exact (x.fam j b hj).live
  · obtain ⟨q, hq, rfl⟩ := List.mem_map.mp h; exact (x.abr q hq).1.live
  · obtain ⟨q, hq, rfl⟩ := List.mem_map.mp h; obtain ⟨⟨o, e, t, ho, _⟩, _⟩ := x.wyr q hq; exact ⟨o, ho⟩
theorem LB.neL (x : LB p fc rs ws m s) {I : Addr} (ok : ({ p with I := I } : LP).Ok) {b : Addr} (h : LBset p rs ws b) : b ≠ p.L := by
  rcases h with h | h | h | h | h
  · exact h ▸ ok.abL
  · exact h ▸ ok.wyL
  · exact fun e => ok.Lf (e ▸ h)
  · obtain ⟨q, hq, rfl⟩ := List.mem_map.mp h; exact fun e => (x.abr q hq).2 (.inl e)
  · obtain ⟨q, hq, rfl⟩ := List.mem_map.mp h; exact fun e => (x.wyr q hq).2 (.inl e)
theorem LB.neTab (x : LB p fc rs ws m s) {P : Addr} {t : Array Value} (hP : s.heap.get? P = some (tabObj t)) {b : Addr} (h : LBset p rs ws b) : b ≠ P := by
  rcases h with h | h | h | h | h
  · exact h ▸ list_ne_tab x.abl.isList hP
  · exact h ▸ list_ne_tab x.wyl.isList hP
  · obtain ⟨j, hj⟩ := List.mem_iff_getElem?.mp h; exact intL_ne_tab (x.fam j b hj) hP
  · obtain ⟨q, hq, rfl⟩ := List.mem_map.mp h; exact intL_ne_tab (x.abr q hq).1 hP
  · obtain ⟨q, hq, rfl⟩ := List.mem_map.mp h; exact tupB_ne_tab (x.wyr q hq).1 hP
theorem LB.mat (x : LB p fc rs ws m s) : Mat s.heap p.ab rs := ⟨x.abl.isList, fun q hq => (x.abr q hq).1⟩
theorem LB.wys (x : LB p fc rs ws m s) : Wys s.heap p.wy ws := ⟨x.wyl.isList, fun q hq => (x.wyr q hq).1⟩
end

/-- the families, with what they hold -/
def famsF (ns : List Int) (fams : List Addr) : List (Addr × List Int) := (List.range fams.length).map fun j => (fams.getD j 0, famF ns (numsF ns).length j)
theorem famsF_fst (ns : List Int) (fams : List Addr) : (famsF ns fams).map (fun q => Value.ref q.1) = fams.map Value.ref := by
  apply List.ext_getElem?
  intro i
  by_cases h : i < fams.length
  · simp [famsF, h]
  · rw [List.getElem?_eq_none (by simp [famsF]; omega), List.getElem?_eq_none (by simp; omega)]
/-- as they are handed out -/
def handF (ns : List Int) (fams : List Addr) : List (Addr × List Int) := if oddF ns then (famsF ns fams).reverse else famsF ns fams

section
variable {prog : Program} {w : World} {A : Around} {E : Value → Shared → Prop} {p : LP} {s : Shared} {rs : List (Addr × List Int)} {ws : List (Addr × (Int × Bool))} {m mg mb : Str → Option Value} {f : Addr} {cd : Value} {g : Heap} {Pc Pp : Addr}

theorem famsF_mat {ns : List Int} {fa : Addr} {ab : Addr} {fams : List Addr} {h : Heap} (hl : h.IsList fa (fams.map Value.ref).toArray) (hf : ∀ (j : Nat) (a : Addr), fams[j]? = some a → IntL h a (famF ns (numsF ns).length j)) : Mat h fa (famsF ns fams) := by
  refine ⟨by rw [famsF_fst]; exact hl, fun q hq => ?_⟩
  obtain ⟨j, hj, rfl⟩ := List.mem_map.mp hq
  have hj' := List.mem_range.mp hj
  have e : fams[j]? = some (fams.getD j 0) := by simp [hj']
  exact hf j _ e

theorem law_table {ns : List Int} {vS : List Value} {Q : Flow → Shared → Prop} {I0 : Addr} (ok : ({ p with I := I0 } : LP).Ok) (hh : A.handled = none) (hroom : A.depth + 3 < recursionLimit) (B : BiL mg mb) (Xk : (KK w).In g) (S : Stat mg mb g) (SG : Sub g s.heap) (hgL : g.get? p.L = none)
    (hC : CodeHd g 53 Pc) (hgP : g.get? Pc = none) (hP : s.heap.get? Pc = some (tabObj #[]))
    (hsc : s.heap.IsList p.sc vS.toArray) (hvl : vS.length = ns.length) (h63 : ns.length ≤ 63) (hfa : s.heap.IsList p.fa (p.fams.map Value.ref).toArray) (hfl : p.fams.length = (numsF ns).length + 1)
    (X : LB p (famF ns (numsF ns).length) rs ws m s) (nm : Nm p (turnF ns) m)
    (hQ : ∀ s' td rw m' tbs N, Chg (fun b => b = p.L ∨ b = Pc) s s' → LB p (famF ns (numsF ns).length) rs ws m' s' → Nm p (turnF ns) m' → m' "table" = some (.ref td) → m' "rows" = some (.ref rw) → TdAt prog w s'.heap td (tbl (handF ns p.fams)) N → mainGlobals < td → s'.heap.PlainList rw #[] → s'.heap.get? Pc = some (tabObj tbs) →
      s.heap.get? rw = none → rw ≠ td → td ≠ p.L → rw ≠ p.L → s.heap.get? td = none → wpAny (model prog w) A (execs (lawBody.drop 9) (lawEnv p.L f cd)) Q E s') :
    wpAny (model prog w) A (execs (lawBody.drop 6) (lawEnv p.L f cd)) Q E s := by
  have hlen := numsF_len ns
  have hMf := famsF_mat (ab := 0) hfa X.fam
  have hLn := ns_live X.ns
  have hfaL : p.fa ≠ p.L := fun h => ok.faW (.inl h)
  have hscL : p.sc ≠ p.L := fun h => ok.scW (.inl h)
  have hLP := ns_ne_tab X.ns hP
  -- handed
  have hand_step : ∀ (Q' : Value → Shared → Prop) (E' : Value → Shared → Prop), (∀ hdl s', Keeps s s' → Mat s'.heap hdl (handF ns p.fams) → hdl ≠ p.L → Q' (.ref hdl) s') → wpAny (model prog w) A (eval (match nth lawBody 6 with | .Assign _ v _ => v | _ => .Constant .none 0 default) (lawEnv p.L f cd)) Q' E' s := by
    intro Q' E' hq
    refine wpAny_IfExp ?_
    refine wpAny_isTrue_Compare1 (wpAny_BinOp (len_call (S.keep SG).gl B.lenG B.lenB (ldN (env := lawEnv p.L f cd) X.ns nm.sc ⟨p.sc, _, rfl, hsc, by simp; omega, fun t tk => wpAny_Constant_int (mod_int (by decide) (wpAny_Constant_int (PyProof.Rows.eq_int (wpAny_truthy_bool ?_))))⟩)))
    have eo : (((vS.toArray.size : Nat) : Int).fmod 2 == 1) = oddF ns := by rw [List.size_toArray, hvl]; rfl
    rw [eo]
    by_cases hodd : oddF ns = true
    · rw [hodd]
      simp only [if_true]
      refine rev_slice (ldN (env := lawEnv p.L f cd) X.ns nm.fa ⟨p.fa, _, rfl, hMf.l, by simp [famsF]; omega, fun D s' K fD hD => ?_⟩)
      refine hq D s' (Keeps.trans' ⟨s.heap, _, rfl, fun _ _ e => e⟩ K) ⟨?_, fun q hq' => ?_⟩ (ne_live hLn fD)
      · have e : (handF ns p.fams).map (fun q => Value.ref q.1) = ((famsF ns p.fams).map (fun q => Value.ref q.1)).reverse := by rw [handF, if_pos hodd, List.map_reverse]
        rw [e]; exact hD.isList
      · rw [handF, if_pos hodd] at hq'
        exact (hMf.r q (List.mem_reverse.mp hq')).at fun o e => Keeps.get' K e
    · have hodd' : oddF ns = false := by simpa using hodd
      rw [hodd']
      simp only [Bool.false_eq_true, if_false]
      refine ldN (env := lawEnv p.L f cd) X.ns nm.fa (hq p.fa _ ⟨s.heap, _, rfl, fun _ _ e => e⟩ ?_ hfaL)
      rw [handF, if_neg hodd]
      exact hMf
  refine wpAny_execs_cons (st := nth lawBody 6) (wpAny_Assign_Name (hand_step _ _ fun hdl s1 K1 M1 hdL => stN' (env := lawEnv p.L f cd) (X.ns.keeps (Sub.of_keeps K1)) fun h2 n2 hs2 => ?_))
  generalize hS2 : ({ s1 with heap := h2, toks := s1.toks + 1 } : Shared) = s2
  have C2 : Chg (· = p.L) s s2 := by
    obtain ⟨h1, t1, rfl, k1⟩ := K1
    exact ⟨h2, _, hS2.symm, fun b o hb e => hs2.extBut b o hb (k1 b o e)⟩
  have n2' : s2.heap.Ns p.L (fun y => if y = "handed" then some (.ref hdl) else m y) := by rw [← hS2]; exact n2
  have memH : ∀ q ∈ handF ns p.fams, q.1 ∈ p.fams ∧ ∃ j, q.2 = famF ns (numsF ns).length j := fun q hq => by
    have hq' : q ∈ famsF ns p.fams := by
      unfold handF at hq
      split at hq
      · exact List.mem_reverse.mp hq
      · exact hq
    obtain ⟨j, hj, rfl⟩ := List.mem_map.mp hq'
    have hj' := List.mem_range.mp hj
    exact ⟨by show p.fams.getD j 0 ∈ p.fams; rw [List.getD, List.getElem?_eq_getElem hj']; exact List.getElem_mem _, j, rfl⟩
  have rowL : ∀ q ∈ handF ns p.fams, q.1 ≠ p.L := fun q hq e => ok.Lf (e ▸ (memH q hq).1)
  have M2 : Mat s2.heap hdl (handF ns p.fams) := by
    rw [← hS2]
    exact ⟨M1.l.at fun o e => hs2.extBut _ o hdL e, fun q hq => (M1.r q hq).at fun o e => hs2.extBut _ o (rowL q hq) e⟩
  have SG2 := sub_chg SG C2 fun b h => h ▸ hgL
  have P2 := C2.get (Ne.symm hLP) hP
  have hsum : ((handF ns p.fams).map fun q => q.2.length).sum ≤ 900 := by
    have h1 : ∀ l : List (Addr × List Int), (∀ q ∈ l, q.2.length ≤ 26) → (l.map fun q => q.2.length).sum ≤ 26 * l.length := by
      intro l
      induction l with
      | nil => intro _; simp
      | cons a r ih =>
        intro h
        have h1 := h a List.mem_cons_self
        have h2 := ih fun q hq => h q (List.mem_cons_of_mem _ hq)
        simp only [List.map_cons, List.sum_cons, List.length_cons]; omega
    have h2 := h1 (handF ns p.fams) fun q hq => by
      obtain ⟨_, j, e⟩ := memH q hq
      rw [e]
      have := famF_len ns (numsF ns).length j; omega
    have h3 : (handF ns p.fams).length = p.fams.length := by unfold handF famsF; split <;> simp
    omega
  -- table
  obtain ⟨o26, _, _, ho26, hd26⟩ := fn26 w
  obtain ⟨o54, _, _, ho54, hd54⟩ := fn54 w
  have look : ∀ {h : Heap} {a : Addr} {o : Obj}, Sub g h → (KK w).lookup a = some o → h.get? a = some o := fun k e => k _ _ (Xk _ _ e)
  refine wpAny_execs_cons (st := nth lawBody 7) (wpAny_Assign_Name (wpAny_Call_NameR (ldG (S.keep SG2).gl B.pmG (callWith_def hd26 (wpAny_items_cons (wpAny_Call_NameR (ldG (S.keep SG2).gl B.cxG (callWith_def hd54 (wpAny_items_cons (ldN (env := lawEnv p.L f cd) n2' (v := .ref hdl) (by rw [if_pos rfl]) (wpAny_items_nil ⟨look SG2 ho54, ?_⟩)))))))))))
  refine ctx_call (by omega) Xk S SG2 B.scG hC hgP P2 fun s3 Lc r2 d2 r1 d1 fq c' tbs C3 Cx P3 fd2 => wpAny_items_nil ?_
  have SG3 := sub_chg SG2 C3 fun b h => h ▸ hgP
  have M3 : Mat s3.heap hdl (handF ns p.fams) := ⟨M2.l.at fun o e => C3.get (list_ne_tab M2.l P2) e, fun q hq => (M2.r q hq).at fun o e => C3.get (intL_ne_tab (M2.r q hq) P2) e⟩
  have hd2g := fresh_sub SG2 fd2
  refine ⟨look SG3 ho26, pm_call hh (by omega) Xk S SG3 Cx M3 hd2g hsum fun s4 td C4 hT4 ftd htd => ?_⟩
  have hd2L : d2 ≠ p.L := ne_live (ns_live n2') fd2
  have hd2P : d2 ≠ Pc := ne_live ⟨_, P2⟩ fd2
  have n3 : s3.heap.Ns p.L _ := ns_chg n2' C3 hLP
  have n4 : s4.heap.Ns p.L _ := ns_chg n3 C4 (Ne.symm hd2L)
  have P4 := C4.get (Ne.symm hd2P) P3
  refine stN' (env := lawEnv p.L f cd) n4 fun h5 n5 hs5 => ?_
  have htdL : td ≠ p.L := ne_live (ns_live n3) ftd
  have ftds : s.heap.get? td = none := by
    cases e : s.heap.get? td with
    | none => rfl
    | some o =>
      have h1 := C2.get htdL e
      by_cases hp : td = Pc
      · rw [hp] at ftd; rw [P3] at ftd; cases ftd
      · rw [C3.get hp h1] at ftd; cases ftd
  -- rows = []
  refine wpAny_execs_cons (st := nth lawBody 8) (wpAny_Assign_Name (wpAny_List (wpAny_items_nil ⟨by simp [sizeLine], stN' (env := lawEnv p.L f cd) (n5.push _) fun h6 n6 hs6 => ?_⟩)))
  dsimp only at hs5 hs6 n5 n6
  have fr5 : h5.get? h5.objs.size = none := get_size _
  have hrwL : h5.objs.size ≠ p.L := ne_live (ns_live n5) fr5
  generalize hS6 : ({ s4 with heap := h6, toks := s4.toks + 1 + 1 } : Shared) = s6
  have k6 : ∀ b o, b ≠ p.L → s4.heap.get? b = some o → s6.heap.get? b = some o := fun b o hb e => by rw [← hS6]; exact hs6.extBut b o hb (Heap.get?_push_of_some _ (hs5.extBut b o hb e))
  have ktot : ∀ b o, b ≠ p.L → b ≠ Pc → b ≠ d2 → s.heap.get? b = some o → s6.heap.get? b = some o := fun b o h1 h2 h3 e => k6 b o h1 (C4.get h3 (C3.get h2 (C2.get h1 e)))
  have fd2s : s.heap.get? d2 = none := by
    cases e : s.heap.get? d2 with
    | none => rfl
    | some o => rw [C2.get hd2L e] at fd2; cases fd2
  have C6 : Chg (fun b => b = p.L ∨ b = Pc) s s6 := by
    obtain ⟨h2', t2, e2, _⟩ := C2
    obtain ⟨h3', t3, e3, _⟩ := C3
    obtain ⟨h4', t4, e4, _⟩ := C4
    refine ⟨h6, s4.toks + 1 + 1, ?_, fun b o hb e => ?_⟩
    · rw [← hS6, e4, e3, e2]
    · have := ktot b o (fun h => hb (.inl h)) (fun h => hb (.inr h)) (ne_of_get e fd2s) e
      rwa [← hS6] at this
  obtain ⟨m6, hm6, n6'⟩ : ∃ m6 : Str → Option Value, m6 = (fun y : Str => if y = "rows" then some (Value.ref h5.objs.size) else if y = "table" then some (.ref td) else if y = "handed" then some (.ref hdl) else m y) ∧ s6.heap.Ns p.L m6 := ⟨_, rfl, by rw [← hS6]; exact n6⟩
  have X6 : LB p (famF ns (numsF ns).length) rs ws m6 s6 := X.mv n6' fun b o hb e => ktot b o (X.neL ok hb) (X.neTab hP hb) (ne_of_get e fd2s) e
  have hm6' : Nm p (turnF ns) m6 := by
    subst hm6
    exact ((nm.set "handed" _ (by decide)).set "table" _ (by decide)).set "rows" _ (by decide)
  have hT6 : TdAt prog w s6.heap td (tbl (handF ns p.fams)) _ := hT4.at fun o e => k6 _ o htdL e
  have hrwtd : h5.objs.size ≠ td := by
    obtain ⟨o, e⟩ := hT4.live
    exact ne_live ⟨o, hs5.extBut _ _ htdL e⟩ fr5
  refine hQ s6 td h5.objs.size m6 tbs _ C6 X6 hm6' (by subst hm6; rfl) (by subst hm6; rfl) hT6 htd ?_ (k6 _ _ (Ne.symm hLP) P4) ?_ hrwtd htdL hrwL ftds
  · rw [← hS6]; exact (push_plain h5 _).at fun o e => hs6.extBut _ _ hrwL e
  · cases e : s.heap.get? h5.objs.size with
    | none => rfl
    | some o =>
      have hne : h5.objs.size ≠ Pc := fun h => by
        have := hs5.extBut _ _ (Ne.symm hLP) P4
        rw [← h, fr5] at this; cases this
      have h1 := C4.get (ne_of_get e fd2s) (C3.get hne (C2.get hrwL e))
      rw [hs5.extBut _ _ hrwL h1] at fr5; cases fr5
end
end Mine

end

/- Law7 -/
section
open PySem PySem.W PyProof.Rows
set_option Elab.async false
set_option linter.unusedVariables false
set_option maxRecDepth 100000
namespace Mine

/-- the row of a way -/
def rowOf (par : Nat → Nat) (q : Int × Bool) : List Int := if q.2 then upI par q.1.toNat else (upI par q.1.toNat).reverse
def lawFor2 : Stmt := nth lawBody 9

section
variable {prog : Program} {w : World} {A : Around} {E : Value → Shared → Prop} {p : LP} {s : Shared} {rs : List (Addr × List Int)} {ws : List (Addr × (Int × Bool))} {m mg mb : Str → Option Value} {f : Addr} {cd : Value} {g : Heap}

theorem law_rows {ns : List Int} {td rw : Addr} {N : Nat} {Q : Flow → Shared → Prop} {I0 : Addr} (ok : ({ p with I := I0 } : LP).Ok) (hh : A.handled = none) (hroom : A.depth + 3 < recursionLimit) (B : BiL mg mb) (Xk : (KK w).In g) (S : Stat mg mb g) (SG : Sub g s.heap) (hgL : g.get? p.L = none) (hgr : g.get? rw = none)
    (hfa : s.heap.IsList p.fa (p.fams.map Value.ref).toArray) (hfl : p.fams.length = (numsF ns).length + 1)
    (X : LB p (famF ns (numsF ns).length) rs ws m s) (nm : Nm p (turnF ns) m) (hmt : m "table" = some (.ref td)) (hmr : m "rows" = some (.ref rw)) (hT : TdAt prog w s.heap td (tbl (handF ns p.fams)) N) (htd : mainGlobals < td) (hrw : s.heap.PlainList rw #[])
    (hrtd : rw ≠ td) (htdL : td ≠ p.L) (hrL : rw ≠ p.L) (hrs : ∀ b, LBset p rs ws b ∨ b = p.fa → b ≠ rw)
    (hwk : ∀ q ∈ ws, ∃ k : Nat, q.2.1 = k ∧ k ≤ (numsF ns).length) (hwl : ws.length ≤ 500)
    (hpar : ∀ j, 1 ≤ j → j ≤ (numsF ns).length → parF ns j < j) (htb0 : tbl (handF ns p.fams) 0 = none) (htb : ∀ j : Nat, 1 ≤ j → j ≤ (numsF ns).length → ∃ a, p.fams[parF ns j]? = some a ∧ tbl (handF ns p.fams) j = some (.ref a))
    (hQ : ∀ s' m' (rl : List (Addr × List Int)), Chg (fun b => b = p.L ∨ b = rw) s s' → s'.heap.Ns p.L m' → (∀ y : Str, y ≠ "k" → y ≠ "leads_up" → y ≠ "way" → m' y = m y) → s'.heap.PlainList rw (rl.map fun q : Addr × List Int => Value.ref q.1).toArray → (∀ q ∈ rl, IntL s'.heap q.1 q.2 ∧ s.heap.get? q.1 = none) → (rl.map (·.1)).Nodup →
      rl.map (·.2) = (ws.map (·.2)).map (rowOf (parF ns)) → Q .next s') :
    wpAny (model prog w) A (exec lawFor2 (lawEnv p.L f cd)) Q E s := by
  have hlen := numsF_len ns
  have hfresh := get_size s.heap
  have hLI : p.L ≠ s.heap.objs.size := Ne.symm (ne_live (ns_live X.ns) hfresh)
  have hrI : rw ≠ s.heap.objs.size := by obtain ⟨n, e⟩ := hrw; exact ne_of_get e hfresh
  have hwyL : p.wy ≠ p.L := ok.wyL
  have hwyr : p.wy ≠ rw := hrs _ (.inl (.inr (.inl rfl)))
  refine for_list hh (ldN (env := lawEnv p.L f cd) X.ns nm.wy ⟨p.wy, _, fun i s₁ => Chg (fun b => b = p.L ∨ b = rw) s s₁ ∧ ∃ (m' : Str → Option Value) (rl : List (Addr × List Int)), s₁.heap.Ns p.L m' ∧ (∀ y : Str, y ≠ "k" → y ≠ "leads_up" → y ≠ "way" → m' y = m y) ∧ s₁.heap.PlainList rw (rl.map fun q : Addr × List Int => Value.ref q.1).toArray ∧ (∀ q ∈ rl, IntL s₁.heap q.1 q.2 ∧ s.heap.get? q.1 = none ∧ q.1 ≠ s.heap.objs.size) ∧ (rl.map (·.1)).Nodup ∧
      rl.map (·.2) = ((ws.take i).map (·.2)).map (rowOf (parF ns)), rfl, X.wyl.isList, ?_, ?_, ?_, ?_⟩)
  · intro h' k
    exact ⟨(Chg.refl _ s).stepH fun b o _ e => k b o e, m, [], X.ns.at' fun o e => k _ o e, fun _ _ _ _ => rfl, hrw.at fun o e => k _ o e, by simp, by simp, by simp⟩
  · rintro i s₁ h' tk ⟨C, m', rl, hn', hm', hl, hr, hnd, he⟩ hk
    refine ⟨?_, m', rl, hn'.at' fun o e => hk _ o hLI e, hm', hl.at fun o e => hk _ o hrI e, fun q hq => ⟨(hr q hq).1.at fun o e => hk _ o (hr q hq).2.2 e, (hr q hq).2⟩, hnd, he⟩
    obtain ⟨h1, t1, rfl, k1⟩ := C
    exact ⟨h', tk, rfl, fun b o nb e => hk b o (ne_of_get e hfresh) (k1 b o nb e)⟩
  · rintro i v s₁ hP ⟨C, m', rl, hn', hm', hl, hr, hnd, he⟩ hl₁ ⟨oI, hoI⟩
    obtain ⟨q, hq, rfl⟩ : ∃ q, ws[i]? = some q ∧ v = .ref q.1 := by
      simp only [List.getElem?_toArray, List.getElem?_map, Option.map_eq_some_iff] at hP
      obtain ⟨q, hq, e⟩ := hP; exact ⟨q, hq, e.symm⟩
    have hqm := List.mem_of_getElem? hq
    have hilt : i < ws.length := (List.getElem?_eq_some_iff.mp hq).1
    obtain ⟨k, hk, hkn⟩ := hwk q hqm
    obtain ⟨⟨oq, eq, tq, hoq, hcq, hdq⟩, hqW⟩ := X.wyr q hqm
    have setq : LBset p rs ws q.1 := .inr (.inr (.inr (.inr (List.mem_map_of_mem hqm))))
    have hoq1 : s₁.heap.get? q.1 = some oq := C.get (fun h => h.elim (X.neL ok setq) (hrs _ (.inl setq))) hoq
    have SG1 : Sub g s₁.heap := sub_chg SG C fun b h => h.elim (fun h => h ▸ hgL) fun h => h ▸ hgr
    refine wpAny_assign_Tuple hh (s := s₁) (items := #[.int q.2.1 tq, .bool q.2.2]) ⟨oq, hoq1, hcq, eq, hdq⟩ rfl rfl fun h₁ he₁ => ?_
    have kk1 : Sub s₁.heap h₁ := fun b o e => he₁ b o (ne_of_get e (get_size _)) e
    refine assignInOrder_cons (wpAny_assign_Name (stN' (env := lawEnv p.L f cd) (hn'.at' fun o e => kk1 _ o e) fun h₂ n₂ hs₂ => ?_))
    refine assignInOrder_cons (wpAny_assign_Name (stN' (env := lawEnv p.L f cd) n₂ fun h₃ n₃ hs₃ => assignInOrder_nil ?_))
    dsimp only at hs₂ hs₃ n₂ n₃
    have k3 : ∀ b o, b ≠ p.L → s₁.heap.get? b = some o → h₃.get? b = some o := fun b o hb e => hs₃.extBut b o hb (hs₂.extBut b o hb (kk1 b o e))
    have SG3 : Sub g h₃ := fun b o e => k3 b o (ne_of_get e hgL) (SG1 b o e)
    have kb3 : ∀ b o, b ≠ p.L → b ≠ rw → s.heap.get? b = some o → h₃.get? b = some o := fun b o h1 h2 e => k3 b o h1 (C.get (fun h => h.elim h1 h2) e)
    -- way = _law_way_up(table, families, k)
    obtain ⟨o59, _, _, ho59, hd59⟩ := fn59 w
    have hfaL : p.fa ≠ p.L := fun h => ok.faW (.inl h)
    refine wpAny_execs_cons (st := nth (bodyOf lawFor2) 0) (wpAny_Assign_Name (wpAny_Call_NameR (ldG (S.keep SG3).gl B.wuG (callWith_def hd59 (wpAny_items_cons (ldN (env := lawEnv p.L f cd) n₃ (v := .ref td) (by rw [if_neg (by decide), if_neg (by decide), hm' _ (by decide) (by decide) (by decide), hmt]) (wpAny_items_cons (ldN (env := lawEnv p.L f cd) n₃ (v := .ref p.fa) (by rw [if_neg (by decide), if_neg (by decide), hm' _ (by decide) (by decide) (by decide), nm.fa]) (wpAny_items_cons (ldN (env := lawEnv p.L f cd) n₃ (v := .int q.2.1 tq) (by rw [if_neg (by decide), if_pos rfl]) (wpAny_items_nil ⟨SG3 _ _ (Xk _ _ ho59), ?_⟩)))))))))))
    rw [hk]
    refine wu_call (k := k) (par := parF ns) (tb := tbl (handF ns p.fams)) (N := N) (fams := p.fams) (s := { s₁ with heap := h₃, toks := _ }) hh (by omega) Xk S SG3 B.toBi (hT.at fun o e => kb3 _ o htdL (Ne.symm hrtd) e) htd (hfa.at fun o e => kb3 _ o hfaL (hrs _ (.inr rfl)) e) ok.nd (fun a ha => ?_) (by omega) (by omega) (fun j h1 h2 => hpar j h1 (by omega)) htb0 (fun j h1 h2 => htb j h1 (by omega)) fun s4 r K4 hr4 fr4 => ?_
    · obtain ⟨j, hj⟩ := List.mem_iff_getElem?.mp ha
      have sa : LBset p rs ws a := .inr (.inr (.inl ha))
      exact ⟨_, (X.fam j a hj).at fun o e => kb3 _ o (X.neL ok sa) (hrs _ (.inl sa)) e⟩
    refine stN' (env := lawEnv p.L f cd) (n₃.keeps (Sub.of_keeps K4)) fun h₅ n₅ hs₅ => ?_
    have _ := trivial
    have n3L := ns_live n₃
    have hrL4 : r ≠ p.L := ne_live n3L fr4
    have k5 : ∀ b o, b ≠ p.L → s₁.heap.get? b = some o → h₅.get? b = some o := fun b o hb e => hs₅.extBut b o hb (Keeps.get' K4 (k3 b o hb e))
    have hr5 : IntL h₅ r (upI (parF ns) k) := hr4.at fun o e => hs₅.extBut _ o hrL4 e
    obtain ⟨wv, hwv, hwi⟩ := id hr5
    have hwvl := hwi.length
    have hupl := upP_len (parF ns) k
    have fr1 : s₁.heap.get? r = none := by
      cases e : s₁.heap.get? r with
      | none => rfl
      | some o => rw [k3 _ _ hrL4 e] at fr4; cases fr4
    have E4 : ∃ t, s4 = { s₁ with heap := s4.heap, toks := t } := by obtain ⟨h9, t9, rfl, _⟩ := K4; exact ⟨t9, rfl⟩
    -- rows.append(way if leads_up else way[::-1])
    refine wpAny_execs_cons (st := nth (bodyOf lawFor2) 1) (wpAny_Expr (wpAny_Call_append (by rfl) (by rfl) (by rfl) (by rfl) (ldN (env := lawEnv p.L f cd) n₅ (v := .ref rw) (by rw [if_neg (by decide), if_neg (by decide), if_neg (by decide), hm' _ (by decide) (by decide) (by decide), hmr]) ⟨rw, _, rfl, plainL_of (hl.at fun o e => k5 _ o hrL e), ?_⟩)))
    have fin : ∀ r' s6, Keeps { s4 with heap := h₅, toks := s4.toks + 1 } s6 → IntL s6.heap r' (rowOf (parF ns) q.2) → s₁.heap.get? r' = none → wpAny (model prog w) A (call (.builtin "list.append") [.ref rw, .ref r']) (fun v s7 => v = .none ∧ ∃ h7, s7 = { s6 with heap := h7 } ∧ h7.PlainList rw ((rl ++ [(r', rowOf (parF ns) q.2)]).map fun q : Addr × List Int => Value.ref q.1).toArray ∧ Heap.SameBut rw s6.heap h7) (loopE (model prog w) A (lawEnv p.L f cd) E) s6 := by
      intro r' s6 K6 hr' fr'
      have hrll : rl.length ≤ 500 := by have := congrArg List.length he; simp only [List.length_map, List.length_take] at this; omega
      refine wpAny_list_append_plain (hsz := by simp only [List.size_toArray, List.length_map]; rw [sizeLine_eq]; omega) (hl.at fun o e => Keeps.get' K6 (k5 _ o hrL e)) fun h7 hl7 hs7 => ⟨rfl, h7, rfl, by simpa using hl7, hs7⟩
    have last : ∀ r' s6, Keeps { s4 with heap := h₅, toks := s4.toks + 1 } s6 → IntL s6.heap r' (rowOf (parF ns) q.2) → s₁.heap.get? r' = none → ∀ h7, h7.PlainList rw ((rl ++ [(r', rowOf (parF ns) q.2)]).map fun q : Addr × List Int => Value.ref q.1).toArray → Heap.SameBut rw s6.heap h7 →
        (Chg (fun b => b = p.L ∨ b = rw) s { s6 with heap := h7 } ∧ ∃ (m' : Str → Option Value) (rl : List (Addr × List Int)), h7.Ns p.L m' ∧ (∀ y : Str, y ≠ "k" → y ≠ "leads_up" → y ≠ "way" → m' y = m y) ∧ h7.PlainList rw (rl.map fun q : Addr × List Int => Value.ref q.1).toArray ∧ (∀ q ∈ rl, IntL h7 q.1 q.2 ∧ s.heap.get? q.1 = none ∧ q.1 ≠ s.heap.objs.size) ∧ (rl.map (·.1)).Nodup ∧
          rl.map (·.2) = ((ws.take (i + 1)).map (·.2)).map (rowOf (parF ns))) ∧ (∀ o, s₁.heap.get? s.heap.objs.size = some o → h7.get? s.heap.objs.size = some o) ∧ (∀ o, s₁.heap.get? p.wy = some o → h7.get? p.wy = some o) := by
      intro r' s6 K6 hr' fr' h7 hl7 hs7
      have k7 : ∀ b o, b ≠ p.L → b ≠ rw → s₁.heap.get? b = some o → h7.get? b = some o := fun b o h1 h2 e => hs7.extBut b o h2 (Keeps.get' K6 (k5 b o h1 e))
      have hrw1 : ∃ o, s₁.heap.get? rw = some o := let ⟨n, e⟩ := hl; ⟨_, e⟩
      have hr'rw : r' ≠ rw := ne_live hrw1 fr'
      have hr'I : r' ≠ s.heap.objs.size := ne_live ⟨_, hoI⟩ fr'
      have hr's : s.heap.get? r' = none := by
        by_cases h1 : r' = p.L
        · exact absurd h1 (ne_live (ns_live hn') fr')
        · cases e : s.heap.get? r' with
          | none => rfl
          | some o => rw [C.get (fun h => h.elim h1 hr'rw) e] at fr'; cases fr'
      refine ⟨⟨?_, _, rl ++ [(r', rowOf (parF ns) q.2)], (n₅.keeps (Sub.of_keeps K6)).sameBut hs7 (Ne.symm hrL), fun y h1 h2 h3 => by rw [if_neg h3, if_neg h2, if_neg h1, hm' y h1 h2 h3], hl7, fun x hx => ?_, ?_, ?_⟩, fun o e => k7 _ o (Ne.symm hLI) (Ne.symm hrI) e, fun o e => k7 _ o hwyL hwyr e⟩
      · obtain ⟨t4, e4⟩ := E4
        obtain ⟨h6, t6, e6, _⟩ := K6
        obtain ⟨h1, t1, e1, kc⟩ := C
        refine ⟨h7, t6, ?_, fun b o hb e => ?_⟩
        · rw [e6, e4, e1]
        · exact k7 b o (fun h => hb (.inl h)) (fun h => hb (.inr h)) (by rw [e1]; exact kc b o hb e)
      · rcases List.mem_append.mp hx with hx | hx
        · refine ⟨(hr x hx).1.at fun o e => k7 _ o (fun h => ?_) (fun h => ?_) e, (hr x hx).2⟩
          · exact ne_live (ns_live X.ns) (hr x hx).2.1 h
          · have h0 := (hr x hx).2.1
            obtain ⟨n, e0⟩ := hrw
            rw [h, e0] at h0; cases h0
        · rw [List.mem_singleton.mp hx]
          exact ⟨hr'.at fun o e => hs7.extBut _ o hr'rw e, hr's, hr'I⟩
      · rw [List.map_append, List.nodup_append]
        refine ⟨hnd, by simp, fun a ha b hb e => ?_⟩
        rw [List.map_cons, List.map_nil, List.mem_singleton] at hb
        obtain ⟨x, hx, rfl⟩ := List.mem_map.mp ha
        exact ne_live (hr x hx).1.live fr' (by rw [e, hb])
      · rw [List.map_append, he, List.take_add_one, hq]
        simp
    refine wpAny_IfExp (wpAny_isTrue_value (ldN (env := lawEnv p.L f cd) n₅ (v := .bool q.2.2) (by rw [if_neg (by decide), if_pos rfl]) (wpAny_truthy_bool ?_)))
    have hq1 : q.2.1.toNat = k := by rw [hk]; simp
    by_cases hup : q.2.2 = true
    · rw [hup]
      simp only [if_true]
      refine ldN (env := lawEnv p.L f cd) n₅ (v := .ref r) (by rw [if_pos rfl]) ?_
      have hr6 : IntL h₅ r (rowOf (parF ns) q.2) := by rw [rowOf, hup, if_pos rfl, hq1]; exact hr5
      refine wpAny_mono (fin r { s4 with heap := h₅, toks := s4.toks + 1 } ⟨h₅, _, rfl, fun _ _ e => e⟩ hr6 fr1) (fun _ s7 ⟨ev, h7, e7, hl7, hs7⟩ => ?_) fun _ _ e => e
      subst e7; subst ev
      exact wpAny_execs_nil (last r { s4 with heap := h₅, toks := s4.toks + 1 } ⟨h₅, _, rfl, fun _ _ e => e⟩ hr6 fr1 h7 hl7 hs7)
    · have hup' : q.2.2 = false := by simpa using hup
      rw [hup']
      simp only [Bool.false_eq_true, if_false]
      refine rev_slice (ldN (env := lawEnv p.L f cd) n₅ (v := .ref r) (by rw [if_pos rfl]) ⟨r, wv, rfl, hwv.isList, by rw [hwvl]; simp; omega, fun D s6 K6 fD hD => ?_⟩)
      have hr6 : IntL s6.heap D (rowOf (parF ns) q.2) := by rw [rowOf, hup', if_neg (by decide), hq1]; exact ⟨_, hD, hwi.reverse⟩
      have fD1 : s₁.heap.get? D = none := by
        cases e : s₁.heap.get? D with
        | none => rfl
        | some o =>
          by_cases h1 : D = p.L
          · exact absurd h1 (ne_live (ns_live n₅) fD)
          · have fD' : h₅.get? D = none := fD
            rw [k5 _ _ h1 e] at fD'; cases fD'
      refine wpAny_mono (fin D s6 K6 hr6 fD1) (fun _ s7 ⟨ev, h7, e7, hl7, hs7⟩ => ?_) fun _ _ e => e
      subst e7; subst ev
      exact wpAny_execs_nil (last D s6 K6 hr6 fD1 h7 hl7 hs7)
  · rintro s₁ ⟨C, m', rl, hn', hm', hl, hr, hnd, he⟩
    refine wpAny_execs_nil (hQ s₁ m' rl C hn' hm' hl (fun q hq => ⟨(hr q hq).1, (hr q hq).2.1⟩) hnd ?_)
    rw [he]
    rw [List.take_of_length_le (by simp)]
end
end Mine

end

/- Law8 -/
section
open PySem PySem.W PyProof.Rows
set_option Elab.async false
set_option linter.unusedVariables false
set_option maxRecDepth 100000
namespace Mine

theorem ints_paired {vs : List Value} {ns : List Int} (h : IntsAre vs ns) : Paired (fun n v => ∃ t, v = Value.int n t) ns vs := by
  induction h with
  | nil => exact .nil
  | cons n t _ ih => exact .cons ⟨t, rfl⟩ ih
theorem map_id_int (l : List Int) : l.map (fun n : Int => n) = l := List.map_id' l

section
variable {prog : Program} {w : World} {A : Around} {E : Value → Shared → Prop} {p : LP} {s : Shared} {rs : List (Addr × List Int)} {ws : List (Addr × (Int × Bool))} {m mg mb : Str → Option Value} {f : Addr} {cd : Value} {g : Heap} {Pp : Addr}

theorem law_parts {ns : List Int} {fc : Nat → List Int} {mxC kcC mxW kcW : Int → Int} {Q : Flow → Shared → Prop} {I0 : Addr} (ok : ({ p with I := I0 } : LP).Ok) (hh : A.handled = none) (hu : A.units + 70 < cLine) (hroom : A.depth + 3 < recursionLimit) (B : BiL mg mb) (Xk : (KK w).In g) (S : Stat mg mb g) (SG : Sub g s.heap) (hgL : g.get? p.L = none) (hgL1 : g.get? (p.L + 1) = none)
    (hC : CodeHd g 63 Pp) (hgP : g.get? Pp = none) (hP : s.heap.get? Pp = some (tabObj #[]))
    (X : LB p fc rs ws m s) (nm : Nm p (turnF ns) m) (hcell : s.heap.IsCell (p.L + 1) none)
    (hrl : rs.length ≤ 60) (hrs1 : 1 ≤ rs.length) (hrr : ∀ r ∈ rs, r.2.length ≤ 1000) (hws : ws.length ≤ 1000) (hin : ∀ q ∈ ws, 0 ≤ q.2.1 ∧ q.2.1 < (rs.length : Int))
    (KC : Keyed rs ((prsOf (ws.map (·.2)) true).filter (lowestOf rs (prsOf (ws.map (·.2)) true))) ((nodesOf rs (prsOf (ws.map (·.2)) true)).map fun n : Nat => (n : Int)) true mxC kcC)
    (KW : Keyed rs (prsOf (ws.map (·.2)) false) ((nodesOf rs (prsOf (ws.map (·.2)) false)).map fun n : Nat => (n : Int)) false mxW kcW)
    (hQ : ∀ s' D1 D2 Ds ns1 ns2 tbs m', Chg (fun b => b = p.L ∨ b = p.L + 1 ∨ b = Pp) s s' → s'.heap.Ns p.L m' → (∀ y : Str, y ≠ "climbed" → y ≠ "shared" → m' y = m y) → m' "climbed" = some (.ref D1) → m' "shared" = some (.ref Ds) → s'.heap.IsCell (p.L + 1) (some (.ref D2)) → IntL s'.heap D1 ns1 → IntL s'.heap D2 ns2 → IntL s'.heap Ds (ns1.filter fun x => ns2.any (· == x)) →
      ns1.Perm ((nodesOf rs (prsOf (ws.map (·.2)) true)).map fun n : Nat => (n : Int)) → ns1.Pairwise (fun a b => kcC a < kcC b) → ns2.Perm ((nodesOf rs (prsOf (ws.map (·.2)) false)).map fun n : Nat => (n : Int)) → ns2.Pairwise (fun a b => kcW a < kcW b) →
      s'.heap.get? Pp = some (tabObj tbs) → s.heap.get? D1 = none → s.heap.get? D2 = none → s.heap.get? Ds = none → wpAny (model prog w) A (execs (lawBody.drop 12) (lawEnv p.L f cd)) Q E s') :
    wpAny (model prog w) A (execs (lawBody.drop 10) (lawEnv p.L f cd)) Q E s := by
  have hLP := ns_ne_tab X.ns hP
  have hL1P := cell_ne_tab hcell hP
  have hL1 : p.L + 1 ≠ p.L := Nat.succ_ne_self _
  obtain ⟨o64, _, _, ho64, hd64⟩ := fn64 w
  refine wpAny_execs_cons (st := nth lawBody 10) (Assign_Tuple (wpAny_Call_NameR (ldG (S.keep SG).gl B.paG (callWith_def hd64 (wpAny_items_cons (ldN (env := lawEnv p.L f cd) X.ns nm.ab (wpAny_items_cons (ldN (env := lawEnv p.L f cd) X.ns nm.wy (wpAny_items_nil ⟨SG _ _ (Xk _ _ ho64), ?_⟩)))))))))
  refine pa_call hh hu (by omega) B.toBi Xk S SG hC hgP hP X.mat hrl hrs1 hrr X.wys hws hin KC KW fun s1 T D1 D2 ns1 ns2 tbs C1 hT h1 h2 pm1 pw1 pm2 pw2 P1 f1 f2 => ?_
  obtain ⟨oT, hoT, hcT, eT, hdT⟩ := hT
  refine wpAny_assign_Tuple hh (s := s1) (items := #[.ref D1, .ref D2]) ⟨oT, hoT, hcT, eT, hdT⟩ rfl rfl fun h2' he2 => ?_
  have kk : Sub s1.heap h2' := fun b o e => he2 b o (ne_of_get e (get_size _)) e
  have n1 := ns_chg X.ns C1 hLP
  have c1 := cell_chg hcell C1 hL1P
  refine assignInOrder_cons (wpAny_assign_Name (stN' (env := lawEnv p.L f cd) (n1.keeps kk) fun h3 n3 hs3 => ?_))
  refine assignInOrder_cons (wpAny_assign_Name (stCell (env := lawEnv p.L f cd) (c := p.L + 1) (v₀ := none) (s := { s1 with heap := h3, toks := _ }) ?_ fun h4 c4 hs4 => assignInOrder_nil ?_))
  · obtain ⟨o, e, d⟩ := c1
    exact ⟨o, hs3.extBut _ _ hL1 (kk _ _ e), d⟩
  dsimp only at hs3 n3 hs4
  have hD1L : D1 ≠ p.L := ne_live (ns_live X.ns) f1
  have hD2L : D2 ≠ p.L := ne_live (ns_live X.ns) f2
  have hD1L1 : D1 ≠ p.L + 1 := ne_live (cell_live hcell) f1
  have hD2L1 : D2 ≠ p.L + 1 := ne_live (cell_live hcell) f2
  generalize hS4 : ({ s1 with heap := h4, toks := s1.toks + 1 } : Shared) = s4
  have k4 : ∀ b o, b ≠ p.L → b ≠ p.L + 1 → s1.heap.get? b = some o → s4.heap.get? b = some o := fun b o h1 h2 e => by rw [← hS4]; exact hs4.extBut b o h2 (hs3.extBut b o h1 (kk b o e))
  have n4 : s4.heap.Ns p.L (fun y => if y = "climbed" then some (.ref D1) else m y) := by rw [← hS4]; exact n3.sameBut hs4 (Ne.symm hL1)
  have c4' : s4.heap.IsCell (p.L + 1) (some (.ref D2)) := by rw [← hS4]; exact c4
  have i1 : IntL s4.heap D1 ns1 := h1.at fun o e => k4 _ o hD1L hD1L1 e
  have i2 : IntL s4.heap D2 ns2 := h2.at fun o e => k4 _ o hD2L hD2L1 e
  have C4 : Chg (fun b => b = p.L ∨ b = p.L + 1 ∨ b = Pp) s s4 := by
    obtain ⟨h1', t1, rfl, k1⟩ := C1
    exact ⟨h4, _, hS4.symm, fun b o hb e => by have := k4 b o (fun h => hb (.inl h)) (fun h => hb (.inr (.inl h))) (k1 b o (fun h => hb (.inr (.inr h))) e); rwa [← hS4] at this⟩
  obtain ⟨v1, hv1, hi1⟩ := id i1
  obtain ⟨v2, hv2, hi2⟩ := id i2
  have hl1 := hi1.length
  have hp1 := pm1.length_eq
  have hnl : ns1.length ≤ 60 := by
    rw [hp1, List.length_map]
    refine Nat.le_trans (List.length_filter_le _ _) ?_
    simp; omega
  -- shared
  refine wpAny_execs_cons (st := nth lawBody 11) (lc_assign (src := ns1) (Pv := fun n v => ∃ t, v = .int n t) (cl := [("walked", p.L + 1)]) (fun x => ns2.any (· == x)) (fun n y _ => ∃ t, y = .int n t) (by rfl) (by rfl) (by decide) rfl (by decide) (by omega) rfl rfl ?_)
  refine ldN (env := lawEnv p.L f cd) n4 (v := .ref D1) (by rw [if_pos rfl]) (wpAny_pyIter_list hv1.isList ⟨_, _, rfl, lc_list hh hv1.isList (ints_paired hi1) _ rfl, Ne.symm (ne_live (ns_live n4) (get_size _)), n4.push _, ?_, ?_⟩)
  · rintro C x v s₃ m₃ hx ⟨tv, rfl⟩ hCn hn₃ hch E'
    refine wpAny_assign_Name (stN' (env := compEnvC _ _ C _) hn₃ fun h₄ hn₄ hs₄ => ⟨⟨_, hn₄⟩, (Chg.refl _ _).step fun b o hb e => hs₄.extBut b o hb e, ?_⟩)
    have hCn' : s4.heap.get? C = none := fresh_sub (fun b o e => Heap.get?_push_of_some _ e) hCn
    have K : ∀ b o, s4.heap.get? b = some o → h₄.get? b = some o := fun b o e => hs₄.extBut b o (ne_of_get e hCn') (hch.get (ne_of_get e (get_size _)) (Heap.get?_push_of_some _ e))
    refine wpAny_tests_one (wpAny_isTrue_Compare1 (ldN (env := compEnvC _ _ C _) hn₄ (by rw [if_pos rfl]) (ldCell (env := compEnvC _ _ C _) (c4'.keeps K) (in_list_ints (vs := v2) (ns := ns2) (hv2.isList.at fun o e => K _ o e) hi2 (wpAny_truthy_bool ⟨rfl, Keeps.refl' { s₃ with heap := h₄, toks := _ } _, fun _ => ?_⟩)))))
    exact ldN (env := compEnvC _ _ C _) hn₄ (by rw [if_pos rfl]) ⟨Keeps.refl' { s₃ with heap := h₄, toks := _ } _, .inl ⟨tv, rfl⟩⟩
  · intro Ds s5 ys hDs hl hP5 n5 C5
    have C5' : Chg (· = p.L) s4 s5 := by
      obtain ⟨h9, t9, rfl, k9⟩ := C5
      exact ⟨h9, t9, rfl, fun b o hb e => k9 b o (fun h => h.elim (ne_of_get e (get_size _)) hb) (Heap.get?_push_of_some _ e)⟩
    have hDs4 : s4.heap.get? Ds = none := fresh_sub (fun b o e => Heap.get?_push_of_some _ e) hDs
    have P4 : s4.heap.get? Pp = some (tabObj tbs) := k4 _ _ (Ne.symm hLP) (Ne.symm hL1P) P1
    have hDss : s.heap.get? Ds = none := by
      cases e : s.heap.get? Ds with
      | none => rfl
      | some o =>
        have a1 : Ds ≠ p.L := ne_live (ns_live n4) hDs4
        have a2 : Ds ≠ p.L + 1 := ne_live (cell_live c4') hDs4
        have a3 : Ds ≠ Pp := ne_live ⟨_, P4⟩ hDs4
        rw [C4.get (fun h => h.elim a1 fun h => h.elim a2 a3) e] at hDs4; cases hDs4
    have hys := ints_of (f := fun n : Int => n) hP5
    rw [map_id_int] at hys
    refine hQ s5 D1 D2 Ds ns1 ns2 tbs _ (C4.trans (C5'.mono fun b o _ h => .inl h)) n5 (fun y h1 h2 => by rw [if_neg h2, if_neg h1]) (by rw [if_neg (by decide), if_pos rfl]) (by rw [if_pos rfl]) (cell_chg c4' C5' hL1) (i1.chg C5' hD1L) (i2.chg C5' hD2L) ⟨ys, hl, hys⟩ pm1 pw1 pm2 pw2 (C5'.get (Ne.symm hLP) P4) f1 f2 hDss
end
end Mine

end

/- Law9 -/
section
open PySem PySem.W PyProof.Rows PySem.SeqAt
set_option Elab.async false
set_option linter.unusedVariables false
set_option maxRecDepth 100000
namespace Mine

def dll (ls : List (List Int)) : List PyData := ls.map fun l => .list (l.map PyData.int)
theorem readsAll_rows {h : Heap} : ∀ {rl : List (Addr × List Int)}, (∀ q ∈ rl, IntL h q.1 q.2) → ∃ as, ReadsAll h (rl.map fun q => Value.ref q.1) (dll (rl.map (·.2))) as
  | [], _ => ⟨_, .nil⟩
  | q :: r, hh => by
    obtain ⟨as, ih⟩ := readsAll_rows (rl := r) fun x hx => hh x (List.mem_cons_of_mem _ hx)
    obtain ⟨vs, hv, hi⟩ := hh q List.mem_cons_self
    exact ⟨_, .cons (reads_of_ints hv.isList hi) ih⟩
theorem reads_rows {h : Heap} {a : Addr} {rl : List (Addr × List Int)} (hl : h.IsList a (rl.map fun q => Value.ref q.1).toArray) (hr : ∀ q ∈ rl, IntL h q.1 q.2) : ∃ as, Reads h (.ref a) (.list (dll (rl.map (·.2)))) as := by
  obtain ⟨o, ho, hc, n, hd⟩ := hl
  obtain ⟨as, x⟩ := readsAll_rows hr
  exact ⟨_, Reads.list ho hc hd (by simpa using x)⟩
theorem canLay_dll : ∀ ls : List (List Int), PyData.canLayAll0 (dll ls) = true
  | [] => by simp [dll, PyData.canLayAll0]
  | l :: r => by
    have := canLay_dll r
    simp only [dll, List.map_cons, PyData.canLayAll0, PyData.canLay0, canLayAll0_ints l] at *
    simpa using this
theorem depth_dll : ∀ ls : List (List Int), PyData.depthAll (dll ls) ≤ 3
  | [] => by simp [dll, PyData.depthAll]
  | l :: r => by
    have h1 := depth_dll r
    have h2 := W.depthAll_ints l
    simp only [dll, List.map_cons, PyData.depthAll, PyData.depth] at *
    omega
theorem shaped_dll (ls : List (List Int)) : shaped (.list (dll ls)) = true := by
  have h1 := depth_dll ls
  have h2 : PyData.depth (.list (dll ls)) ≤ 64 := by simp only [PyData.depth]; omega
  show (PyData.canLay0 (.list (dll ls)) && decide (PyData.depth (.list (dll ls)) ≤ 64)) = true
  rw [Bool.and_eq_true]
  exact ⟨by simp only [PyData.canLay0]; exact canLay_dll ls, decide_eq_true h2⟩
theorem noMix_dll : ∀ ls ms : List (List Int), noMixAll (dll ls) (dll ms) = true
  | [], [] => by simp [dll, noMixAll]
  | [], _ :: _ => by simp [dll, noMixAll]
  | _ :: _, [] => by simp [dll, noMixAll]
  | l :: r, k :: q => by
    have := noMix_dll r q
    simp only [dll, List.map_cons, noMixAll, noMix, noMix_ints l k] at *
    simpa using this
theorem same_dll : ∀ ls ms : List (List Int), PySem.Spec.sameAll (dll ls) (dll ms) = decide (ls = ms)
  | [], [] => by simp [dll, PySem.Spec.sameAll]
  | [], _ :: _ => by simp [dll, PySem.Spec.sameAll]
  | _ :: _, [] => by simp [dll, PySem.Spec.sameAll]
  | l :: r, k :: q => by
    have := same_dll r q
    simp only [dll, List.map_cons, PySem.Spec.sameAll, PySem.Spec.same, same_ints l k] at *
    rw [this]
    by_cases h1 : l = k <;> by_cases h2 : r = q <;> simp [h1, h2]

section
variable {prog : Program} {w : World} {A : Around} {E : Value → Shared → Prop} {s : Shared}
theorem eq_rows {a b : Addr} {rl ql : List (Addr × List Int)} {Q : Value → Shared → Prop} (hl : s.heap.IsList a (rl.map fun q => Value.ref q.1).toArray) (hr : ∀ q ∈ rl, IntL s.heap q.1 q.2) (hl' : s.heap.IsList b (ql.map fun q => Value.ref q.1).toArray) (hr' : ∀ q ∈ ql, IntL s.heap q.1 q.2)
    (hu : A.units + 64 < cLine) (h : Q (.bool (decide (rl.map (·.2) = ql.map (·.2)))) s) : wpAny (model prog w) A (compareOp .Eq (.ref a) (.ref b)) Q E s := by
  obtain ⟨as, r1⟩ := reads_rows hl hr
  obtain ⟨bs, r2⟩ := reads_rows hl' hr'
  exact eq_dataH_same r1 r2 (shaped_dll _) (shaped_dll _) hu (by simp only [noMix]; exact noMix_dll _ _) (by simp only [PySem.Spec.same]; rw [same_dll]; exact h)
end

section
variable {prog : Program} {w : World} {A : Around} {E : Value → Shared → Prop} {L f : Addr} {cd : Value} {s : Shared} {m mg mb : Str → Option Value} {ws : List (Addr × (Int × Bool))} {wy : Addr} {Q : Flow → Shared → Prop}

/-- the law's last line -/
theorem law_ret {D1 D2 Ds tl rw : Addr} {ns1 ns2 told : List Int} {rl : List (Addr × List Int)} (hh : A.handled = none) (hu : A.units + 64 < cLine)
    (hn : s.heap.Ns L m) (hs : m "shared" = some (.ref Ds)) (ht : m "told" = some (.ref tl)) (hc : m "climbed" = some (.ref D1)) (hr : m "rows" = some (.ref rw)) (hw : m "ways" = some (.ref wy)) (hcell : s.heap.IsCell (L + 1) (some (.ref D2)))
    (hDs : IntL s.heap Ds []) (htl : IntL s.heap tl told) (h1 : IntL s.heap D1 ns1) (h2 : IntL s.heap D2 ns2) (hrw : s.heap.PlainList rw (rl.map fun q => Value.ref q.1).toArray) (hrl : ∀ q ∈ rl, IntL s.heap q.1 q.2) (hwy : Wys s.heap wy ws) (hwl : ws.length ≤ 500)
    (hl1 : ns1.length ≤ 100) (hl2 : ns2.length ≤ 100) (htold : told = ns1 ++ [0] ++ ns2) (hrows : rl.map (·.2) = ws.map fun _ => [])
    (hQ : ∀ s', Keeps s s' → Q (.ret (.bool true)) s') :
    wpAny (model prog w) A (execs (lawBody.drop 13) (lawEnv L f cd)) Q E s := by
  obtain ⟨vd, hvd, hid⟩ := hDs
  cases hid
  obtain ⟨vt, hvt, hit⟩ := htl
  obtain ⟨v1, hv1, hi1⟩ := h1
  obtain ⟨v2, hv2, hi2⟩ := h2
  have e1 := hi1.length
  have e2 := hi2.length
  refine wpAny_execs_cons (st := nth lawBody 13) (wpAny_Return_some (BoolOp_and (wpAny_Compare1 (ldN (env := lawEnv L f cd) hn hs (wpAny_List (wpAny_items_nil ⟨by simp [sizeLine], ?_⟩))))))
  refine eq_intsK (vs := []) (us := []) (hvd.at fun o e => Heap.get?_push_of_some _ e).isList .nil (push_plain s.heap _).isList .nil hu (wpAny_truthy_bool ?_)
  simp only [decide_true, if_true]
  generalize hH : s.heap.push { cls := .type "list", data := .seq ([] : List Value).toArray } = H
  have K1 : Keeps s { s with heap := H } := ⟨H, s.toks, rfl, fun b o e => hH ▸ Heap.get?_push_of_some _ e⟩
  have k1 := Sub.of_keeps K1
  refine BoolOp_and (wpAny_Compare1 (ldN (env := lawEnv L f cd) (hn.keeps k1) ht (wpAny_BinOp (wpAny_BinOp (ldN (env := lawEnv L f cd) (hn.keeps k1) hc (wpAny_List (wpAny_items_cons (wpAny_Constant_int (wpAny_items_nil ⟨by simp [sizeLine], ?_⟩)))))))))
  refine add_lists' (vs := v1) (us := [.int 0 s.toks]) (hv1.at fun o e => Heap.get?_push_of_some _ (k1 _ _ e)) (push_plain _ _) (by simp; omega) fun Da s2 K2 fDa hDa => ?_
  have k2 : Sub s.heap s2.heap := fun b o e => Keeps.get' K2 (Heap.get?_push_of_some _ (k1 b o e))
  refine ldCell (env := lawEnv L f cd) (hcell.keeps k2) (add_lists' (vs := v1 ++ [.int 0 s.toks]) (us := v2) hDa (hv2.at fun o e => k2 _ o e) (by simp; omega) fun Db s3 K3 fDb hDb => ?_)
  have k3 : Sub s.heap s3.heap := fun b o e => Keeps.get' K3 (k2 b o e)
  refine eq_intsK (vs := vt) (us := v1 ++ [.int 0 s.toks] ++ v2) (hvt.at fun o e => k3 _ o e).isList hit hDb.isList ((hi1.append (.cons 0 _ .nil)).append hi2) hu (wpAny_truthy_bool ?_)
  rw [show decide (told = ns1 ++ [0] ++ ns2) = true by simpa using htold]
  simp only [if_true]
  refine BoolOp_one (wpAny_Compare1 (ldN (env := lawEnv L f cd) (hn.keeps k3) hr ?_))
  refine lc_eval (src := ws) (Pv := fun q v => v = .ref q.1) (cl := []) (fun _ => true) (fun _ _ o => o = some { cls := .type "list", data := .seq #[] }) (by rfl) (by decide) rfl (by decide) (by omega) ?_
  have hwy3 := hwy.keep k3
  refine ldN (env := lawEnv L f cd) (hn.keeps k3) hw (wpAny_pyIter_list hwy3.l ⟨_, rfl, lc_list hh hwy3.l (paired_self _ _) _ rfl, ?_, ?_⟩)
  · rintro C q v s₃ m₃ hq rfl hC hn₃ hch E'
    refine wpAny_assign_Name (stN' (env := compEnvC _ _ C _) hn₃ fun h₄ hn₄ hs₄ => ⟨⟨_, hn₄⟩, (Chg.refl _ _).step fun b o hb e => hs₄.extBut b o hb e, ?_⟩)
    refine wpAny_pure ⟨rfl, Keeps.refl' { s₃ with heap := h₄, toks := _ } _, fun _ => ?_⟩
    refine wpAny_List (wpAny_items_nil ⟨by simp [sizeLine], Keeps.push' { s₃ with heap := h₄, toks := _ } _ _, .inr ⟨_, _, rfl, get_size _, Heap.get?_push_size _ rfl, rfl⟩⟩)
  · intro D s4 ys hD hl hP hch
    rw [List.filter_eq_self.mpr (by simp)] at hP
    obtain ⟨fs, rfl, hfl, hfo⟩ := refs_of hP
    have k4 : Sub s.heap s4.heap := fun b o e => hch.get (ne_of_get (k3 b o e) (get_size _)) (Heap.get?_push_of_some _ (k3 b o e))
    have hql : (fs.map fun a => (a, ([] : List Int))).map (fun q : Addr × List Int => Value.ref q.1) = fs.map Value.ref := by rw [List.map_map]; rfl
    refine eq_rows (rl := rl) (ql := fs.map fun a => (a, [])) (hrw.at fun o e => k4 _ o e).isList (fun q hq => (hrl q hq).at fun o e => k4 _ o e) (by rw [hql]; exact hl.isList) (fun q hq => ?_) hu ?_
    · obtain ⟨a, ha, rfl⟩ := List.mem_map.mp hq
      exact ⟨[], ⟨_, (hfo a ha).2⟩, .nil⟩
    · have e : rl.map (·.2) = (fs.map fun a => (a, ([] : List Int))).map (·.2) := by
        rw [hrows, List.map_map]
        apply List.ext_getElem
        · simp [hfl]
        · intro i h1 h2; simp
      rw [show decide (rl.map (·.2) = (fs.map fun a => (a, ([] : List Int))).map (·.2)) = true by simpa using e]
      refine hQ s4 ?_
      obtain ⟨h9, t9, rfl, _⟩ := hch
      obtain ⟨h8, t8, e8, _⟩ := K3
      obtain ⟨h7, t7, e7, _⟩ := K2
      exact ⟨h9, t9, by rw [e8, e7], k4⟩
end
end Mine

end

/- Hd -/
section
open PySem PySem.W PyProof.Rows
set_option Elab.async false
set_option linter.unusedVariables false
set_option maxRecDepth 100000
namespace Mine

/-- an exception that is being handled, with no context -/
def ExcAt (h : Heap) (e : Addr) : Prop := ∃ o vs, h.get? e = some o ∧ o.data = .fields vs ∧ vs[2]? = some .none
theorem ExcAt.at {h h' : Heap} {e : Addr} (x : ExcAt h e) (k : ∀ o, h.get? e = some o → h'.get? e = some o) : ExcAt h' e := let ⟨o, vs, a, b⟩ := x; ⟨o, vs, k o a, b⟩
theorem ExcAt.live {h : Heap} {e : Addr} (x : ExcAt h e) : ∃ o, h.get? e = some o := let ⟨o, _, a, _⟩ := x; ⟨o, a⟩

theorem entry_unchain : entryFor table "proto.unchain" = some Builtin.«proto.unchain» := entryFor_of_tree (by kernel_rfl)

section
variable {prog : Program} {w : World} {A : Around} {E : Value → Shared → Prop} {s : Shared}

theorem raiseNew_H {α : Type} {a eh : Addr} {oa : Obj} {va : Array Value} {Q : α → Shared → Prop} (hh : A.handled = some (.ref eh)) (hx : ExcAt s.heap eh) (hne : eh ≠ a) (ha : s.heap.get? a = some oa) (hda : oa.data = .fields va) (hsz : 2 < va.size)
    (h : E (.ref a) { s with heap := s.heap.update a (Obj.mapFields (·.setIfInBounds 2 (.ref eh))) }) : wpAny (model prog w) A (raiseNew (.ref a) : Sem α) Q E s := by
  obtain ⟨oe, ve, he, hde, h2⟩ := hx
  simp only [raiseNew]
  refine wpAny_bind (wpAny_handled ?_)
  rw [hh]
  dsimp only
  rw [if_pos (by simpa using hne)]
  refine wpAny_bind (wpAny_holding (wpAny_runValue (codeAny_builtin entry_unchain ?_)))
  unfold Builtin.«proto.unchain»
  refine wpAny_bind (wpAny_field he hde h2 ?_)
  refine wpAny_pure ?_
  show wpAny _ _ (updateField a 2 (.ref eh) >>= fun _ => throw (Value.ref a)) _ _ s
  refine wpAny_bind ?_
  unfold updateField
  refine wpAny_bind (wpAny_load ha ?_)
  rw [hda]
  dsimp only
  rw [if_pos hsz]
  exact wpAny_update ha (wpAny_throw h)

/-- what a spent iterator throws -/
def Stop (h : Heap) (e : Addr) : Prop := ∃ o, h.get? e = some o ∧ o.cls = .type "StopIteration"

/-- StopIteration, while another exception is handled: that one becomes its context -/
theorem stop_H {α : Type} {eh : Addr} {Q : α → Shared → Prop} (hh : A.handled = some (.ref eh)) (hx : ExcAt s.heap eh)
    (h : ∀ e h', Stop h' e → (∀ b o, s.heap.get? b = some o → h'.get? b = some o) → E (.ref e) { s with heap := h' }) : wpAny (model prog w) A (Builtin.SmallTypes.stopIteration : Sem α) Q E s := by
  unfold Builtin.SmallTypes.stopIteration newExc newTuple
  refine wpAny_bind (wpAny_bind (wpAny_newObj_type (wpAny_bind (wpAny_of_eq (t := firstArgMember _ _) (a := Value.none) rfl ?_))))
  refine wpAny_newObj_type ?_
  dsimp only
  generalize hG : s.heap.push _ = G
  have up : ∀ b o, s.heap.get? b = some o → G.get? b = some o := fun b o e => hG ▸ Heap.get?_push_of_some _ e
  have x1 := hx.at fun o e => up _ o e
  have new := get_size G
  refine raiseNew_H hh (x1.at fun o e => Heap.get?_push_of_some _ e) (Ne.symm (ne_live x1.live new)) (Heap.get?_push_size _ rfl) rfl (by simp; omega) (h _ _ ⟨_, Heap.get?_update_self _ (Heap.get?_push_size _ rfl) rfl, rfl⟩ fun b o e => ?_)
  have e1 := up b o e
  exact (Heap.get?_update_ne _ _ _ _ (ne_of_get e1 new)).trans (Heap.get?_push_of_some _ e1)

/-- the iterators of list and tuple, spent -/
theorem rising_H {b : Builtin} (hb : b = Builtin.«list_iterator.__next__» ∨ b = Builtin.«tuple_iterator.__next__») {it src eh : Addr} {i n : Nat} {o os : Obj} {items : Array Value} {Q : Fin → Shared → Prop}
    (hh : A.handled = some (.ref eh)) (hx : ExcAt s.heap eh) (hI : eh ≠ it) (ho : s.heap.get? it = some o) (hd : o.data = .fields #[.ref src, .int i 0]) (hs : s.heap.get? src = some os) (hds : os.data = .seq items n) (hn : items[i]? = none)
    (h : ∀ e h', Stop h' e → Heap.ExtBut it s.heap h' → E (.ref e) { s with heap := h' }) : wpAny (model prog w) A (b ⟨[.ref it], []⟩) Q E s := by
  have ne : ¬ ((Value.ref src == Value.none) = true) := Bool.false_ne_true
  have spent : wpAny (model prog w) A (do setField (.ref it) 0 .none; Builtin.SmallTypes.stopIteration) Q E s := by
    refine wpAny_bind (wpAny_setField ho hd (Nat.zero_lt_succ _) (stop_H hh (hx.at fun o e => ?_) fun e h' st k => h e h' st fun b o hb e => k b o ?_))
    · exact (Heap.get?_update_ne _ _ _ _ hI).trans e
    · exact (Heap.get?_update_ne _ _ _ _ hb).trans e
  rcases hb with rfl | rfl
  all_goals
    refine wpAny_bind (m := field (.ref it) 0) (wpAny_field (x := .ref src) ho hd rfl ?_)
    dsimp only
    rw [if_neg ne]
    refine wpAny_bind (m := field (.ref it) 1) (wpAny_field (x := .int i 0) ho hd rfl (wpAny_bind (m := seqItems? (.ref src)) (wpAny_seqItems hs hds ?_)))
    simp only [Int.toNat_natCast, hn]
    exact wpAny_bind (wpAny_rule spent)

/-- next() of an iterator whose slot is spent -/
theorem spent_H {T id : String} {b : Builtin} {it : Addr} {Q : Option Value → Shared → Prop} (S : Slot T (Str.ofString "__next__") id) (hT : s.TypeIs (.ref it) T) (hb : entryFor table id = some b) (ha : argsOk id ⟨[.ref it], []⟩)
    (run : ∀ (Q : Fin → Shared → Prop) (E : Value → Shared → Prop), (∀ e h', Stop h' e → Heap.ExtBut it s.heap h' → E (.ref e) { s with heap := h' }) → wpAny (model prog w) A.in1 (b ⟨[.ref it], []⟩) Q E s)
    (hQ : ∀ h', Heap.ExtBut it s.heap h' → Q none { s with heap := h' }) : wpAny (model prog w) A (pyNext (.ref it)) Q E s := by
  unfold pyNext
  refine wpAny_bind (wpAny_attempt (wpAny_callSpecial?_slot hT S (wpAny_call_entry S hT hb (run _ _ fun e h' st k => ?_) ha)))
  exact wpAny_bind (wpAny_isInstance (T := "StopIteration") st isSubtype_stop (wpAny_pure (hQ h' k)))

theorem list_end_H {it l eh : Addr} {i : Nat} {items} {Q : Option Value → Shared → Prop} (hh : A.handled = some (.ref eh)) (hx : ExcAt s.heap eh) (hI : eh ≠ it)
    (hit : s.heap.IsListIter it l i) (hl : s.heap.IsList l items) (hn : items[i]? = none)
    (hQ : ∀ h', Heap.ExtBut it s.heap h' → Q none { s with heap := h' }) : wpAny (model prog w) A (pyNext (.ref it)) Q E s :=
  let ⟨_, e1, _, d1⟩ := id hit
  let ⟨_, e2, _, _, d2⟩ := hl
  spent_H slot_listiter_next hit.typeIs entry_listiter_next (args_listiter_next _) (fun _ _ h => rising_H (A := A.in1) (.inl rfl) hh hx hI e1 d1 e2 d2 hn h) hQ

theorem tuple_end_H {it t eh : Addr} {i : Nat} {items} {Q : Option Value → Shared → Prop} (hh : A.handled = some (.ref eh)) (hx : ExcAt s.heap eh) (hI : eh ≠ it)
    (hit : s.heap.IsTupleIter it t i) (ht : s.heap.IsTuple t items) (hn : items[i]? = none)
    (hQ : ∀ h', Heap.ExtBut it s.heap h' → Q none { s with heap := h' }) : wpAny (model prog w) A (pyNext (.ref it)) Q E s :=
  let ⟨_, e1, _, d1⟩ := id hit
  let ⟨_, e2, _, _, d2⟩ := ht
  spent_H F.slot_tuple_iterator_next hit.typeIs F.entry_tuple_iterator_next (F.args_tuple_iterator_next_1 _) (fun _ _ h => rising_H (A := A.in1) (.inr rfl) hh hx hI e1 d1 e2 d2 hn h) hQ

/-- a list in the handled state, walked: beside its iterator and itself the handled exception is looked at -/
theorem walks_list_H {eh : Addr} (hh : A.handled = some (.ref eh)) (I ax : Addr) (hne : ax ≠ I) (hI : eh ≠ I) (items : Array Value) :
    Walks prog w A I [I, ax, eh] [I] items.size (fun i v => items[i]? = some v) (fun i h => h.IsListIter I ax i ∧ h.IsList ax items ∧ ExcAt h eh) := by
  have off : ∀ {b : Addr}, b ∉ [I] → b ≠ I := fun n q => n (q ▸ List.mem_singleton.mpr rfl)
  constructor
  · intro b hb; rw [List.mem_singleton.mp hb]; exact List.mem_cons_self
  · rintro i h h' ⟨a, b, c⟩ k
    exact ⟨a.at (k I (.head _)), b.at (k ax (.tail _ (.head _))), c.at (k eh (.tail _ (.tail _ (.head _))))⟩
  · rintro i s Q E hi ⟨a, b, c⟩ hQ
    have e : items[i]? = some items[i] := Array.getElem?_eq_getElem hi
    exact wpAny_pyNext_list_item a b e fun h' a' sb => hQ _ h' s.toks e ⟨a', b.extBut sb.extBut hne, c.at fun o e => sb.extBut _ o hI e⟩ fun b o n e => sb.extBut b o (off n) e
  · rintro s Q E ⟨a, b, c⟩ hQ
    exact list_end_H hh c hI a b (Array.getElem?_eq_none (Nat.le_refl _)) fun h' k => hQ h' s.toks fun b o n e => k b o (off n) e
  · rintro i s Q E ⟨a, _⟩ hQ
    exact wpAny_pyIter_listiter a hQ

/-- the parts of a tuple, taken out in the handled state -/
theorem unpack_H {eh t : Addr} {items : Array Value} {Q : List Value → Shared → Prop} (hh : A.handled = some (.ref eh)) (hx : ExcAt s.heap eh) (ht : s.heap.IsTuple t items)
    (hQ : ∀ h', Heap.ExtBut s.heap.objs.size s.heap h' → Q items.toList { s with heap := h' }) : wpAny (model prog w) A (unpackItems (.ref t) items.size none) Q E s := by
  obtain ⟨ot, et, _⟩ := id ht
  have new := get_size s.heap
  have goes : wpAny (model prog w) A (notIterableAtAll (.ref t)) (fun b s' => b = false ∧ s' = s) E s := wpAny_bind (wpAny_specialOf ht.typeIs F.slot_tuple_iter.lookup (wpAny_pure ⟨rfl, rfl⟩))
  have whole : (items.toList.drop 0).take items.size = items.toList := List.take_of_length_le (Nat.le_of_eq (by simp))
  unfold unpackItems
  refine wpAny_bind (wpAny_mono goes ?_ fun _ _ e => e)
  intro b s' hb
  rw [hb.1, hb.2]
  clear hb goes
  refine wpAny_bind (wpAny_holding (wpAny_pyIter_tuple ht (wpAny_bind (wpAny_holding (wpAny_draw_tuple (ne_of_get et new) items.size 0 _ _ ⟨_, Heap.get?_push_size _ rfl, rfl, rfl⟩ (ht.push _) (Nat.le_of_eq (Nat.zero_add _)) fun h₁ i₁ sb => ?_)))))
  have k₁ : Heap.ExtBut s.heap.objs.size s.heap h₁ := fun b o n e => sb.extBut b o n (Heap.get?_push_of_some _ e)
  have ne := Ne.symm (ne_live hx.live new)
  rw [whole, if_neg (by simp)]
  refine wpAny_bind (wpAny_holding (tuple_end_H hh (s := { s with heap := h₁ }) (hx.at fun o e => k₁ _ o ne e) ne i₁ (ht.extBut k₁ (ne_of_get et new)) (Array.getElem?_eq_none (Nat.le_of_eq (Nat.zero_add _).symm)) fun h₂ k₂ => ?_))
  exact wpAny_pure (hQ h₂ fun b o n e => k₂ b o n (k₁ b o n e))

theorem assign_Tuple_H {eh : Addr} {env : Env} {elts : List Expr} {x1} {pos : Pos} {t : Addr} {items : Array Value} {Q : Unit → Shared → Prop} (hh : A.handled = some (.ref eh)) (hx : ExcAt s.heap eh) (ht : s.heap.IsTuple t items)
    (hn : (assignEach elts env).length = items.size) (hstar : (assignEach elts env).findIdx? (·.1) = none)
    (h : ∀ h', Heap.ExtBut s.heap.objs.size s.heap h' → wpAny (model prog w) A (assignInOrder ((assignEach elts env).map (·.2)) items.toList) Q E { s with heap := h' }) :
    wpAny (model prog w) A (assign (.Tuple elts x1 pos) env (.ref t)) Q E s := by
  have take := unpack_H (E := E) (prog := prog) (w := w) (Q := fun vs s' => wpAny (model prog w) A (assignInOrder ((assignEach elts env).map (·.2)) vs) Q E s') hh hx ht h
  rw [← hn, ← hstar] at take
  exact wpAny_bind (wpAny_standAt (wpAny_bind (wpAny_holding take)))
end
end Mine

end

/- Hd2 -/
section
open PySem PySem.W PyProof.Rows
open PySem.Sem (wp)
set_option Elab.async false
set_option linter.unusedVariables false
set_option maxRecDepth 100000
namespace Mine

/-- t leaves the context of the exception e as it is: none -/
structure Pres (e : Addr) {α : Type} (t : Sem α) : Prop where
  out : ∀ (M : Model) (Γ : Ctx) (P : α → Pos → Shared → Prop) (Ee : Value → Pos → Shared → Prop) (p : Pos) (s : Shared), ExcAt s.heap e → wp M Γ t P Ee p s → wp M Γ t (fun a p' s' => P a p' s' ∧ ExcAt s'.heap e) Ee p s

def PrF (f : Obj → Obj) : Prop := ∀ o vs, o.data = .fields vs → vs[2]? = some Value.none → ∃ vs', (f o).data = .fields vs' ∧ vs'[2]? = some Value.none
theorem PrF.upd {f : Obj → Obj} (hf : PrF f) {h : Heap} {a e : Addr} (x : ExcAt h e) : ExcAt (h.update a f) e := by
  obtain ⟨o, vs, ho, hd, h2⟩ := x
  by_cases q : a = e
  · subst q
    obtain ⟨vs', h3, h4⟩ := hf o vs hd h2
    exact ⟨_, vs', Heap.get?_update_self _ ho (Obj.isFreed_of_fields h3), h3, h4⟩
  · exact ⟨o, vs, (Heap.get?_update_ne _ _ _ _ (Ne.symm q)).trans ho, hd, h2⟩
theorem PrF.fields {i : Nat} (hi : i ≠ 2) (x : Value) : PrF (Obj.mapFields (·.setIfInBounds i x)) := fun o vs hd h2 =>
  ⟨_, Obj.data_mapFields hd _, by rw [Array.getElem?_setIfInBounds_ne hi]; exact h2⟩

namespace Pres
variable {e : Addr} {α β : Type}
theorem pure (a : α) : Pres e (Pure.pure a : Sem α) := ⟨fun M Γ P Ee p s x h => by rw [Sem.wp_pure'] at h ⊢; exact ⟨h, x⟩⟩
theorem unsupported (w : String) : Pres e (PySem.unsupported w : Sem α) := ⟨fun _ _ _ _ _ _ _ h => h⟩
theorem bind {m : Sem α} {f : α → Sem β} (hm : Pres e m) (hf : ∀ a, Pres e (f a)) : Pres e (m >>= f) := ⟨fun M Γ P Ee p s x h => by
  rw [Sem.wp_bind'] at h ⊢
  exact Sem.wp_mono M Γ m (fun a p' s' h' => (hf a).out M Γ P Ee p' s' h'.2 h'.1) (fun _ _ _ x => x) p s (hm.out M Γ _ Ee p s x h)⟩
theorem ite {c : Prop} [Decidable c] {t u : Sem α} (ht : Pres e t) (hu : Pres e u) : Pres e (if c then t else u) := by split <;> assumption
theorem load (a : Addr) : Pres e (PySem.load a) := ⟨fun M Γ P Ee p s x h => by
  unfold PySem.load at h ⊢
  simp only [Sem.wp_load, Sem.wp_pure] at h ⊢
  obtain ⟨o, ho, h⟩ := h
  exact ⟨o, ho, h, x⟩⟩
theorem update (a : Addr) {f : Obj → Obj} (hf : PrF f) : Pres e (PySem.update a f) := ⟨fun M Γ P Ee p s x h => by
  rw [Sem.wp_cmd_update] at h ⊢
  exact ⟨h.1, h.2, hf.upd x⟩⟩
theorem stack : Pres e PySem.stack := ⟨fun M Γ P Ee p s x h => by
  unfold PySem.stack at h ⊢
  rw [Sem.wp_stack] at h ⊢
  rw [Sem.wp_pure] at h ⊢
  exact ⟨h, x⟩⟩
theorem alloc (o : Obj) : Pres e (PySem.alloc o) := ⟨fun M Γ P Ee p s x h => by
  rw [Sem.wp_cmd_alloc] at h ⊢
  exact ⟨h, x.at fun _ e => Heap.get?_push_of_some _ e⟩⟩
theorem field (v : Value) (i : Nat) : Pres e (PySem.field v i) := ⟨fun M Γ P Ee p s x h => by
  obtain ⟨a, o, vs, y, h1, h2, h3, h4, h5⟩ := (wp_field_iff Γ v i P Ee p s).mp h
  exact (wp_field_iff Γ v i _ Ee p s).mpr ⟨a, o, vs, y, h1, h2, h3, h4, h5, x⟩⟩
theorem setField (v : Value) {i : Nat} (hi : i ≠ 2) (y : Value) : Pres e (PySem.setField v i y) := ⟨fun M Γ P Ee p s x h => by
  obtain ⟨a, o, vs, h1, h2, h3, h4, h5⟩ := (wp_setField_iff Γ v i y P Ee p s).mp h
  exact (wp_setField_iff Γ v i y _ Ee p s).mpr ⟨a, o, vs, h1, h2, h3, h4, h5, (PrF.fields hi y).upd x⟩⟩
end Pres

section
variable {e : Addr}
theorem pres_behindIsImport (env : Env) (outer : List Env) : Pres e (behindIsImport env outer) := by
  unfold behindIsImport
  refine Pres.ite (Pres.pure _) (Pres.ite (Pres.pure _) (Pres.bind (Pres.field _ _) fun _ => Pres.pure _))
theorem pres_under : Pres e underTheClaimsCaller := by
  unfold underTheClaimsCaller
  exact Pres.bind Pres.stack fun _ => Pres.pure _
theorem pres_keptBack (env : Env) (i : Bool) (l : List Env) : Pres e (keptBack env i l) := by
  cases l with
  | nil => unfold keptBack; exact Pres.ite (Pres.pure _) (Pres.bind pres_under fun _ => Pres.pure _)
  | cons _ _ => unfold keptBack; exact Pres.pure _
theorem pres_readyFrames : ∀ l : List Env, Pres e (readyFrames l)
  | [] => Pres.pure _
  | env :: outer => by
    unfold readyFrames
    split
    · refine Pres.bind (Pres.load _) fun o => Pres.ite (Pres.pure _) (Pres.bind (pres_behindIsImport _ _) fun _ => Pres.bind (pres_keptBack _ _ _) fun _ => Pres.bind (Pres.update _ fun o vs hd h2 => ⟨vs, hd, h2⟩) fun _ => pres_readyFrames outer)
    · exact Pres.unsupported _
theorem pres_frameOf (env : Env) : Pres e (PySem.frameOf env) := by
  unfold PySem.frameOf
  refine Pres.bind (by unfold frameEnvs; exact Pres.bind Pres.stack fun _ => Pres.pure _) fun l => Pres.bind ?_ fun r => ?_
  · cases hl : l.dropWhile (·.frame != env.frame) with
    | nil => exact Pres.pure _
    | cons env outer => unfold frameObject; exact Pres.bind (pres_readyFrames _) fun _ => Pres.pure _
  · split
    · exact Pres.pure _
    · exact Pres.unsupported _
theorem pres_entryPlaceOf (f : Addr) (b : Bool) : Pres e (entryPlaceOf f b) := by
  unfold entryPlaceOf
  refine Pres.bind Pres.stack fun acts => ?_
  split <;> exact Pres.pure _
theorem pres_newEntry (a b c d f : Value) (pl : List Value) : Pres e (EntryCells.newEntry a b c d f pl) := by
  unfold EntryCells.newEntry newFields newObj newObjAsIs
  dsimp only
  exact Pres.ite (Pres.bind (Pres.unsupported _) fun _ => Pres.bind (Pres.alloc _) fun _ => Pres.pure _) (Pres.bind (Pres.alloc _) fun _ => Pres.pure _)
theorem pres_noteFrame (v : Value) (env : Env) : Pres e (noteFrame v env) := by
  unfold noteFrame
  split
  · refine Pres.bind (Pres.field _ _) fun head => ?_
    dsimp only
    refine Pres.ite (Pres.bind (Pres.field _ _) fun _ => Pres.ite (Pres.pure _) (Pres.bind (Pres.setField _ (by decide) _) fun _ => ?_)) ?_
    · exact Pres.bind (pres_frameOf _) fun _ => Pres.bind (pres_entryPlaceOf _ _) fun _ => Pres.bind (pres_newEntry _ _ _ _ _ _) fun _ => Pres.setField _ (by decide) _
    · exact Pres.bind (pres_frameOf _) fun _ => Pres.bind (pres_entryPlaceOf _ _) fun _ => Pres.bind (pres_newEntry _ _ _ _ _ _) fun _ => Pres.setField _ (by decide) _
  · exact Pres.unsupported _
theorem pres_setFlight (v : Value) (f : Option Addr) : Pres e (setFlight v f) := by
  unfold setFlight
  exact Pres.bind (Pres.field _ _) fun _ => Pres.ite (Pres.setField _ (by decide) _) (Pres.pure _)
theorem pres_leaving (v : Value) (env : Env) : Pres e (leaving env v) := by
  unfold leaving
  exact Pres.bind (pres_noteFrame _ _) fun _ => pres_setFlight _ _

theorem Pres.any {α : Type} {M : Model} {A : Around} {E : Value → Shared → Prop} {s : Shared} {t : Sem α} {Q : α → Shared → Prop} (h : Pres e t) (x : ExcAt s.heap e) (hw : wpAny M A t Q E s) : wpAny M A t (fun a s' => Q a s' ∧ ExcAt s'.heap e) E s :=
  fun Γ p hΓ => h.out M Γ (fun a _ s' => Q a s') (fun v _ s' => E v s') p s x (hw Γ p hΓ)
end
end Mine

end

/- C3x -/
section
open PySem PySem.W PyProof.Rows
set_option Elab.async false
set_option linter.unusedVariables false
set_option maxRecDepth 100000
namespace Mine
section
variable {prog : Program} {w : World} {A : Around} {E : Value → Shared → Prop} {s : Shared} {mg mb : Str → Option Value} {g : Heap}

/-- _c3_merge(rows) -/
theorem c3_callX {q : Addr} {rs0 : List (Addr × List Int)} {n : Nat} {res : Option (List Int)} {rowsF : List (List Int)} {envL : Env} {L : Addr} {m : Str → Option Value} {Q : Value → Shared → Prop}
    (hh : A.handled = none) (hroom : A.depth + 2 < recursionLimit) (X : (KK w).In g) (S : Stat mg mb g) (SG : Sub g s.heap) (hgE : mg "RuntimeError" = none) (hbE : mb "RuntimeError" = some (.type "RuntimeError"))
    (hfr : A.frames = some [envL]) (hfL : envL.frame = some L) (hkL : envL.scope.kind ≠ .module) (hn : s.heap.Ns L m)
    (hl : s.heap.IsList q (rs0.map fun p => Value.ref p.1).toArray) (hqR : q ∉ rs0.map (·.1)) (hrows : ∀ p ∈ rs0, IntL s.heap p.1 p.2) (hnd : (rs0.map (·.1)).Nodup) (hfit : total (rs0.map (·.2)) ≤ 500) (hlen0 : rs0.length ≤ 500)
    (hLR : L ∉ rs0.map (·.1)) (hgR : mainGlobals ∉ rs0.map (·.1)) (hbR : builtinsNs ∉ rs0.map (·.1))
    (hM : Mg n (rs0.map (·.2)) [] res rowsF)
    (kret : ∀ s' r acc, res = some acc → Chg (fun b => b ∈ rs0.map (·.1)) s s' → (∃ rs : List (Addr × List Int), rs.map (·.1) = rs0.map (·.1) ∧ rs.map (·.2) = rowsF ∧ ∀ p ∈ rs, IntL s'.heap p.1 p.2) → IntL s'.heap r acc → s.heap.get? r = none → Q (.ref r) s')
    (kerr : ∀ s' h' e t tt L', res = none → Chg (fun b => b ∈ rs0.map (·.1)) s s' → (∃ rs : List (Addr × List Int), rs.map (·.1) = rs0.map (·.1) ∧ rs.map (·.2) = rowsF ∧ ∀ p ∈ rs, IntL s'.heap p.1 p.2) → s.heap.get? L' = none →
      Heap.FlyingW (hideAll s'.heap [L, L']) [envL] e (.type "RuntimeError") (.ref t) h' → h'.TupAt t [.str "Inconsistent hierarchy" tt] → (hideAll s'.heap [L, L']).get? t = none → s'.heap.UpToSlots h' → ExcAt h' e → E (.ref e) { s' with heap := h' }) :
    wpAny (model prog w) A (call (.ref 19) [.ref q]) Q E s := by
  obtain ⟨o, pm, doc, ho, hdat⟩ := fn19 w
  have Xs : (KK w).In s.heap := fun b o e => SG b o (X b o e)
  have hLn : s.heap.get? s.heap.objs.size = none := get_size _
  refine wpAny_call (codeAny_call_def (fd := Calls.docDef "_c3_merge" (argsOf (topStmt 1)) c3Body c3Scope pm (.ref 18) doc) (body := c3Body) (binds := [("sequences", .ref q)]) (Nat.lt_of_le_of_lt (Nat.le_add_right _ 2) hroom) (Xs _ _ ho) hdat (S.lim.keeps SG) (codeRec_of Xs (cd18 w)) rfl (BindsTo.of_eq rfl) (by show ∀ x ∈ c3Scope.names, _; decide) (by intro x hx; rw [List.mem_singleton] at hx; subst hx; rfl) fun h₀ hns K0 => ?_)
  have hrowLive : ∀ b ∈ rs0.map (·.1), ∃ o, s.heap.get? b = some o := fun b hb => by
    obtain ⟨p, hp, rfl⟩ := List.mem_map.mp hb
    exact (hrows p hp).live
  have hLrow : s.heap.objs.size ∉ rs0.map (·.1) := fun h => ne_live (hrowLive _ h) hLn rfl
  have hgl := ns_live (S.gl.g.keeps SG)
  have hgb := ns_live (S.gl.b.keeps SG)
  have SG0 : Sub g h₀ := fun b o e => K0 b o (SG b o e)
  have back : ∀ s', Chg (fun b => b = s.heap.objs.size ∨ b ∈ rs0.map (·.1)) { s with heap := h₀, toks := s.toks + ([("sequences", Value.ref q)] : List (Str × Value)).length } s' → Chg (fun b => b ∈ rs0.map (·.1)) s s' := by
    rintro s' ⟨h', t', rfl, k⟩
    exact ⟨h', t', rfl, fun b o hb e => k b o (fun h => h.elim (ne_of_get e hLn) hb) (K0 b o e)⟩
  refine c3_body (s := { s with heap := h₀, toks := _ }) (L := s.heap.objs.size) (q := q) (mg := mg) (mb := mb) hh hns rfl (hl.at fun o e => K0 _ o e) (Ne.symm (ne_live (isList_live hl) hLn)) hqR (fun p hp => (hrows p hp).at fun o e => K0 _ o e) hnd hLrow hfit hlen0 (S.gl.g.keeps SG0) (S.gl.b.keeps SG0) hgE hbE
    ⟨Ne.symm (ne_live hgl hLn), hgR⟩ ⟨Ne.symm (ne_live hgb hLn), hbR⟩ hM (fun s' r acc hres C hr fr hrL => ?_) (fun s' h' e tt hres C hE => ?_)
  · exact kret s' r acc hres (back s' C.chg) C.rows hr (fresh_sub K0 fr)
  · refine PassesOwn.leaving _ _ ?_
    have hnE : s'.heap.Ns L m := ns_chg (s := { s with heap := h₀, toks := _ }) (hn.keeps K0) C.chg fun h => h.elim (Ne.symm (ne_live (ns_live hn) hLn)) hLR
    obtain ⟨m', hnC⟩ := C.names
    have hx : ExcAt h' e := by
      obtain ⟨t, h1, _⟩ := hE.there
      exact ⟨_, _, h1, rfl, rfl⟩
    refine wpAny_mono (Pres.any (pres_leaving _ _) (s := { s' with heap := h' }) hx (wpAny_leaves_madeW (A := A.deeper _) (Q := fun _ s'' => ∃ h'' t, s'' = { s' with heap := h'' } ∧ Heap.FlyingW (hideAll s'.heap [L, s.heap.objs.size]) [envL] e (.type "RuntimeError") (.ref t) h'' ∧ h''.TupAt t [.str "Inconsistent hierarchy" tt] ∧ (hideAll s'.heap [L, s.heap.objs.size]).get? t = none ∧ s'.heap.UpToSlots h'')
      (base := hideAll s'.heap [L, s.heap.objs.size]) (h := s'.heap) (cls := .type "RuntimeError") (args := [.str "Inconsistent hierarchy" tt]) (outer := [envL]) (L := s.heap.objs.size) ?_ rfl (fun b o e => of_hideAll _ e) ?_ ⟨hE.keeps, hE.new, hE.there⟩ fun h'' t hF hT hbt hU => ⟨h'', t, rfl, hF, hT, hbt, (Heap.UpToSlots.of_keeps hE.keeps).trans hU⟩)) ?_ fun _ _ h => h
    · show A.frames.map _ = _
      rw [hfr]; rfl
    · exact Heap.FunFrames.cons (by show c3Scope.kind ≠ _; decide) rfl hnC (hideAll_none _ (by simp)) (Heap.FunFrames.cons hkL hfL hnE (hideAll_none _ (by simp)) trivial)
    · rintro _ s'' ⟨⟨h'', t, rfl, hF, hT, hbt, hU⟩, hx'⟩
      exact kerr s' h'' e t tt _ hres (back s' C.chg) C.rows hLn hF hT hbt hU hx'
end
end Mine

end

/- Law10 -/
section
open PySem PySem.W PyProof.Rows
set_option Elab.async false
set_option linter.unusedVariables false
set_option maxRecDepth 100000
namespace Mine

/-- what a refused row keeps -/
def leftOf (rs : List (Addr × List Int)) (ns2 : List Int) (q : Int × Bool) : List Int := (if q.2 then (row rs q.1).reverse else row rs q.1).filter fun x => (x == 0) || ns2.any (· == x)
def lawTry : Stmt := nth lawBody 12
def hSuite : List Stmt := match lawTry with | .Try _ [.ExceptHandler _ _ b _] _ _ _ => b | _ => []
def hFor : Stmt := nth hSuite 1

section
variable {prog : Program} {w : World} {A : Around} {E : Value → Shared → Prop} {s : Shared} {env : Env} {eh : Addr}

theorem for_list_H {target iter : Expr} {body orelse : List Stmt} {pos : Pos} {Q : Flow → Shared → Prop} (hh : A.handled = some (.ref eh))
    (h : wpAny (model prog w) A (eval iter env) (fun xv s₁ => ∃ ax items, ∃ J : Nat → Shared → Prop, xv = .ref ax ∧ s₁.heap.IsList ax items ∧ ExcAt s₁.heap eh ∧
        (∀ h', (∀ b o, s₁.heap.get? b = some o → h'.get? b = some o) → J 0 { s₁ with heap := h' }) ∧
        (∀ i s₂ h' tk, J i s₂ → (∀ b o, b ≠ s₁.heap.objs.size → s₂.heap.get? b = some o → h'.get? b = some o) → J i { s₂ with heap := h', toks := tk }) ∧
        (∀ i v s₂, items[i]? = some v → J i s₂ → s₂.heap.IsList ax items → ExcAt s₂.heap eh → (∃ o, s₂.heap.get? s₁.heap.objs.size = some o) → wpAny (model prog w) A (assign target env v) (fun _ s₃ => wpAny (model prog w) A (execs body env) (fun f s₄ => match f with
          | .next | .cont => J (i + 1) s₄ ∧ (∀ o, s₂.heap.get? s₁.heap.objs.size = some o → s₄.heap.get? s₁.heap.objs.size = some o) ∧ (∀ o, s₂.heap.get? ax = some o → s₄.heap.get? ax = some o) ∧ (∀ o, s₂.heap.get? eh = some o → s₄.heap.get? eh = some o)
          | .brk => Q .next s₄
          | .ret v => Q (.ret v) s₄) (loopE (model prog w) A env E) s₃) (loopE (model prog w) A env E) s₂) ∧
        (∀ s₂, J items.size s₂ → wpAny (model prog w) A (execs orelse env) Q (loopE (model prog w) A env E) s₂)) E s)
    (hs : ∀ x, foldedSetIterable iter env x = pure x := by intro _; rfl) :
    wpAny (model prog w) A (exec (.For target iter body orelse pos) env) Q E s := by
  refine for_walk (wpAny_mono h (fun xv s₁ h₁ => ?_) fun _ _ e => e) hs
  obtain ⟨ax, items, J, rfl, hl, hx, hJ0, hst, hturn, hdone⟩ := h₁
  have hne : ax ≠ s₁.heap.objs.size := by obtain ⟨o, e⟩ := isList_live hl; exact ne_of_get e (get_size _)
  have hnI : eh ≠ s₁.heap.objs.size := Ne.symm (ne_live hx.live (get_size _))
  refine wpAny_pyIter_list hl ⟨s₁.heap.objs.size, _, [s₁.heap.objs.size], items.size, _, _, J, rfl, walks_list_H hh _ ax hne hnI items, fun _ _ _ _ _ hS hq => letGo_listiter hS.1 hq, ?_, ?_, ?_, ?_, ?_⟩
  · exact ⟨⟨_, Heap.get?_push_size _ rfl, rfl, rfl⟩, hl.push _, hx.at fun o e => Heap.get?_push_of_some _ e⟩
  · exact hJ0 _ fun b o e => Heap.get?_push_of_some _ e
  · intro i s₂ h' tk hJ hk
    exact hst i s₂ h' tk hJ fun b o hb e => hk b o (by simpa using hb) e
  · intro i v s₂ hi hP hJ hS
    refine wpAny_mono (hturn i v s₂ hP hJ hS.2.1 hS.2.2 (by obtain ⟨o, e, _⟩ := hS.1; exact ⟨o, e⟩)) (fun _ s₃ h₃ => wpAny_mono h₃ (fun f s₄ h₄ => ?_) fun _ _ e => e) fun _ _ e => e
    have fin : (J (i + 1) s₄ ∧ (∀ o, s₂.heap.get? s₁.heap.objs.size = some o → s₄.heap.get? s₁.heap.objs.size = some o) ∧ (∀ o, s₂.heap.get? ax = some o → s₄.heap.get? ax = some o) ∧ (∀ o, s₂.heap.get? eh = some o → s₄.heap.get? eh = some o)) →
        J (i + 1) s₄ ∧ s₄.heap.IsListIter s₁.heap.objs.size ax (i + 1) ∧ s₄.heap.IsList ax items ∧ ExcAt s₄.heap eh := fun ⟨a, b, c, d⟩ =>
      ⟨a, (by obtain ⟨o, e, r⟩ := hS.1; exact ⟨o, b o e, r⟩), hS.2.1.at c, hS.2.2.at d⟩
    cases f with
    | next => exact fin h₄
    | cont => exact fin h₄
    | brk => exact h₄
    | ret v => exact h₄
  · intro s₂ hJ
    exact hdone s₂ hJ

theorem lc_list_H {α : Type} {target : Expr} {ax : Addr} {items : List Value} {src : List α} {Pv : α → Value → Prop} (hh : A.handled = some (.ref eh)) (hx : ExcAt s.heap eh) (hl : s.heap.IsList ax items.toArray) (hP : Paired Pv src items) (o : Obj) (ho : o = { cls := .type "list_iterator", data := .fields #[.ref ax, .int 0 0] }) :
    LcSrc prog w A target (s.heap.push o) s.heap.objs.size src Pv := by
  subst ho
  have hne : ax ≠ s.heap.objs.size := by obtain ⟨o, e⟩ := isList_live hl; exact ne_of_get e (get_size _)
  have hnI : eh ≠ s.heap.objs.size := Ne.symm (ne_live hx.live (get_size _))
  have hlen : src.length = items.length := hP.length
  have W := walks_list_H (prog := prog) (w := w) hh s.heap.objs.size ax hne hnI items.toArray
  rw [show items.toArray.size = src.length by simp [hlen]] at W
  refine ⟨_, _, _, W, ⟨⟨_, Heap.get?_push_size _ rfl, rfl, rfl⟩, hl.push _, hx.at fun o e => Heap.get?_push_of_some _ e⟩, ?_, ?_, ?_, fun _ _ _ _ _ hS hq => letGo_listiter hS.1 hq⟩
  · intro b hb
    simp only [List.mem_cons, List.not_mem_nil, or_false] at hb
    rw [Heap.size_push]
    obtain ⟨o, e⟩ := isList_live hl
    have h1 := Heap.lt_size e
    obtain ⟨o', e'⟩ := hx.live
    have h2 := Heap.lt_size e'
    rcases hb with h | h | h
    · rw [h]; exact Nat.lt_succ_self _
    · rw [h]; exact Nat.lt_succ_of_lt h1
    · rw [h]; exact Nat.lt_succ_of_lt h2
  · rintro i h ⟨⟨o, e, _⟩, _⟩; exact ⟨o, e⟩
  · intro i v hi hv
    clear W hl hne
    simp only [List.getElem?_toArray] at hv
    induction hP generalizing i with
    | nil => simp at hv
    | cons h t ih =>
      cases i with
      | zero => simp at hv; subst hv; exact ⟨_, rfl, h⟩
      | succ i => simpa using ih (by simpa using hlen) i (by simpa using hi) (by simpa using hv)
end
end Mine

end

/- Law11 -/
section
open PySem PySem.W PyProof.Rows
set_option Elab.async false
set_option linter.unusedVariables false
set_option maxRecDepth 100000
namespace Mine
section
variable {prog : Program} {w : World} {A : Around} {E : Value → Shared → Prop} {s : Shared} {eh L f : Addr} {cd : Value} {m mg mb : Str → Option Value} {rs : List (Addr × List Int)} {ws : List (Addr × (Int × Bool))} {g : Heap}

/-- [x for x in whole if x == 0 or x in walked] -/
theorem left_comp {wh D2 : Addr} {xs ns2 : List Int} {Q : Value → Shared → Prop} (hh : A.handled = some (.ref eh)) (hx : ExcAt s.heap eh) (hn : s.heap.Ns L m) (hw : m "whole" = some (.ref wh)) (hcell : s.heap.IsCell (L + 1) (some (.ref D2))) (h2 : IntL s.heap D2 ns2) {vx : List Value} (hvx : s.heap.IsList wh vx.toArray) (hix : IntsAre vx xs) (hl : xs.length ≤ 500)
    (hQ : ∀ D s', Keeps s s' → s.heap.get? D = none → IntL s'.heap D (xs.filter fun x => (x == 0) || ns2.any (· == x)) → Q (.ref D) s') :
    wpAny (model prog w) A (eval (match nth (bodyOf hFor) 1 with | .Expr (.Call _ [e] _ _) _ => e | _ => .Constant .none 0 default) (lawEnv L f cd)) Q E s := by
  obtain ⟨v2, hv2, hi2⟩ := h2
  refine lc_eval (src := xs) (Pv := fun n v => ∃ t, v = .int n t) (cl := [("walked", L + 1)]) (fun x => (x == 0) || ns2.any (· == x)) (fun n y _ => ∃ t, y = .int n t) (by rfl) (by decide) rfl (by decide) (by omega) ?_
  refine ldN (env := lawEnv L f cd) hn hw (wpAny_pyIter_list hvx ⟨_, rfl, lc_list_H hh hx hvx (ints_paired hix) _ rfl, ?_, ?_⟩)
  · rintro C x v s₃ m₃ hxm ⟨tv, rfl⟩ hCn hn₃ hch E'
    refine wpAny_assign_Name (stN' (env := compEnvC _ _ C _) hn₃ fun h₄ hn₄ hs₄ => ⟨⟨_, hn₄⟩, (Chg.refl _ _).step fun b o hb e => hs₄.extBut b o hb e, ?_⟩)
    have hCn' : s.heap.get? C = none := fresh_sub (fun b o e => Heap.get?_push_of_some _ e) hCn
    have K : ∀ b o, s.heap.get? b = some o → h₄.get? b = some o := fun b o e => hs₄.extBut b o (ne_of_get e hCn') (hch.get (ne_of_get e (get_size _)) (Heap.get?_push_of_some _ e))
    refine wpAny_tests_one (wpAny_isTrue_BoolOp (wpAny_allTrue_Or_cons (wpAny_isTrue_Compare1 (ldN (env := compEnvC _ _ C _) hn₄ (by rw [if_pos rfl]) (wpAny_Constant_int (PyProof.Rows.eq_int (wpAny_truthy_bool ?_)))))))
    have fin : ∀ (pos : Pos) tk, wpAny (model prog w) A (eval (.Name "x" pos) (compEnvC { kind := ScopeKind.function, names := [(".0", .local), ("x", .local), ("walked", .free)], isGenerator := false, isCoroutine := false, more := [] } [("walked", L + 1)] C (lawEnv L f cd))) (fun y s₆ => Keeps { s₃ with heap := h₄, toks := tk } s₆ ∧ Elt (fun n y _ => ∃ t, y = Value.int n t) h₄ s₆.heap x y) E' { s₃ with heap := h₄, toks := tk } := fun pos tk =>
      ldN (env := compEnvC _ _ C _) hn₄ (by rw [if_pos rfl]) ⟨Keeps.refl' { s₃ with heap := h₄, toks := tk } _, .inl ⟨tv, rfl⟩⟩
    by_cases h0 : x = 0
    · have e0 : (x == 0) = true := by simpa using h0
      simp only [e0, if_true, Bool.true_or]
      exact ⟨trivial, Keeps.refl' { s₃ with heap := h₄, toks := _ } _, fun _ => fin _ _⟩
    · have e0 : (x == 0) = false := by simpa using h0
      simp only [e0, Bool.false_eq_true, if_false, Bool.false_or]
      refine wpAny_allTrue_Or_cons (wpAny_isTrue_Compare1 (ldN (env := compEnvC _ _ C _) hn₄ (by rw [if_pos rfl]) (ldCell (env := compEnvC _ _ C _) (hcell.keeps K) (in_list_ints (vs := v2) (ns := ns2) (hv2.isList.at fun o e => K _ o e) hi2 (wpAny_truthy_bool ?_)))))
      by_cases ha : (ns2.any fun y => y == x) = true
      · simp only [ha, if_true]
        exact ⟨trivial, Keeps.refl' { s₃ with heap := h₄, toks := _ } _, fun _ => fin _ _⟩
      · have ha' : (ns2.any fun y => y == x) = false := Bool.eq_false_iff.mpr ha
        simp only [ha', Bool.false_eq_true, if_false]
        exact wpAny_allTrue_Or_nil ⟨rfl, Keeps.refl' { s₃ with heap := h₄, toks := _ } _, fun h => by cases h⟩
  · intro D s5 ys hD hl5 hP5 hch
    have hys := ints_of (f := fun n : Int => n) hP5
    rw [map_id_int] at hys
    refine hQ D s5 ?_ (fresh_sub (fun b o e => Heap.get?_push_of_some _ e) hD) ⟨ys, hl5, hys⟩
    obtain ⟨h9, t9, rfl, k9⟩ := hch
    exact ⟨h9, t9, rfl, fun b o e => k9 b o (ne_of_get e (get_size _)) (Heap.get?_push_of_some _ e)⟩

theorem law_hfor {wy ab lf D2 : Addr} {ns2 : List Int} {Q : Flow → Shared → Prop} (hh : A.handled = some (.ref eh)) (hx : ExcAt s.heap eh) (hehL : eh ≠ L) (hehf : eh ≠ lf)
    (hn : s.heap.Ns L m) (hmw : m "ways" = some (.ref wy)) (hma : m "above" = some (.ref ab)) (hml : m "left" = some (.ref lf)) (hcell : s.heap.IsCell (L + 1) (some (.ref D2))) (h2 : IntL s.heap D2 ns2)
    (hM : Mat s.heap ab rs) (hrl : rs.length ≤ 1000) (hrr : ∀ r ∈ rs, r.2.length ≤ 500) (hW : Wys s.heap wy ws) (hwl : ws.length ≤ 500) (hin : ∀ q ∈ ws, 0 ≤ q.2.1 ∧ q.2.1 < (rs.length : Int))
    (hlf : s.heap.PlainList lf #[]) (hlfL : lf ≠ L) (hne : ∀ b, (b = wy ∨ b = ab ∨ b = D2 ∨ b = L + 1 ∨ b ∈ rs.map (·.1) ∨ b ∈ ws.map (·.1)) → b ≠ L ∧ b ≠ lf)
    (hQ : ∀ s' m' (ll : List (Addr × List Int)), Chg (fun b => b = L ∨ b = lf) s s' → s'.heap.Ns L m' → (∀ y : Str, y ≠ "k" → y ≠ "leads_up" → y ≠ "whole" → m' y = m y) → s'.heap.PlainList lf (ll.map fun q : Addr × List Int => Value.ref q.1).toArray → (∀ q ∈ ll, IntL s'.heap q.1 q.2) →
      ll.map (·.2) = (ws.map (·.2)).map (leftOf rs ns2) → Q .next s') :
    wpAny (model prog w) A (exec hFor (lawEnv L f cd)) Q E s := by
  have hfresh := get_size s.heap
  have hLI : L ≠ s.heap.objs.size := Ne.symm (ne_live (ns_live hn) hfresh)
  have hfI : lf ≠ s.heap.objs.size := by obtain ⟨n, e⟩ := hlf; exact ne_of_get e hfresh
  refine for_list_H hh (ldN (env := lawEnv L f cd) hn hmw ⟨wy, _, fun i s₁ => Chg (fun b => b = L ∨ b = lf) s s₁ ∧ ∃ (m' : Str → Option Value) (ll : List (Addr × List Int)), s₁.heap.Ns L m' ∧ (∀ y : Str, y ≠ "k" → y ≠ "leads_up" → y ≠ "whole" → m' y = m y) ∧ s₁.heap.PlainList lf (ll.map fun q : Addr × List Int => Value.ref q.1).toArray ∧
      (∀ q ∈ ll, IntL s₁.heap q.1 q.2 ∧ q.1 ≠ L ∧ q.1 ≠ lf ∧ q.1 ≠ s.heap.objs.size) ∧ ll.map (·.2) = ((ws.take i).map (·.2)).map (leftOf rs ns2), rfl, hW.l, hx, ?_, ?_, ?_, ?_⟩)
  · intro h' k
    exact ⟨(Chg.refl _ s).stepH fun b o _ e => k b o e, m, [], hn.at' fun o e => k _ o e, fun _ _ _ _ => rfl, hlf.at fun o e => k _ o e, by simp, by simp⟩
  · rintro i s₁ h' tk ⟨C, m', ll, hn', hm', hl, hr, he⟩ hk
    refine ⟨?_, m', ll, hn'.at' fun o e => hk _ o hLI e, hm', hl.at fun o e => hk _ o hfI e, fun q hq => ⟨(hr q hq).1.at fun o e => hk _ o (hr q hq).2.2.2 e, (hr q hq).2⟩, he⟩
    obtain ⟨h1, t1, rfl, k1⟩ := C
    exact ⟨h', tk, rfl, fun b o nb e => hk b o (ne_of_get e hfresh) (k1 b o nb e)⟩
  · rintro i v s₁ hP ⟨C, m', ll, hn', hm', hl, hr, he⟩ hl₁ hx₁ ⟨oI, hoI⟩
    obtain ⟨q, hq, rfl⟩ : ∃ q, ws[i]? = some q ∧ v = .ref q.1 := by
      simp only [List.getElem?_toArray, List.getElem?_map, Option.map_eq_some_iff] at hP
      obtain ⟨q, hq, e⟩ := hP; exact ⟨q, hq, e.symm⟩
    have hqm := List.mem_of_getElem? hq
    have hilt : i < ws.length := (List.getElem?_eq_some_iff.mp hq).1
    obtain ⟨oq, eq, tq, hoq, hcq, hdq⟩ := hW.t q hqm
    have nC : ∀ b, (b = wy ∨ b = ab ∨ b = D2 ∨ b = L + 1 ∨ b ∈ rs.map (·.1) ∨ b ∈ ws.map (·.1)) → ¬ (b = L ∨ b = lf) := fun b hb h => h.elim (hne b hb).1 (hne b hb).2
    have hoq1 : s₁.heap.get? q.1 = some oq := C.get (nC _ (.inr (.inr (.inr (.inr (.inr (List.mem_map_of_mem hqm))))))) hoq
    refine assign_Tuple_H hh (s := s₁) hx₁ (items := #[.int q.2.1 tq, .bool q.2.2]) ⟨oq, hoq1, hcq, eq, hdq⟩ rfl rfl fun h₁ he₁ => ?_
    have kk1 : Sub s₁.heap h₁ := fun b o e => he₁ b o (ne_of_get e (get_size _)) e
    refine assignInOrder_cons (wpAny_assign_Name (stN' (env := lawEnv L f cd) (hn'.at' fun o e => kk1 _ o e) fun h₂ n₂ hs₂ => ?_))
    refine assignInOrder_cons (wpAny_assign_Name (stN' (env := lawEnv L f cd) n₂ fun h₃ n₃ hs₃ => assignInOrder_nil ?_))
    dsimp only at hs₂ hs₃ n₂ n₃
    have k3 : ∀ b o, b ≠ L → s₁.heap.get? b = some o → h₃.get? b = some o := fun b o hb e => hs₃.extBut b o hb (hs₂.extBut b o hb (kk1 b o e))
    have kb3 : ∀ b o, (b = wy ∨ b = ab ∨ b = D2 ∨ b = L + 1 ∨ b ∈ rs.map (·.1) ∨ b ∈ ws.map (·.1)) → s.heap.get? b = some o → h₃.get? b = some o := fun b o hb e => k3 b o (hne b hb).1 (C.get (nC b hb) e)
    have M3 : Mat h₃ ab rs := ⟨hM.l.at fun o e => kb3 _ o (.inr (.inl rfl)) e, fun r hr => (hM.r r hr).at fun o e => kb3 _ o (.inr (.inr (.inr (.inr (.inl (List.mem_map_of_mem hr)))))) e⟩
    have hx3 : ExcAt h₃ eh := hx₁.at fun o e => k3 _ o hehL e
    have c3 : h₃.IsCell (L + 1) (some (.ref D2)) := by obtain ⟨o, e, d⟩ := hcell; exact ⟨o, kb3 _ _ (.inr (.inr (.inr (.inl rfl)))) e, d⟩
    have i3 : IntL h₃ D2 ns2 := h2.at fun o e => kb3 _ o (.inr (.inr (.inl rfl))) e
    obtain ⟨q0, qn⟩ := hin q hqm
    have hma3 : ∀ {Q' : Value → Shared → Prop} {E' : Value → Shared → Prop} {pos : Pos} {tk : Nat}, Q' (.ref ab) { s₁ with heap := h₃, toks := tk } → wpAny (model prog w) A (eval (.Name "above" pos) (lawEnv L f cd)) Q' E' { s₁ with heap := h₃, toks := tk } := fun h => ldN (env := lawEnv L f cd) n₃ (by rw [if_neg (by decide), if_neg (by decide), hm' _ (by decide) (by decide) (by decide), hma]) h
    have hk3 : ∀ {Q' : Value → Shared → Prop} {E' : Value → Shared → Prop} {pos : Pos} {tk : Nat}, Q' (.int q.2.1 tq) { s₁ with heap := h₃, toks := tk } → wpAny (model prog w) A (eval (.Name "k" pos) (lawEnv L f cd)) Q' E' { s₁ with heap := h₃, toks := tk } := fun h => ldN (env := lawEnv L f cd) n₃ (by rw [if_neg (by decide), if_pos rfl]) h
    -- whole
    have whole_step : ∀ (Q' : Value → Shared → Prop) (E' : Value → Shared → Prop) tk, (∀ wh vx s', Keeps { s₁ with heap := h₃, toks := tk } s' → s'.heap.IsList wh (List.toArray vx) → IntsAre vx (if q.2.2 then (row rs q.2.1).reverse else row rs q.2.1) → wh ≠ L → Q' (.ref wh) s') →
        wpAny (model prog w) A (eval (match nth (bodyOf hFor) 0 with | .Assign _ v _ => v | _ => .Constant .none 0 default) (lawEnv L f cd)) Q' E' { s₁ with heap := h₃, toks := tk } := by
      intro Q' E' tk hq'
      refine wpAny_IfExp (wpAny_isTrue_value (ldN (env := lawEnv L f cd) n₃ (v := .bool q.2.2) (by rw [if_pos rfl]) (wpAny_truthy_bool ?_)))
      by_cases hup : q.2.2 = true
      · rw [hup] at hq' ⊢
        simp only [if_true] at hq' ⊢
        refine rev_slice (row_item (s := { s₁ with heap := h₃, toks := tk }) M3 q0 qn hrl (fun Q hq => hma3 hq) (fun Q hq => hk3 hq) fun r hr hrow => ?_)
        obtain ⟨rv, hrv, hri⟩ := M3.r r hr
        have hrvl := hri.length
        have := hrr r hr
        refine ⟨r.1, rv, rfl, hrv.isList, by omega, fun D s' K fD hD => hq' D rv.reverse s' K hD.isList (by rw [hrow]; exact hri.reverse) (ne_live (ns_live n₃) fD)⟩
      · have hup' : q.2.2 = false := by simpa using hup
        rw [hup'] at hq' ⊢
        simp only [Bool.false_eq_true, if_false] at hq' ⊢
        refine row_item (s := { s₁ with heap := h₃, toks := tk }) M3 q0 qn hrl (fun Q hq => hma3 hq) (fun Q hq => hk3 hq) fun r hr hrow => ?_
        obtain ⟨rv, hrv, hri⟩ := M3.r r hr
        exact hq' r.1 rv _ ⟨h₃, tk, rfl, fun _ _ e => e⟩ hrv.isList (by rw [hrow]; exact hri) (hne _ (.inr (.inr (.inr (.inr (.inl (List.mem_map_of_mem hr))))))).1
    refine wpAny_execs_cons (st := nth (bodyOf hFor) 0) (wpAny_Assign_Name (whole_step _ _ _ fun wh vx s4 K4 hvx hix hwhL => stN' (env := lawEnv L f cd) (n₃.keeps (Sub.of_keeps K4)) fun h₅ n₅ hs₅ => ?_))
    have _ := trivial
    have k5 : ∀ b o, b ≠ L → s₁.heap.get? b = some o → h₅.get? b = some o := fun b o hb e => hs₅.extBut b o hb (Keeps.get' K4 (k3 b o hb e))
    have E4 : ∃ t, s4 = { s₁ with heap := s4.heap, toks := t } := by obtain ⟨h9, t9, rfl, _⟩ := K4; exact ⟨t9, rfl⟩
    have hrowlen : (if q.2.2 then (row rs q.2.1).reverse else row rs q.2.1).length ≤ 500 := by
      obtain ⟨r, hr, hrm, hrow⟩ := getD_row q0 qn
      have := hrr r hrm
      split
      · rw [List.length_reverse, hrow]; exact this
      · rw [hrow]; exact this
    -- left.append
    refine wpAny_execs_cons (st := nth (bodyOf hFor) 1) (wpAny_Expr (wpAny_Call_append (by rfl) (by rfl) (by rfl) (by rfl) (ldN (env := lawEnv L f cd) n₅ (v := .ref lf) (by rw [if_neg (by decide), if_neg (by decide), if_neg (by decide), hm' _ (by decide) (by decide) (by decide), hml]) ⟨lf, _, rfl, plainL_of (hl.at fun o e => k5 _ o hlfL e), ?_⟩)))
    refine left_comp (s := { s4 with heap := h₅, toks := _ }) (xs := if q.2.2 then (row rs q.2.1).reverse else row rs q.2.1) (D2 := D2) (ns2 := ns2) hh (hx3.at fun o e => hs₅.extBut _ o hehL (Keeps.get' K4 e)) n₅ (by rw [if_pos rfl]) ?_ (i3.at fun o e => hs₅.extBut _ o (hne _ (.inr (.inr (.inl rfl)))).1 (Keeps.get' K4 e)) (hvx.at fun o e => hs₅.extBut _ o hwhL e) hix hrowlen fun D s6 K6 fD hD => ?_
    · obtain ⟨o, e, d⟩ := c3
      exact ⟨o, hs₅.extBut _ _ (Nat.succ_ne_self L) (Keeps.get' K4 e), d⟩
    have k6 : ∀ b o, b ≠ L → s₁.heap.get? b = some o → s6.heap.get? b = some o := fun b o hb e => Keeps.get' K6 (k5 b o hb e)
    have fD5 : h₅.get? D = none := fD
    have hDL : D ≠ L := ne_live (ns_live n₅) fD
    have fD1 : s₁.heap.get? D = none := by
      cases e : s₁.heap.get? D with
      | none => rfl
      | some o => rw [k5 _ _ hDL e] at fD5; cases fD5
    have hlf1 : ∃ o, s₁.heap.get? lf = some o := let ⟨n, e⟩ := hl; ⟨_, e⟩
    have hDf : D ≠ lf := ne_live hlf1 fD1
    have hDI : D ≠ s.heap.objs.size := ne_live ⟨_, hoI⟩ fD1
    have hll : ll.length ≤ 500 := by have := congrArg List.length he; simp only [List.length_map, List.length_take] at this; omega
    refine wpAny_list_append_plain (hsz := by simp only [List.size_toArray, List.length_map]; rw [sizeLine_eq]; omega) (hl.at fun o e => k6 _ o hlfL e) fun h7 hl7 hs7 => ?_
    have k7 : ∀ b o, b ≠ L → b ≠ lf → s₁.heap.get? b = some o → h7.get? b = some o := fun b o h1 h2 e => hs7.extBut b o h2 (k6 b o h1 e)
    refine wpAny_execs_nil ⟨⟨?_, _, ll ++ [(D, leftOf rs ns2 q.2)], (n₅.keeps (Sub.of_keeps K6)).sameBut hs7 (Ne.symm hlfL), fun y h1 h2 h3 => by rw [if_neg h3, if_neg h2, if_neg h1, hm' y h1 h2 h3], by simpa using hl7, fun x hxm => ?_, ?_⟩, fun o e => k7 _ o (Ne.symm hLI) (Ne.symm hfI) e, fun o e => k7 _ o (hne _ (.inl rfl)).1 (hne _ (.inl rfl)).2 e, fun o e => k7 _ o hehL hehf e⟩
    · obtain ⟨t4, e4⟩ := E4
      obtain ⟨h6, t6, e6, _⟩ := K6
      obtain ⟨h1, t1, e1, kc⟩ := C
      refine ⟨h7, t6, ?_, fun b o hb e => ?_⟩
      · rw [e6, e4, e1]
      · exact k7 b o (fun h => hb (.inl h)) (fun h => hb (.inr h)) (by rw [e1]; exact kc b o hb e)
    · rcases List.mem_append.mp hxm with hxm | hxm
      · exact ⟨(hr x hxm).1.at fun o e => k7 _ o (hr x hxm).2.1 (hr x hxm).2.2.1 e, (hr x hxm).2⟩
      · rw [List.mem_singleton.mp hxm]
        exact ⟨hD.at fun o e => hs7.extBut _ o hDf e, hDL, hDf, hDI⟩
    · rw [List.map_append, he, List.take_add_one, hq]
      simp
  · rintro s₁ ⟨C, m', ll, hn', hm', hl, hr, he⟩
    refine wpAny_execs_nil (hQ s₁ m' ll C hn' hm' hl (fun q hq => (hr q hq).1) ?_)
    rw [he]
    rw [List.take_of_length_le (by simp)]
end
end Mine

end

/- Law12 -/
section
open PySem PySem.W PyProof.Rows
set_option Elab.async false
set_option linter.unusedVariables false
set_option maxRecDepth 100000
namespace Mine
section
variable {prog : Program} {w : World} {A : Around} {E : Value → Shared → Prop} {s : Shared} {eh L f : Addr} {cd : Value} {m mg mb : Str → Option Value} {rs : List (Addr × List Int)} {ws : List (Addr × (Int × Bool))} {g : Heap}

theorem law_hsuite {wy ab rw D2 Ds t : Addr} {tt : Tok} {ns2 sh : List Int} {rl : List (Addr × List Int)} {Q : Flow → Shared → Prop} (hh : A.handled = some (.ref eh)) (hu : A.units + 70 < cLine) (hx : ExcAt s.heap eh) (B : BiL mg mb) (S : Stat mg mb g) (SG : Sub g s.heap) (hgL : g.get? L = none)
    (hn : s.heap.Ns L m) (hmw : m "ways" = some (.ref wy)) (hma : m "above" = some (.ref ab)) (hms : m "shared" = some (.ref Ds)) (hmr : m "rows" = some (.ref rw)) (hme : m "refused" = some (.ref eh)) (hcell : s.heap.IsCell (L + 1) (some (.ref D2))) (h2 : IntL s.heap D2 ns2)
    (hDs : IntL s.heap Ds sh) (hsh : sh ≠ []) (hX : s.heap.ExcAt eh "RuntimeError" (.ref t)) (hT : s.heap.TupAt t [.str "Inconsistent hierarchy" tt]) (htL : t ≠ L)
    (hM : Mat s.heap ab rs) (hrl : rs.length ≤ 1000) (hrr : ∀ r ∈ rs, r.2.length ≤ 500) (hW : Wys s.heap wy ws) (hwl : ws.length ≤ 500) (hin : ∀ q ∈ ws, 0 ≤ q.2.1 ∧ q.2.1 < (rs.length : Int))
    (hrw : s.heap.PlainList rw (rl.map fun q => Value.ref q.1).toArray) (hrows : ∀ q ∈ rl, IntL s.heap q.1 q.2)
    (hne : ∀ b, (b = wy ∨ b = ab ∨ b = D2 ∨ b = Ds ∨ b = rw ∨ b = eh ∨ b ∈ rs.map (·.1) ∨ b ∈ ws.map (·.1) ∨ b ∈ rl.map (·.1)) → b ≠ L)
    (heq : rl.map (·.2) = (ws.map (·.2)).map (leftOf rs ns2))
    (hQ : ∀ s', Chg (· = L) s s' → (∃ m', s'.heap.Ns L m') → Q (.ret (.bool true)) s') :
    wpAny (model prog w) A (execs hSuite (lawEnv L f cd)) Q E s := by
  refine wpAny_execs_cons (st := nth hSuite 0) (wpAny_Assign_Name (wpAny_List (wpAny_items_nil ⟨by simp [sizeLine], stN' (env := lawEnv L f cd) (hn.push _) fun h1 n1 hs1 => ?_⟩)))
  dsimp only at hs1 n1
  have hfr := get_size s.heap
  have hlfL : s.heap.objs.size ≠ L := ne_live (ns_live hn) hfr
  have k1 : ∀ b o, b ≠ L → s.heap.get? b = some o → h1.get? b = some o := fun b o hb e => hs1.extBut b o hb (Heap.get?_push_of_some _ e)
  have hlf1 : h1.PlainList s.heap.objs.size #[] := (push_plain s.heap _).at fun o e => hs1.extBut _ o hlfL e
  have lne : ∀ b, (∃ o, s.heap.get? b = some o) → b ≠ s.heap.objs.size := fun b l => Ne.symm (ne_live l hfr)
  have hL1 : L + 1 ≠ L := Nat.succ_ne_self L
  have M1 : Mat h1 ab rs := ⟨hM.l.at fun o e => k1 _ o (hne _ (by simp)) e, fun r hr => (hM.r r hr).at fun o e => k1 _ o (hne _ (by simp only [List.mem_map_of_mem hr, or_true, true_or])) e⟩
  have W1 : Wys h1 wy ws := ⟨hW.l.at fun o e => k1 _ o (hne _ (by simp)) e, fun q hq => by
    obtain ⟨o, e, t, ho, r⟩ := hW.t q hq
    exact ⟨o, e, t, k1 _ o (hne _ (by simp only [List.mem_map_of_mem hq, or_true, true_or])) ho, r⟩⟩
  have c1 : h1.IsCell (L + 1) (some (.ref D2)) := by obtain ⟨o, e, d⟩ := hcell; exact ⟨o, k1 _ _ hL1 e, d⟩
  refine wpAny_execs_cons (st := hFor) (law_hfor (s := { s with heap := h1, toks := _ }) (lf := s.heap.objs.size) (ab := ab) (wy := wy) (D2 := D2) (rs := rs) (ws := ws) (ns2 := ns2) hh (hx.at fun o e => k1 _ o (hne _ (by simp)) e) (hne _ (by simp)) (lne _ hx.live) n1 (by rw [if_neg (by decide), hmw]) (by rw [if_neg (by decide), hma]) (by rw [if_pos rfl]) c1 (h2.at fun o e => k1 _ o (hne _ (by simp)) e) M1 hrl hrr W1 hwl hin hlf1 hlfL ?_ fun s2 m2 ll C2 n2 hm2 hl2 hll2 he2 => ?_)
  · intro b hb
    rcases hb with h | h | h | h | h | h
    · exact ⟨hne _ (by simp [h]), h ▸ lne _ (isList_live hW.l)⟩
    · exact ⟨hne _ (by simp [h]), h ▸ lne _ (isList_live hM.l)⟩
    · exact ⟨hne _ (by simp [h]), h ▸ lne _ h2.live⟩
    · exact ⟨h ▸ hL1, h ▸ lne _ (cell_live hcell)⟩
    · refine ⟨hne _ (by simp only [h, or_true, true_or]), ?_⟩
      obtain ⟨r, hr, rfl⟩ := List.mem_map.mp h
      exact lne _ (hM.r r hr).live
    · refine ⟨hne _ (by simp only [h, or_true, true_or]), ?_⟩
      obtain ⟨q, hq, rfl⟩ := List.mem_map.mp h
      obtain ⟨o, _, _, ho, _⟩ := hW.t q hq
      exact lne _ ⟨o, ho⟩
  have k2 : ∀ b o, b ≠ L → s.heap.get? b = some o → s2.heap.get? b = some o := fun b o hb e => C2.get (fun h => h.elim hb (ne_of_get e hfr)) (k1 b o hb e)
  have CC : Chg (· = L) s s2 := by
    obtain ⟨h9, t9, e9, _⟩ := C2
    exact ⟨h9, t9, by rw [e9], fun b o hb e => by have := k2 b o hb e; rwa [e9] at this⟩
  have SG2 : Sub g s2.heap := sub_chg SG CC fun b h => h ▸ hgL
  obtain ⟨vd, hvd, hid⟩ := hDs
  -- return
  refine wpAny_execs_cons (st := nth hSuite 2) (wpAny_Return_some (BoolOp_and (wpAny_Compare1 (ldN (env := lawEnv L f cd) n2 (v := .ref Ds) (by rw [hm2 _ (by decide) (by decide) (by decide), if_neg (by decide), hms]) (wpAny_List (wpAny_items_nil ⟨by simp [sizeLine], ?_⟩))))))
  refine ne_intsK (vs := vd) (us := []) ((hvd.at fun o e => k2 _ o (hne _ (by simp)) e).at fun o e => Heap.get?_push_of_some _ e).isList hid (push_plain s2.heap _).isList .nil (by omega) (wpAny_truthy_bool ?_)
  rw [show (!decide (sh = [])) = true by simpa using hsh]
  simp only [if_true]
  generalize hH : s2.heap.push { cls := .type "list", data := .seq ([] : List Value).toArray } = H
  have kH : Sub s2.heap H := fun b o e => hH ▸ Heap.get?_push_of_some _ e
  have hX' : H.ExcAt eh "RuntimeError" (.ref t) := by obtain ⟨o, vs, e, r⟩ := hX; exact ⟨o, vs, kH _ _ (k2 _ _ (hne _ (by simp)) e), r⟩
  have hT' : H.TupAt t [.str "Inconsistent hierarchy" tt] := by obtain ⟨o, n, e, r⟩ := hT; exact ⟨o, n, kH _ _ (k2 _ _ htL e), r⟩
  refine BoolOp_and (wpAny_Compare1 (wpAny_Call_NameR (ldB (s := { s2 with heap := H }) (S.keep fun b o e => kH b o (SG2 b o e)).gl B.strG B.strB ?_)))
  refine PyProof.Rows.callWith_type rfl (Calls.evalArgs_plain (Calls.spliced_cons (ldN (env := lawEnv L f cd) (x := "refused") (n2.keeps kH) (v := .ref eh) (pos := ⟨90, 36, 90, 43⟩) (by rw [hm2 _ (by decide) (by decide) (by decide), if_neg (by decide), hme]) (Calls.spliced_nil ?_))))
  refine P.str_of_exc_one (s := { s2 with heap := H }) F.excStr_RuntimeError (by omega) hX' hT' (wpAny_Constant_str (PyProof.Rows.eq_str (wpAny_truthy_bool ?_)))
  rw [show ((("Inconsistent hierarchy" : String) : Str) == (("Inconsistent hierarchy" : String) : Str)) = true by simp]
  simp only [if_true]
  refine BoolOp_one (wpAny_Compare1 (ldN (env := lawEnv L f cd) (s := { s2 with heap := H, toks := _ }) (n2.keeps kH) (v := .ref rw) (by rw [hm2 _ (by decide) (by decide) (by decide), if_neg (by decide), hmr]) (ldN (env := lawEnv L f cd) (s := { s2 with heap := H, toks := _ }) (n2.keeps kH) (v := .ref s.heap.objs.size) (by rw [hm2 _ (by decide) (by decide) (by decide), if_pos rfl]) ?_)))
  refine eq_rows (s := { s2 with heap := H, toks := _ }) (rl := rl) (ql := ll) (hrw.at fun o e => kH _ _ (k2 _ o (hne _ (by simp)) e)).isList (fun q hq => (hrows q hq).at fun o e => kH _ _ (k2 _ o (hne _ (by simp only [List.mem_map_of_mem hq, or_true])) e)) (hl2.at fun o e => kH _ _ e).isList (fun q hq => (hll2 q hq).at fun o e => kH _ _ e) (by omega) ?_
  rw [show decide (rl.map (·.2) = ll.map (·.2)) = true by rw [heq, he2]; simp]
  exact hQ _ (CC.step fun b o _ e => kH b o e) ⟨_, n2.keeps kH⟩
end
end Mine

end

/- Law13 -/
section
open PySem PySem.W PyProof.Rows
set_option Elab.async false
set_option linter.unusedVariables false
set_option maxRecDepth 100000
namespace Mine
section
variable {prog : Program} {w : World} {A : Around} {E : Value → Shared → Prop} {s : Shared} {L f : Addr} {cd : Value} {m mg mb : Str → Option Value} {rs : List (Addr × List Int)} {ws : List (Addr × (Int × Bool))} {g : Heap}

theorem law_try {wy ab rw D1 D2 Ds Pc Pp : Addr} {ns1 ns2 sh : List Int} {rl : List (Addr × List Int)} {n : Nat} {res : Option (List Int)} {rowsF : List (List Int)} {tc tp : Array Value} {Q : Flow → Shared → Prop}
    (hh : A.handled = none) (hu : A.units + 70 < cLine) (hroom : A.depth + 3 < recursionLimit) (hfr : A.frames = some [lawEnv L f cd]) (B : BiL mg mb) (Xk : (KK w).In g) (S : Stat mg mb g) (SG : Sub g s.heap) (hgL : g.get? L = none) (hgR : ∀ q ∈ rl, g.get? q.1 = none)
    (hn : s.heap.Ns L m) (hmw : m "ways" = some (.ref wy)) (hma : m "above" = some (.ref ab)) (hms : m "shared" = some (.ref Ds)) (hmr : m "rows" = some (.ref rw)) (hmc : m "climbed" = some (.ref D1)) (hcell : s.heap.IsCell (L + 1) (some (.ref D2)))
    (h1 : IntL s.heap D1 ns1) (h2 : IntL s.heap D2 ns2) (hDs : IntL s.heap Ds sh) (hM : Mat s.heap ab rs) (hrl : rs.length ≤ 60) (hrr : ∀ r ∈ rs, r.2.length ≤ 500) (hW : Wys s.heap wy ws) (hwl : ws.length ≤ 500) (hin : ∀ q ∈ ws, 0 ≤ q.2.1 ∧ q.2.1 < (rs.length : Int))
    (hrw : s.heap.PlainList rw (rl.map fun q => Value.ref q.1).toArray) (hrows : ∀ q ∈ rl, IntL s.heap q.1 q.2) (hnd : (rl.map (·.1)).Nodup) (hfit : total (rl.map (·.2)) ≤ 500) (hrlen : rl.length ≤ 500)
    (hPc : s.heap.get? Pc = some (tabObj tc)) (hPp : s.heap.get? Pp = some (tabObj tp))
    (hrd : ∀ b, (b = wy ∨ b = ab ∨ b = D1 ∨ b = D2 ∨ b = Ds ∨ b = rw ∨ b = L + 1 ∨ b ∈ rs.map (·.1) ∨ b ∈ ws.map (·.1)) → b ∉ rl.map (·.1) ∧ b ≠ L) (hrdL : ∀ q ∈ rl, q.1 ≠ L)
    (hl1 : ns1.length ≤ 100) (hl2 : ns2.length ≤ 100)
    (hMg : Mg n (rl.map (·.2)) [] res rowsF)
    (hcase : (res = some (ns1 ++ [0] ++ ns2) ∧ sh = [] ∧ rowsF = ws.map fun _ => []) ∨ (res = none ∧ sh ≠ [] ∧ rowsF = (ws.map (·.2)).map (leftOf rs ns2)))
    (hQ : ∀ s', (∃ h tk, s' = { s with heap := h, toks := tk }) → Sub g s'.heap → s'.heap.get? Pc = some (tabObj tc) → s'.heap.get? Pp = some (tabObj tp) → Q (.ret (.bool true)) s') :
    wpAny (model prog w) A (execs (lawBody.drop 12) (lawEnv L f cd)) Q E s := by
  have live : ∀ b, (b = wy ∨ b = ab ∨ b = D1 ∨ b = D2 ∨ b = Ds ∨ b = rw ∨ b = L + 1 ∨ b ∈ rs.map (·.1) ∨ b ∈ ws.map (·.1)) → ∃ o, s.heap.get? b = some o := by
    intro b hb
    rcases hb with h | h | h | h | h | h | h | h | h
    · exact h ▸ isList_live hW.l
    · exact h ▸ isList_live hM.l
    · exact h ▸ h1.live
    · exact h ▸ h2.live
    · exact h ▸ hDs.live
    · obtain ⟨k, e⟩ := hrw; exact h ▸ ⟨_, e⟩
    · exact h ▸ cell_live hcell
    · obtain ⟨r, hr, rfl⟩ := List.mem_map.mp h; exact (hM.r r hr).live
    · obtain ⟨q, hq, rfl⟩ := List.mem_map.mp h; obtain ⟨o, _, _, ho, _⟩ := hW.t q hq; exact ⟨o, ho⟩
  obtain ⟨o19, _, _, ho19, hd19⟩ := fn19 w
  have hrwm : ∀ q ∈ rl, q.1 ∈ rl.map (·.1) := fun q hq => List.mem_map_of_mem hq
  have hgl : mainGlobals ∉ rl.map (·.1) := fun h => by
    obtain ⟨q, hq, e⟩ := List.mem_map.mp h
    obtain ⟨o, ho⟩ := ns_live S.gl.g
    have := hgR q hq
    rw [e, ho] at this; cases this
  have hgb : builtinsNs ∉ rl.map (·.1) := fun h => by
    obtain ⟨q, hq, e⟩ := List.mem_map.mp h
    obtain ⟨o, ho⟩ := ns_live S.gl.b
    have := hgR q hq
    rw [e, ho] at this; cases this
  have tabR : ∀ {P t}, s.heap.get? P = some (tabObj t) → P ∉ rl.map (·.1) := fun {P t} hP h => by
    obtain ⟨q, hq, e⟩ := List.mem_map.mp h
    exact intL_ne_tab (hrows q hq) hP e
  refine wpAny_execs_cons (st := lawTry) (wpAny_Try_except (wpAny_execs_cons (wpAny_Assign_Name (wpAny_Call_NameR (ldG (S.keep SG).gl B.c3G (callWith_def hd19 (wpAny_items_cons (ldN (env := lawEnv L f cd) hn hmr (wpAny_items_nil ⟨SG _ _ (Xk _ _ ho19), ?_⟩)))))))))
  refine c3_callX (L := L) (envL := lawEnv L f cd) (m := m) hh (by omega) Xk S SG B.rteG B.rteB hfr rfl (by show lawScope.kind ≠ _; decide) hn hrw.isList (hrd rw (by simp)).1 hrows hnd hfit hrlen (fun h => by obtain ⟨q, hq, e⟩ := List.mem_map.mp h; exact hrdL q hq e) hgl hgb hMg
    (fun s1 r acc hres C1 ⟨rs1, ea, eb, hr1⟩ hacc fr => ?_) (fun s1 h' e t tt L' hres C1 ⟨rs1, ea, eb, hr1⟩ fL' hF hT hbt hU hx => ?_)
  · -- told
    obtain ⟨hr, hs0, hrF⟩ := hcase.resolve_right fun ⟨hr, _⟩ => by rw [hres] at hr; cases hr
    rw [hres] at hr
    cases hr
    subst hs0
    have hrL : r ≠ L := ne_live (ns_live hn) fr
    have n1 := ns_chg hn C1 (fun h => by obtain ⟨q, hq, e⟩ := List.mem_map.mp h; exact hrdL q hq e)
    refine stN' (env := lawEnv L f cd) n1 fun h3 n3 hs3 => wpAny_execs_nil (wpAny_execs_nil ?_)
    have _ := trivial
    have k3 : ∀ b o, b ≠ L → b ∉ rl.map (·.1) → s.heap.get? b = some o → h3.get? b = some o := fun b o h1 h2 e => hs3.extBut b o h1 (C1.get h2 e)
    have kk : ∀ b, (b = wy ∨ b = ab ∨ b = D1 ∨ b = D2 ∨ b = Ds ∨ b = rw ∨ b = L + 1 ∨ b ∈ rs.map (·.1) ∨ b ∈ ws.map (·.1)) → ∀ o, s.heap.get? b = some o → h3.get? b = some o := fun b hb o e => k3 b o (hrd b hb).2 (hrd b hb).1 e
    have e1 : ∃ h1 t1, s1 = { s with heap := h1, toks := t1 } := by obtain ⟨h1, t1, rfl, _⟩ := C1; exact ⟨h1, t1, rfl⟩
    refine law_ret (s := { s1 with heap := h3, toks := _ }) (rl := rs1) (told := ns1 ++ [0] ++ ns2) (ns1 := ns1) (ns2 := ns2) (ws := ws) (wy := wy) hh (by omega) n3 (by rw [if_neg (by decide), hms]) (by rw [if_pos rfl]) (by rw [if_neg (by decide), hmc]) (by rw [if_neg (by decide), hmr]) (by rw [if_neg (by decide), hmw]) ?_ (hDs.at fun o e => kk _ (by simp) o e) (hacc.at fun o e => hs3.extBut _ o hrL e) (h1.at fun o e => kk _ (by simp) o e) (h2.at fun o e => kk _ (by simp) o e) ?_ ?_ ?_ hwl hl1 hl2 rfl (eb.trans hrF) fun s' K' => ?_
    · obtain ⟨o, e, d⟩ := hcell; exact ⟨o, kk _ (by simp) _ e, d⟩
    · have ee : (rs1.map fun q : Addr × List Int => Value.ref q.1) = rl.map fun q => Value.ref q.1 := by
        have := congrArg (List.map Value.ref) ea
        simpa [List.map_map, Function.comp_def] using this
      rw [ee]
      exact hrw.at fun o e => kk _ (by simp) o e
    · intro q hq
      refine (hr1 q hq).at fun o e => hs3.extBut _ o (fun h => ?_) e
      have : q.1 ∈ rl.map (·.1) := ea ▸ List.mem_map_of_mem hq
      obtain ⟨q', hq', e'⟩ := List.mem_map.mp this
      exact hrdL q' hq' (e'.trans h)
    · exact ⟨hW.l.at fun o e => kk _ (by simp) o e, fun q hq => by
        obtain ⟨o, e, t, ho, r⟩ := hW.t q hq
        exact ⟨o, e, t, kk _ (by simp only [List.mem_map_of_mem hq, or_true]) o ho, r⟩⟩
    · have k' := Sub.of_keeps K'
      refine hQ s' ?_ (fun b o e => k' b o (k3 b o (ne_of_get e hgL) (fun h => ?_) (SG b o e))) (k' _ _ (k3 _ _ (fun h => ns_ne_tab hn hPc h.symm) (tabR hPc) hPc)) (k' _ _ (k3 _ _ (fun h => ns_ne_tab hn hPp h.symm) (tabR hPp) hPp))
      · obtain ⟨h1, t1, rfl⟩ := e1
        obtain ⟨h9, t9, e9, _⟩ := K'
        exact ⟨h9, t9, e9⟩
      · obtain ⟨q, hq, e'⟩ := List.mem_map.mp h
        have := hgR q hq
        rw [e', e] at this; cases this
  · -- refused
    rcases hcase with ⟨hr, _⟩ | ⟨hr, hsne, hrF⟩
    · rw [hres] at hr; cases hr
    have e1 : ∃ h1 t1, s1 = { s with heap := h1, toks := t1 } := by obtain ⟨h1, t1, rfl, _⟩ := C1; exact ⟨h1, t1, rfl⟩
    have n1 := ns_chg hn C1 (fun h => by obtain ⟨q, hq, e⟩ := List.mem_map.mp h; exact hrdL q hq e)
    -- noteFrame
    refine wpAny_mono (Pres.any (pres_noteFrame _ _) (s := { s1 with heap := h' }) hx (wpAny_looks_onW (Q := fun _ s2 => ∃ h2, s2 = { s1 with heap := h2 } ∧ Heap.HeldW (hideAll s1.heap [L, L']) [lawEnv L f cd] e (.type "RuntimeError") (.ref t) L h2 ∧ h'.UpToSlots h2) hfr rfl hF fun h2 hH hU2 => ⟨h2, rfl, hH, hU2⟩)) ?_ fun _ _ h => h
    rintro _ s2 ⟨⟨h2', rfl, hH, hU2⟩, hx2⟩
    -- setFlight
    refine wpAny_mono (Pres.any (pres_setFlight _ _) (s := { s1 with heap := h2' }) hx2 (wpAny_landsW (Q := fun _ s3 => ∃ h3, s3 = { s1 with heap := h3 } ∧ Heap.FlyingW (hideAll s1.heap [L, L']) [lawEnv L f cd] e (.type "RuntimeError") (.ref t) h3 ∧ h2'.UpToSlots h3) hH fun h3 hF3 hU3 => ⟨h3, rfl, hF3, hU3⟩)) ?_ fun _ _ h => h
    rintro _ s3 ⟨⟨h3, rfl, hF3, hU3⟩, hx3⟩
    have base3 : ∀ b o, b ≠ L → b ≠ L' → s1.heap.get? b = some o → h3.get? b = some o := fun b o a1 a2 e => hF3.1 b o (hideAll_get _ e (by simp [a1, a2]))
    have SG1 : Sub g s1.heap := fun b o e => C1.get (fun h => by
      obtain ⟨q, hq, e'⟩ := List.mem_map.mp h
      have := hgR q hq
      rw [e', e] at this; cases this) (SG b o e)
    have gL' : ∀ b o, g.get? b = some o → b ≠ L' := fun b o e h => by
      have := SG b o e
      rw [h, fL'] at this; cases this
    have SG3 : Sub g h3 := fun b o e => base3 b o (ne_of_get e hgL) (gL' b o e) (SG1 b o e)
    refine wpAny_handleBy_builtin_as (X := "RuntimeError") (T := "RuntimeError") (b := true) F.isExc_RuntimeError F.notTuple_RuntimeError F.self_RuntimeError (ldB (env := lawEnv L f cd) (s := { s1 with heap := h3 }) (S.keep SG3).gl B.rteG B.rteB ⟨rfl, hF3.there, ?_⟩)
    simp only [if_true]
    -- setFlight again
    refine wpAny_mono (Pres.any (pres_setFlight _ _) (s := { s1 with heap := h3 }) hx3 (lands_againW (Q := fun _ s4 => ∃ h4, s4 = { s1 with heap := h4 } ∧ Heap.FlyingW (hideAll s1.heap [L, L']) [lawEnv L f cd] e (.type "RuntimeError") (.ref t) h4 ∧ h3.UpToSlots h4) hF3 fun h4 hF4 hU4 => ⟨h4, rfl, hF4, hU4⟩)) ?_ fun _ _ h => h
    rintro _ s4 ⟨⟨h4, rfl, hF4, hU4⟩, hx4⟩
    have U4 : s1.heap.UpToSlots h4 := ((hU.trans hU2).trans hU3).trans hU4
    have n4 : h4.Ns L m := U4.ns n1
    have T4 : h4.TupAt t [.str "Inconsistent hierarchy" tt] := ((hT.of_slots hU2).of_slots hU3).of_slots hU4
    have base4 : ∀ b o, b ≠ L → b ≠ L' → s1.heap.get? b = some o → h4.get? b = some o := fun b o a1 a2 e => hF4.1 b o (hideAll_get _ e (by simp [a1, a2]))
    obtain ⟨oe, ve, heo, hed, he2⟩ := id hx4
    have heL : e ≠ L := fun q => by
      obtain ⟨o, es, ep, e', hd, _⟩ := n4
      rw [q, e'] at heo; cases heo; rw [hd] at hed; cases hed
    have htL : t ≠ L := fun q => by
      obtain ⟨o, es, ep, e', hd, _⟩ := n4
      obtain ⟨o2, k2, e2, _, hd2⟩ := T4
      rw [q, e'] at e2; cases e2; rw [hd] at hd2; cases hd2
    refine stN' (env := lawEnv L f cd) (s := { s1 with heap := h4 }) n4 fun h5 n5 hs5 => ?_
    dsimp only at hs5 n5
    have k5 : ∀ b o, b ≠ L → b ≠ L' → b ∉ rl.map (·.1) → s.heap.get? b = some o → h5.get? b = some o := fun b o a1 a2 a3 e => hs5.extBut b o a1 (base4 b o a1 a2 (C1.get a3 e))
    have neL' : ∀ b, (∃ o, s.heap.get? b = some o) → b ≠ L' := fun b l => Ne.symm (ne_live l fL')
    have kk : ∀ b, (b = wy ∨ b = ab ∨ b = D1 ∨ b = D2 ∨ b = Ds ∨ b = rw ∨ b = L + 1 ∨ b ∈ rs.map (·.1) ∨ b ∈ ws.map (·.1)) → ∀ o, s.heap.get? b = some o → h5.get? b = some o := fun b hb o e => k5 b o (hrd b hb).2 (neL' b (live b hb)) (hrd b hb).1 e
    have SG5 : Sub g h5 := fun b o e' => hs5.extBut b o (ne_of_get e' hgL) (base4 b o (ne_of_get e' hgL) (gL' b o e') (SG1 b o e'))
    have rows5 : ∀ q ∈ rs1, IntL h5 q.1 q.2 := fun q hq => by
      have hm : q.1 ∈ rl.map (·.1) := ea ▸ List.mem_map_of_mem hq
      obtain ⟨q', hq', e'⟩ := List.mem_map.mp hm
      have a1 : q.1 ≠ L := fun h => hrdL q' hq' (e'.trans h)
      have a2 : q.1 ≠ L' := e' ▸ neL' _ (hrows q' hq').live
      exact (hr1 q hq).at fun o e => hs5.extBut _ o a1 (base4 _ o a1 a2 e)
    have ee : (rs1.map fun q : Addr × List Int => Value.ref q.1) = rl.map fun q => Value.ref q.1 := by
      have := congrArg (List.map Value.ref) ea
      simpa [List.map_map, Function.comp_def] using this
    have hX5 : h5.ExcAt e "RuntimeError" (.ref t) := by
      obtain ⟨_, _, _, oe', vs', T, oT, ts, he', ⟨hc', h0'⟩, hd', _⟩ := hF4
      exact ⟨oe', vs', hs5.extBut _ _ heL he', hc', hd', h0'⟩
    have T5 : h5.TupAt t [.str "Inconsistent hierarchy" tt] := by obtain ⟨o, k, e', r⟩ := T4; exact ⟨o, k, hs5.extBut _ _ htL e', r⟩
    refine wpAny_mono (law_hsuite (A := A.mark (some (.ref e))) (E := fun _ _ => False) (s := { s1 with heap := h5, toks := _ }) (eh := e) (L := L) (f := f) (cd := cd) (g := g) (rs := rs) (ws := ws) (wy := wy) (ab := ab) (rw := rw) (D2 := D2) (Ds := Ds) (t := t) (tt := tt) (ns2 := ns2) (sh := sh) (rl := rs1)
      (Q := fun fl s6 => fl = .ret (.bool true) ∧ Chg (· = L) { s1 with heap := h5, toks := s1.toks + 1 } s6 ∧ ∃ m', s6.heap.Ns L m') rfl hu (hx4.at fun o e' => hs5.extBut _ o heL e') B S SG5 hgL n5 (by rw [if_neg (by decide), hmw]) (by rw [if_neg (by decide), hma]) (by rw [if_neg (by decide), hms]) (by rw [if_neg (by decide), hmr]) (by rw [if_pos rfl]) ?_ (h2.at fun o e => kk _ (by simp) o e) (hDs.at fun o e => kk _ (by simp) o e) hsne hX5 T5 htL ?_ (by omega) hrr ?_ hwl hin ?_ rows5 ?_ (eb.trans hrF) fun s6 C6 n6 => ⟨rfl, C6, n6⟩) ?_ fun _ _ h => h.elim
    · obtain ⟨o, e', d⟩ := hcell; exact ⟨o, kk _ (by simp) _ e', d⟩
    · exact ⟨hM.l.at fun o e => kk _ (by simp) o e, fun r hr => (hM.r r hr).at fun o e => kk _ (by simp only [List.mem_map_of_mem hr, or_true, true_or]) o e⟩
    · exact ⟨hW.l.at fun o e => kk _ (by simp) o e, fun q hq => by
        obtain ⟨o, e, t, ho, r⟩ := hW.t q hq
        exact ⟨o, e, t, kk _ (by simp only [List.mem_map_of_mem hq, or_true]) o ho, r⟩⟩
    · rw [ee]; exact hrw.at fun o e => kk _ (by simp) o e
    · intro b hb
      rcases hb with h | h | h | h | h | h | h | h | h
      · exact (hrd b (by simp [h])).2
      · exact (hrd b (by simp [h])).2
      · exact (hrd b (by simp [h])).2
      · exact (hrd b (by simp [h])).2
      · exact (hrd b (by simp [h])).2
      · exact h ▸ heL
      · exact (hrd b (by simp only [h, or_true, true_or])).2
      · exact (hrd b (by simp only [h, or_true])).2
      · rw [ea] at h
        obtain ⟨q', hq', e'⟩ := List.mem_map.mp h
        exact e' ▸ hrdL q' hq'
    · rintro fl s6 ⟨rfl, C6, m6, n6⟩
      refine wpAny_nameGoes (env := lawEnv L f cd) rfl n6 rfl fun h7 m7 n7 hs7 => ?_
      have k7 : ∀ b o, b ≠ L → h5.get? b = some o → h7.get? b = some o := fun b o a1 e' => hs7.extBut b o a1 (C6.get a1 e')
      have tab7 : ∀ {P t}, s.heap.get? P = some (tabObj t) → h7.get? P = some (tabObj t) := fun {P t} hP =>
        k7 _ _ (fun h => ns_ne_tab hn hP h.symm) (k5 _ _ (fun h => ns_ne_tab hn hP h.symm) (neL' _ ⟨_, hP⟩) (tabR hP) hP)
      refine hQ _ ?_ (fun b o e' => k7 b o (ne_of_get e' hgL) (SG5 b o e')) (tab7 hPc) (tab7 hPp)
      obtain ⟨h1, t1, rfl⟩ := e1
      obtain ⟨h9, t9, rfl, _⟩ := C6
      exact ⟨h7, _, rfl⟩
end
end Mine

end

/- Pure8 -/
section
namespace Mine
open PySem

theorem parF_lt (ns : List Int) : ∀ j, 1 ≤ j → parF ns j < j := fun j hj => by
  have := parI_range ns hj
  unfold parF; omega

/-- the rows of above are the ways down -/
theorem abF_row (ns : List Int) : ∀ i k, k ≤ i → (abF ns i).getD k [] = (upI (parF ns) k).reverse
  | 0, k, h => by
    have : k = 0 := by omega
    subst this
    simp [abF, upI, upP_zero]
  | i + 1, k, h => by
    have hl := abF_len ns i
    by_cases hk : k ≤ i
    · rw [abF, List.getD, List.getElem?_append_left (by omega)]
      exact abF_row ns i k hk
    · have : k = i + 1 := by omega
      subst this
      rw [abF, List.getD, List.getElem?_append_right (by omega), hl]
      simp only [Nat.sub_self, List.getElem?_cons_zero, Option.getD_some]
      have hp := parF_lt ns (i + 1) (by omega)
      rw [abF_row ns i (parF ns (i + 1)) (by omega)]
      simp only [upI]
      rw [upP_pos (by omega) hp]
      simp

theorem famF_mem (ns : List Int) : ∀ i j (y : Int), y ∈ famF ns i j ↔ ∃ k : Nat, 1 ≤ k ∧ k ≤ i ∧ y = k ∧ (oneI ns k = j ∨ othI ns k = j)
  | 0, j, y => by
    simp only [famF, List.not_mem_nil, false_iff]
    rintro ⟨k, h1, h2, _⟩; omega
  | i + 1, j, y => by
    simp only [famF, List.mem_append]
    rw [famF_mem ns i j y]
    constructor
    · rintro ((⟨k, h1, h2, h3, h4⟩ | h) | h)
      · exact ⟨k, h1, by omega, h3, h4⟩
      · split at h
        · rename_i hj
          exact ⟨i + 1, by omega, Nat.le_refl _, by simpa using h, .inl hj⟩
        · simp at h
      · split at h
        · rename_i hj
          exact ⟨i + 1, by omega, Nat.le_refl _, by simpa using h, .inr hj⟩
        · simp at h
    · rintro ⟨k, h1, h2, h3, h4⟩
      by_cases hk : k ≤ i
      · exact .inl (.inl ⟨k, h1, hk, h3, h4⟩)
      · have : k = i + 1 := by omega
        subst this
        rcases h4 with h4 | h4
        · exact .inl (.inr (by rw [if_pos h4]; simpa using h3))
        · exact .inr (by rw [if_pos h4]; simpa using h3)

theorem tbl_none {tb : Int → Option Value} {l : List (Addr × List Int)} {y : Int} (h : ∀ q ∈ l, y ∉ q.2) : tblFrom tb l y = tb y := by
  induction l generalizing tb with
  | nil => rfl
  | cons q l ih =>
    show tblFrom (setAll tb q.1 q.2) l y = tb y
    rw [ih fun x hx => h x (List.mem_cons_of_mem _ hx), setAll, if_neg (h q List.mem_cons_self)]
theorem tbl_last {tb : Int → Option Value} {l1 l2 : List (Addr × List Int)} {q : Addr × List Int} {y : Int} (hq : y ∈ q.2) (h : ∀ x ∈ l2, y ∉ x.2) : tblFrom tb (l1 ++ q :: l2) y = some (.ref q.1) := by
  unfold tblFrom
  rw [List.foldl_append, List.foldl_cons]
  show tblFrom (setAll _ q.1 q.2) l2 y = _
  rw [tbl_none h, setAll, if_pos hq]

theorem famsF_split (ns : List Int) (fams : List Addr) {j : Nat} (hj : j < fams.length) :
    ∃ l1 l2, famsF ns fams = l1 ++ (fams.getD j 0, famF ns (numsF ns).length j) :: l2 ∧ (∀ x ∈ l1, ∃ i, i < j ∧ x.2 = famF ns (numsF ns).length i) ∧ (∀ x ∈ l2, ∃ i, j < i ∧ x.2 = famF ns (numsF ns).length i) := by
  refine ⟨((List.range fams.length).take j).map fun i => (fams.getD i 0, famF ns (numsF ns).length i), ((List.range fams.length).drop (j + 1)).map fun i => (fams.getD i 0, famF ns (numsF ns).length i), ?_, ?_, ?_⟩
  · unfold famsF
    have e : List.range fams.length = (List.range fams.length).take j ++ j :: (List.range fams.length).drop (j + 1) := by
      conv => lhs; rw [← List.take_append_drop j (List.range fams.length)]
      congr 1
      rw [List.drop_eq_getElem_cons (by simpa using hj)]
      simp
    conv => lhs; rw [e]
    rw [List.map_append, List.map_cons]
  · intro x hx
    obtain ⟨i, hi, rfl⟩ := List.mem_map.mp hx
    refine ⟨i, ?_, rfl⟩
    obtain ⟨n, hn, e⟩ := List.mem_iff_getElem.mp hi
    simp only [List.length_take, List.length_range] at hn
    simp only [List.getElem_take, List.getElem_range] at e
    omega
  · intro x hx
    obtain ⟨i, hi, rfl⟩ := List.mem_map.mp hx
    refine ⟨i, ?_, rfl⟩
    obtain ⟨n, hn, e⟩ := List.mem_iff_getElem.mp hi
    simp only [List.getElem_drop, List.getElem_range] at e
    omega

theorem tbl_hand (ns : List Int) {fams : List Addr} (hl : fams.length = (numsF ns).length + 1) {j : Nat} (h1 : 1 ≤ j) (h2 : j ≤ (numsF ns).length) : ∃ a, fams[parF ns j]? = some a ∧ tbl (handF ns fams) j = some (.ref a) := by
  have r1 := oneI_range ns h1
  have r2 := othI_range ns h1
  have rp := parI_range ns h1
  have hpl : parF ns j < fams.length := by unfold parF; omega
  have hpi : ((parF ns j : Nat) : Int) = parI ns j := by unfold parF; omega
  refine ⟨fams.getD (parF ns j) 0, by simp [hpl], ?_⟩
  obtain ⟨l1, l2, e, hb, ha⟩ := famsF_split ns fams hpl
  have hmem : ((j : Nat) : Int) ∈ famF ns (numsF ns).length (parF ns j) := (famF_mem ns _ _ _).mpr ⟨j, h1, h2, rfl, by
    rw [hpi]; unfold parI
    split <;> split <;> simp⟩
  have hother : ∀ i : Nat, ((j : Nat) : Int) ∈ famF ns (numsF ns).length i → oneI ns j = i ∨ othI ns j = i := fun i hi => by
    obtain ⟨k, _, _, h3, h4⟩ := (famF_mem ns _ _ _).mp hi
    have : k = j := by omega
    subst this
    exact h4
  unfold handF
  by_cases hodd : oddF ns = true
  · rw [if_pos hodd, e]
    rw [List.reverse_append, List.reverse_cons, List.append_assoc, List.singleton_append]
    refine tbl_last hmem fun x hx hy => ?_
    obtain ⟨i, hi, ex⟩ := hb x (List.mem_reverse.mp hx)
    rw [ex] at hy
    have := hother i hy
    have : parI ns j ≤ i := by
      unfold parI; rw [if_pos hodd]
      split <;> omega
    omega
  · rw [if_neg hodd, e]
    refine tbl_last hmem fun x hx hy => ?_
    obtain ⟨i, hi, ex⟩ := ha x hx
    rw [ex] at hy
    have := hother i hy
    have : (i : Int) ≤ parI ns j := by
      unfold parI; rw [if_neg hodd]
      split <;> omega
    omega

theorem tbl_zero (ns : List Int) (fams : List Addr) : tbl (handF ns fams) 0 = none := by
  refine tbl_none fun q hq h => ?_
  have hq' : q ∈ famsF ns fams := by
    unfold handF at hq
    split at hq
    · exact List.mem_reverse.mp hq
    · exact hq
  obtain ⟨j, _, rfl⟩ := List.mem_map.mp hq'
  obtain ⟨k, h1, _, h3, _⟩ := (famF_mem ns _ _ _).mp h
  omega

theorem waysF_mem (ns : List Int) : ∀ i, ∀ q ∈ waysF ns i, ∃ k : Nat, q.1 = k ∧ 1 ≤ k ∧ k ≤ i
  | 0, q, h => by simp [waysF] at h
  | i + 1, q, h => by
    simp only [waysF] at h
    have old : q ∈ waysF ns i → ∃ k : Nat, q.1 = k ∧ 1 ≤ k ∧ k ≤ i + 1 := fun h => by
      obtain ⟨k, a, b, c⟩ := waysF_mem ns i q h
      exact ⟨k, a, b, by omega⟩
    split at h
    · rcases List.mem_append.mp h with h | h
      · exact old h
      · rw [List.mem_singleton.mp h]; exact ⟨i + 1, rfl, by omega, Nat.le_refl _⟩
    · split at h
      · rcases List.mem_cons.mp h with h | h
        · rw [h]; exact ⟨i + 1, rfl, by omega, Nat.le_refl _⟩
        · exact old h
      · exact old h
theorem waysF_nodup (ns : List Int) : ∀ i, ((waysF ns i).map (·.1)).Nodup
  | 0 => by simp [waysF]
  | i + 1 => by
    have ih := waysF_nodup ns i
    have hnew : ((i + 1 : Nat) : Int) ∉ (waysF ns i).map (·.1) := fun h => by
      obtain ⟨q, hq, e⟩ := List.mem_map.mp h
      obtain ⟨k, a, b, c⟩ := waysF_mem ns i q hq
      omega
    simp only [waysF]
    split
    · rw [List.map_append, List.nodup_append]
      refine ⟨ih, by simp, fun a ha b hb e => ?_⟩
      simp only [List.map_cons, List.map_nil, List.mem_singleton] at hb
      exact hnew (hb ▸ e ▸ ha)
    · split
      · rw [List.map_cons, List.nodup_cons]
        exact ⟨hnew, ih⟩
      · exact ih
theorem waysF_ne (ns : List Int) : waysF ns (numsF ns).length ≠ [] := by
  have hl := numsF_len ns
  obtain ⟨i, hi⟩ : ∃ i, (numsF ns).length = i + 1 := ⟨(numsF ns).length - 1, by omega⟩
  rw [hi]
  have hk : kindF ns (i + 1) = 0 := by
    unfold kindF numF
    rw [show i + 1 - 1 = i by omega]
    have : (numsF ns).getD i 0 = 10 := by
      unfold numsF at hi ⊢
      rw [List.length_append] at hi
      rw [List.getD, List.getElem?_append_right (by simp at hi ⊢; omega)]
      have : i - (ns.take 8).length = 4 := by simp at hi ⊢; omega
      rw [this]; rfl
    rw [this]; rfl
  simp only [waysF]
  rw [if_pos (by omega)]
  simp
end Mine

end

/- Pure9 -/
section
namespace Mine
open PySem
section
variable {ns : List Int} {rs : List (Addr × List Int)}

/-- rs holds the rows of above -/
def RsOk (ns : List Int) (rs : List (Addr × List Int)) : Prop := rs.map (·.2) = abF ns (numsF ns).length
theorem RsOk.len (h : RsOk ns rs) : rs.length = (numsF ns).length + 1 := by have := congrArg List.length h; rwa [List.length_map, abF_len] at this
theorem RsOk.rowEq (h : RsOk ns rs) {k : Int} (h0 : 0 ≤ k) (hn : k ≤ (numsF ns).length) : row rs k = (PI (parF ns) k).reverse := by
  unfold RsOk at h
  show (rs.map (·.2)).getD k.toNat [] = _
  rw [h, abF_row ns _ _ (by omega)]
  rfl
theorem RsOk.inAbIff (h : RsOk ns rs) {x k : Int} (h0 : 0 ≤ k) (hn : k ≤ (numsF ns).length) : inAb rs x k = true ↔ x ∈ PI (parF ns) k := by
  show ((row rs k).any fun y => y == x) = true ↔ _
  rw [h.rowEq h0 hn]
  simp only [List.any_eq_true, beq_iff_eq]
  constructor
  · rintro ⟨y, hy, rfl⟩; exact List.mem_reverse.mp hy
  · intro hx; exact ⟨x, List.mem_reverse.mpr hx, rfl⟩
theorem PI_range {par : Nat → Nat} {x k : Int} (h : x ∈ PI par k) (h0 : 0 ≤ k) : 0 ≤ x ∧ x ≤ k := by
  obtain ⟨a, ha, rfl⟩ := mem_upI.mp h
  have := up_le _ _ ha
  omega
theorem RsOk.depthEq (h : RsOk ns rs) {x : Int} (h0 : 0 ≤ x) (hn : x ≤ (numsF ns).length) : ((row rs x).length : Int) = dI (parF ns) x := by
  rw [h.rowEq h0 hn]
  simp [PI, dI]
theorem dI_range (par : Nat → Nat) {x : Int} {n : Nat} (hx : x ≤ n) : 0 ≤ dI par x ∧ dI par x ≤ n + 1 := by
  have := upP_len par x.toNat
  unfold dI
  omega

theorem mem_prsOf {ws : List (Int × Bool)} {b : Bool} {a : Int × Int} : a ∈ prsOf ws b ↔ ∃ (i : Nat) (k : Int), a = ((i : Int), k) ∧ ws[i]? = some (k, b) := by
  unfold prsOf
  simp only [List.mem_map, List.mem_filter, List.mem_range'_1]
  constructor
  · rintro ⟨i, ⟨⟨_, h2⟩, h3⟩, rfl⟩
    have hi : i < ws.length := by omega
    refine ⟨i, _, rfl, ?_⟩
    have e : ws.getD i (0, false) = ws[i] := by simp [hi]
    rw [e] at h3 ⊢
    rw [List.getElem?_eq_getElem hi]
    have : ws[i].2 = b := by simpa using h3
    rw [← this]
  · rintro ⟨i, k, rfl, h⟩
    have hi := (List.getElem?_eq_some_iff.mp h).1
    have e : ws.getD i (0, false) = (k, b) := by rw [List.getD, h]; rfl
    exact ⟨i, ⟨⟨Nat.zero_le _, by omega⟩, by rw [e]; simp⟩, by rw [e]⟩

abbrev W0 (ns : List Int) : List (Int × Bool) := waysF ns (numsF ns).length
abbrev P0 (ns : List Int) : Int → List Int := PI (parF ns)
theorem tree0 (ns : List Int) : Tree (P0 ns) (dI (parF ns)) := tree_up (parF_lt ns)
theorem w_range (ns : List Int) {q : Int × Bool} (h : q ∈ W0 ns) : 1 ≤ q.1 ∧ q.1 ≤ (numsF ns).length := by
  obtain ⟨k, e, h1, h2⟩ := waysF_mem ns _ q h
  omega
theorem w_self (ns : List Int) : ∀ q ∈ W0 ns, q.1 ∈ P0 ns q.1 ∧ q.1 ≠ 0 := fun q hq => by
  have := w_range ns hq
  refine ⟨mem_upI.mpr ⟨q.1.toNat, up_self _, by omega⟩, by omega⟩

theorem mem_nodes (h : RsOk ns rs) (b : Bool) (x : Int) : x ∈ (nodesOf rs (prsOf (W0 ns) b)).map (fun n : Nat => (n : Int)) ↔ x ≠ 0 ∧ ∃ q ∈ W0 ns, q.2 = b ∧ x ∈ P0 ns q.1 := by
  unfold nodesOf
  simp only [List.mem_map, List.mem_filter, List.mem_range'_1]
  have hl := h.len
  constructor
  · rintro ⟨n, ⟨⟨h1, h2⟩, h3⟩, rfl⟩
    refine ⟨by omega, ?_⟩
    rw [hasAb_places] at h3
    obtain ⟨p, hp⟩ := List.exists_mem_of_ne_nil _ h3
    obtain ⟨a, ha, _⟩ := List.mem_map.mp hp
    obtain ⟨ha1, ha2⟩ := List.mem_filter.mp ha
    obtain ⟨i, k, rfl, hi⟩ := mem_prsOf.mp ha1
    have hm := List.mem_of_getElem? hi
    have hr := w_range ns hm
    exact ⟨_, hm, rfl, (h.inAbIff (by omega) hr.2).mp ha2⟩
  · rintro ⟨h0, q, hq, rfl, hx⟩
    have hr := w_range ns hq
    have hxr := PI_range hx (by omega)
    refine ⟨x.toNat, ⟨⟨by omega, by omega⟩, ?_⟩, by omega⟩
    rw [hasAb_places]
    obtain ⟨i, hi⟩ := List.mem_iff_getElem?.mp hq
    refine List.ne_nil_of_mem (a := (i : Int)) (List.mem_map.mpr ⟨((i : Int), q.1), List.mem_filter.mpr ⟨mem_prsOf.mpr ⟨i, q.1, rfl, hi⟩, ?_⟩, rfl⟩)
    refine (h.inAbIff (by omega) hr.2).mpr ?_
    rw [show ((x.toNat : Nat) : Int) = x by omega]; exact hx
theorem mem_nodesC (h : RsOk ns rs) (x : Int) : x ∈ (nodesOf rs (prsOf (W0 ns) true)).map (fun n : Nat => (n : Int)) ↔ Cn (P0 ns) (W0 ns) x := mem_nodes h true x
theorem mem_nodesW (h : RsOk ns rs) (x : Int) : x ∈ (nodesOf rs (prsOf (W0 ns) false)).map (fun n : Nat => (n : Int)) ↔ Wn (P0 ns) (W0 ns) x := mem_nodes h false x

theorem mem_low (h : RsOk ns rs) {a : Int × Int} : a ∈ (prsOf (W0 ns) true).filter (lowestOf rs (prsOf (W0 ns) true)) ↔ ∃ (i : Nat) (k : Int), a = ((i : Int), k) ∧ Low (P0 ns) (W0 ns) i k := by
  rw [List.mem_filter, mem_prsOf]
  have key : ∀ k : Int, (k, true) ∈ W0 ns → ∀ i : Int, lowestOf rs (prsOf (W0 ns) true) (i, k) = true ↔ ∀ q ∈ W0 ns, q.2 = true → k ∈ P0 ns q.1 → q.1 = k := by
    intro k hk i
    unfold lowestOf
    simp only [decide_eq_true_eq, List.map_eq_nil_iff, List.filter_eq_nil_iff]
    constructor
    · intro H q hq hu hkq
      refine Classical.byContradiction fun hne => ?_
      obtain ⟨j, hj⟩ := List.mem_iff_getElem?.mp hq
      have hr := w_range ns hq
      have := H ((j : Int), q.1) (mem_prsOf.mpr ⟨j, q.1, rfl, by rw [hj, ← hu]⟩)
      simp only [Bool.and_eq_true, bne_iff_ne, ne_eq, not_and] at this
      exact this hne ((h.inAbIff (by omega) hr.2).mpr hkq)
    · intro H a ha
      obtain ⟨j, k', rfl, hj⟩ := mem_prsOf.mp ha
      have hm := List.mem_of_getElem? hj
      have hr := w_range ns hm
      simp only [Bool.and_eq_true, bne_iff_ne, ne_eq, not_and]
      intro hne hin
      exact hne (H _ hm rfl ((h.inAbIff (by omega) hr.2).mp hin))
  constructor
  · rintro ⟨⟨i, k, rfl, hi⟩, hl⟩
    exact ⟨i, k, rfl, hi, (key k (List.mem_of_getElem? hi) _).mp hl⟩
  · rintro ⟨i, k, rfl, hi, hl⟩
    exact ⟨⟨i, k, rfl, hi⟩, (key k (List.mem_of_getElem? hi) _).mpr hl⟩

theorem mem_placesC (h : RsOk ns rs) {x m : Int} : m ∈ placesOf rs ((prsOf (W0 ns) true).filter (lowestOf rs (prsOf (W0 ns) true))) x ↔ ∃ (i : Nat) (k : Int), m = i ∧ Low (P0 ns) (W0 ns) i k ∧ x ∈ P0 ns k := by
  unfold placesOf
  simp only [List.mem_map, List.mem_filter (p := fun a : Int × Int => inAb rs x a.2)]
  constructor
  · rintro ⟨a, ⟨ha, hin⟩, rfl⟩
    obtain ⟨i, k, rfl, hl⟩ := (mem_low h).mp ha
    have hr := w_range ns (List.mem_of_getElem? hl.1)
    exact ⟨i, k, rfl, hl, (h.inAbIff (by omega) hr.2).mp hin⟩
  · rintro ⟨i, k, rfl, hl, hx⟩
    have hr := w_range ns (List.mem_of_getElem? hl.1)
    exact ⟨((i : Int), k), ⟨(mem_low h).mpr ⟨i, k, rfl, hl⟩, (h.inAbIff (by omega) hr.2).mpr hx⟩, rfl⟩
theorem mem_placesW (h : RsOk ns rs) {x m : Int} : m ∈ placesOf rs (prsOf (W0 ns) false) x ↔ ∃ (i : Nat) (k : Int), m = i ∧ (W0 ns)[i]? = some (k, false) ∧ x ∈ P0 ns k := by
  unfold placesOf
  simp only [List.mem_map, List.mem_filter (p := fun a : Int × Int => inAb rs x a.2)]
  constructor
  · rintro ⟨a, ⟨ha, hin⟩, rfl⟩
    obtain ⟨i, k, rfl, hl⟩ := mem_prsOf.mp ha
    have hr := w_range ns (List.mem_of_getElem? hl)
    exact ⟨i, k, rfl, hl, (h.inAbIff (by omega) hr.2).mp hin⟩
  · rintro ⟨i, k, rfl, hl, hx⟩
    have hr := w_range ns (List.mem_of_getElem? hl)
    exact ⟨((i : Int), k), ⟨mem_prsOf.mpr ⟨i, k, rfl, hl⟩, (h.inAbIff (by omega) hr.2).mpr hx⟩, rfl⟩
end
end Mine

end

/- Pure10 -/
section
namespace Mine
open PySem
section
variable {ns : List Int} {rs : List (Addr × List Int)}

theorem low_below {P : Int → List Int} {d : Int → Int} (T : Tree P d) {ws : List (Int × Bool)} (hself : ∀ q ∈ ws, q.1 ∈ P q.1 ∧ q.1 ≠ 0) {x : Int} (hx : Cn P ws x) : ∃ i k, Low P ws i k ∧ x ∈ P k := by
  classical
  obtain ⟨h0, q, hq, hu, hxq⟩ := hx
  let l := (ws.filter fun q' => q'.2 && decide (q.1 ∈ P q'.1)).map (·.1)
  have inl : ∀ q' ∈ ws, q'.2 = true → q.1 ∈ P q'.1 → q'.1 ∈ l := fun q' h1 h2 h3 => List.mem_map.mpr ⟨q', List.mem_filter.mpr ⟨h1, by simp [h2, h3]⟩, rfl⟩
  obtain ⟨k, hk, hm⟩ := exists_max d (l := l) (List.ne_nil_of_mem (inl q hq hu (hself q hq).1))
  obtain ⟨q', hq', rfl⟩ := List.mem_map.mp hk
  obtain ⟨hq1, hq2⟩ := List.mem_filter.mp hq'
  simp only [Bool.and_eq_true, decide_eq_true_eq] at hq2
  obtain ⟨i, hi⟩ := List.mem_iff_getElem?.mp hq1
  refine ⟨i, q'.1, ⟨by rw [hi, ← hq2.1], fun q2 h1 h2 h3 => ?_⟩, T.trans hxq hq2.2⟩
  refine Classical.byContradiction fun hne => ?_
  have a1 := hm q2.1 (inl q2 h1 h2 (T.trans hq2.2 h3))
  have a2 := T.dep h3 (hself q2 h1).1 (Ne.symm hne)
  omega

noncomputable def mxC (ns : List Int) (rs : List (Addr × List Int)) (x : Int) : Int :=
  open Classical in if h : ∃ m, m ∈ placesOf rs ((prsOf (W0 ns) true).filter (lowestOf rs (prsOf (W0 ns) true))) x ∧ ∀ a ∈ placesOf rs ((prsOf (W0 ns) true).filter (lowestOf rs (prsOf (W0 ns) true))) x, a ≤ m then Classical.choose h else 0
noncomputable def mnW (ns : List Int) (rs : List (Addr × List Int)) (x : Int) : Int :=
  open Classical in if h : ∃ m, m ∈ placesOf rs (prsOf (W0 ns) false) x ∧ ∀ a ∈ placesOf rs (prsOf (W0 ns) false) x, m ≤ a then Classical.choose h else 0
noncomputable def kcC (ns : List Int) (rs : List (Addr × List Int)) (x : Int) : Int := mxC ns rs x * 1000 - dI (parF ns) x
noncomputable def kcW (ns : List Int) (rs : List (Addr × List Int)) (x : Int) : Int := mnW ns rs x * 1000 + dI (parF ns) x

theorem exists_min (f : Int → Int) {l : List Int} (h : l ≠ []) : ∃ x ∈ l, ∀ y ∈ l, f x ≤ f y := by
  obtain ⟨x, hx, hm⟩ := exists_max (fun y => - f y) h
  exact ⟨x, hx, fun y hy => by have := hm y hy; omega⟩

theorem mxC_spec (h : RsOk ns rs) {x : Int} (hx : Cn (P0 ns) (W0 ns) x) : mxC ns rs x ∈ placesOf rs ((prsOf (W0 ns) true).filter (lowestOf rs (prsOf (W0 ns) true))) x ∧ ∀ a ∈ placesOf rs ((prsOf (W0 ns) true).filter (lowestOf rs (prsOf (W0 ns) true))) x, a ≤ mxC ns rs x := by
  obtain ⟨i, k, hl, hxk⟩ := low_below (tree0 ns) (w_self ns) hx
  have hex : ∃ m, m ∈ placesOf rs ((prsOf (W0 ns) true).filter (lowestOf rs (prsOf (W0 ns) true))) x ∧ ∀ a ∈ placesOf rs ((prsOf (W0 ns) true).filter (lowestOf rs (prsOf (W0 ns) true))) x, a ≤ m := by
    obtain ⟨m, h1, h2⟩ := exists_max (fun y => y) (List.ne_nil_of_mem ((mem_placesC h).mpr ⟨i, k, rfl, hl, hxk⟩))
    exact ⟨m, h1, h2⟩
  unfold mxC
  rw [dif_pos hex]
  exact Classical.choose_spec hex
theorem mnW_spec (h : RsOk ns rs) {x : Int} (hx : Wn (P0 ns) (W0 ns) x) : mnW ns rs x ∈ placesOf rs (prsOf (W0 ns) false) x ∧ ∀ a ∈ placesOf rs (prsOf (W0 ns) false) x, mnW ns rs x ≤ a := by
  obtain ⟨h0, q, hq, hu, hxq⟩ := hx
  obtain ⟨i, hi⟩ := List.mem_iff_getElem?.mp hq
  have hex : ∃ m, m ∈ placesOf rs (prsOf (W0 ns) false) x ∧ ∀ a ∈ placesOf rs (prsOf (W0 ns) false) x, m ≤ a := by
    obtain ⟨m, h1, h2⟩ := exists_min (fun y => y) (List.ne_nil_of_mem ((mem_placesW h).mpr ⟨i, q.1, rfl, by rw [hi, ← hu], hxq⟩))
    exact ⟨m, h1, h2⟩
  unfold mnW
  rw [dif_pos hex]
  exact Classical.choose_spec hex

theorem node_range {b : Bool} {x : Int} (hx : x ≠ 0 ∧ ∃ q ∈ W0 ns, q.2 = b ∧ x ∈ P0 ns q.1) : 0 ≤ x ∧ x ≤ (numsF ns).length := by
  obtain ⟨h0, q, hq, _, hxq⟩ := hx
  have hr := w_range ns hq
  have := PI_range hxq (by omega)
  omega
theorem node_depth {b : Bool} {x : Int} (hx : x ≠ 0 ∧ ∃ q ∈ W0 ns, q.2 = b ∧ x ∈ P0 ns q.1) : 0 ≤ dI (parF ns) x ∧ dI (parF ns) x ≤ 14 := by
  have h1 := node_range hx
  have h2 := dI_range (parF ns) h1.2
  have := numsF_len ns
  omega

theorem ordC (h : RsOk ns rs) : OrdC (P0 ns) (dI (parF ns)) (W0 ns) (mxC ns rs) (kcC ns rs) where
  at_ := fun x hx => by
    obtain ⟨i, k, e, hl, hxk⟩ := (mem_placesC h).mp (mxC_spec h hx).1
    exact ⟨i, k, hl, hxk, e⟩
  max := fun x i k hx hl hxk => (mxC_spec h hx).2 _ ((mem_placesC h).mpr ⟨i, k, rfl, hl, hxk⟩)
  lex := fun a b ha hb => by
    have h1 := node_depth (b := true) ha
    have h2 := node_depth (b := true) hb
    unfold kcC
    omega
theorem ordW (h : RsOk ns rs) : OrdW (P0 ns) (dI (parF ns)) (W0 ns) (mnW ns rs) (kcW ns rs) where
  at_ := fun x hx => by
    obtain ⟨i, k, e, hl, hxk⟩ := (mem_placesW h).mp (mnW_spec h hx).1
    exact ⟨i, k, hl, hxk, e⟩
  min := fun x i k hx hl hxk => (mnW_spec h hx).2 _ ((mem_placesW h).mpr ⟨i, k, rfl, hl, hxk⟩)
  lex := fun a b ha hb => by
    have h1 := node_depth (b := false) ha
    have h2 := node_depth (b := false) hb
    unfold kcW
    omega

theorem same_path {a b k : Int} (T : Tree (P0 ns) (dI (parF ns))) (ha : a ∈ P0 ns k) (hb : b ∈ P0 ns k) (hd : dI (parF ns) a = dI (parF ns) b) : a = b := by
  refine Classical.byContradiction fun hne => ?_
  rcases T.lin ha hb with h | h
  · have := T.dep h (T.self hb) hne; omega
  · have := T.dep h (T.self ha) (Ne.symm hne); omega

theorem keyedC (h : RsOk ns rs) : Keyed rs ((prsOf (W0 ns) true).filter (lowestOf rs (prsOf (W0 ns) true))) ((nodesOf rs (prsOf (W0 ns) true)).map fun n : Nat => (n : Int)) true (mxC ns rs) (kcC ns rs) where
  ne := fun x hx => List.ne_nil_of_mem (mxC_spec h ((mem_nodesC h x).mp hx)).1
  top := fun x hx M hM hmax => by
    obtain ⟨h1, h2⟩ := mxC_spec h ((mem_nodesC h x).mp hx)
    have a1 := h2 M hM
    have a2 := hmax _ h1
    simp only [if_true] at a2
    omega
  lex := fun a ha b hb => by
    have hA := (mem_nodesC h a).mp ha
    have hB := (mem_nodesC h b).mp hb
    have rA := node_range (b := true) hA
    have rB := node_range (b := true) hB
    rw [h.depthEq rA.1 rA.2, h.depthEq rB.1 rB.2]
    have h1 := node_depth (b := true) hA
    have h2 := node_depth (b := true) hB
    simp only [if_true]
    unfold kcC
    omega
  inj := fun a ha b hb e => by
    have hA := (mem_nodesC h a).mp ha
    have hB := (mem_nodesC h b).mp hb
    have h1 := node_depth (b := true) hA
    have h2 := node_depth (b := true) hB
    unfold kcC at e
    obtain ⟨i, k, e1, hl, hak⟩ := (mem_placesC h).mp (mxC_spec h hA).1
    obtain ⟨j, k', e2, hl', hbk⟩ := (mem_placesC h).mp (mxC_spec h hB).1
    have hij : i = j := by omega
    subst hij
    have hk : k = k' := by
      have := hl.1
      rw [hl'.1] at this
      injection this with this; injection this with this; exact this.symm
    subst hk
    exact same_path (tree0 ns) hak hbk (by omega)
theorem keyedW (h : RsOk ns rs) : Keyed rs (prsOf (W0 ns) false) ((nodesOf rs (prsOf (W0 ns) false)).map fun n : Nat => (n : Int)) false (mnW ns rs) (kcW ns rs) where
  ne := fun x hx => List.ne_nil_of_mem (mnW_spec h ((mem_nodesW h x).mp hx)).1
  top := fun x hx M hM hmax => by
    obtain ⟨h1, h2⟩ := mnW_spec h ((mem_nodesW h x).mp hx)
    have a1 := h2 M hM
    have a2 := hmax _ h1
    simp only [Bool.false_eq_true, if_false] at a2
    omega
  lex := fun a ha b hb => by
    have hA := (mem_nodesW h a).mp ha
    have hB := (mem_nodesW h b).mp hb
    have rA := node_range (b := false) hA
    have rB := node_range (b := false) hB
    rw [h.depthEq rA.1 rA.2, h.depthEq rB.1 rB.2]
    have h1 := node_depth (b := false) hA
    have h2 := node_depth (b := false) hB
    simp only [Bool.false_eq_true, if_false]
    unfold kcW
    omega
  inj := fun a ha b hb e => by
    have hA := (mem_nodesW h a).mp ha
    have hB := (mem_nodesW h b).mp hb
    have h1 := node_depth (b := false) hA
    have h2 := node_depth (b := false) hB
    unfold kcW at e
    obtain ⟨i, k, e1, hl, hak⟩ := (mem_placesW h).mp (mnW_spec h hA).1
    obtain ⟨j, k', e2, hl', hbk⟩ := (mem_placesW h).mp (mnW_spec h hB).1
    have hij : i = j := by omega
    subst hij
    have hk : k = k' := by
      have := hl
      rw [hl'] at this
      injection this with this; injection this with this; exact this.symm
    subst hk
    exact same_path (tree0 ns) hak hbk (by omega)

/-- the law's answer -/
theorem law_case (h : RsOk ns rs) {L1 L2 : List Int} (hp1 : L1.Perm ((nodesOf rs (prsOf (W0 ns) true)).map fun n : Nat => (n : Int))) (hs1 : L1.Pairwise fun a b => kcC ns rs a < kcC ns rs b)
    (hp2 : L2.Perm ((nodesOf rs (prsOf (W0 ns) false)).map fun n : Nat => (n : Int))) (hs2 : L2.Pairwise fun a b => kcW ns rs a < kcW ns rs b) :
    ∃ n res rowsF, Mg n ((W0 ns).map (rowOf (parF ns))) [] res rowsF ∧
      ((res = some (L1 ++ [0] ++ L2) ∧ (L1.filter fun x => L2.any (· == x)) = [] ∧ rowsF = (W0 ns).map fun _ => []) ∨ (res = none ∧ (L1.filter fun x => L2.any (· == x)) ≠ [] ∧ rowsF = (W0 ns).map (leftOf rs L2))) := by
  have hL1 : ∀ x, x ∈ L1 ↔ Cn (P0 ns) (W0 ns) x := fun x => hp1.mem_iff.trans (mem_nodesC h x)
  have hL2 : ∀ x, x ∈ L2 ↔ Wn (P0 ns) (W0 ns) x := fun x => hp2.mem_iff.trans (mem_nodesW h x)
  have hrow : rowT (P0 ns) = rowOf (parF ns) := rfl
  have hany : ∀ x, (L2.any (· == x)) = true ↔ x ∈ L2 := fun x => by
    simp only [List.any_eq_true, beq_iff_eq]
    exact ⟨fun ⟨y, hy, e⟩ => e ▸ hy, fun hx => ⟨x, hx, rfl⟩⟩
  by_cases hsh : (L1.filter fun x => L2.any (· == x)) = []
  · have hdis : ∀ x, Cn (P0 ns) (W0 ns) x → ¬ Wn (P0 ns) (W0 ns) x := fun x h1 h2 => by
      have := List.filter_eq_nil_iff.mp hsh x ((hL1 x).mpr h1)
      exact this ((hany x).mpr ((hL2 x).mpr h2))
    obtain ⟨n, hm⟩ := merge_ok (tree0 ns) (ordC h) (ordW h) (waysF_ne ns) (waysF_nodup ns _) (w_self ns) hdis hL1 hs1 hL2 hs2
    rw [hrow] at hm
    exact ⟨n, _, _, hm, .inl ⟨rfl, hsh, rfl⟩⟩
  · obtain ⟨z, hz⟩ := List.exists_mem_of_ne_nil _ hsh
    obtain ⟨hz1, hz2⟩ := List.mem_filter.mp hz
    obtain ⟨n, S', hm, hS⟩ := merge_no (tree0 ns) ((hL1 z).mp hz1) ((hL2 z).mp ((hany z).mp hz2))
    rw [hrow] at hm
    refine ⟨n, _, _, hm, .inr ⟨rfl, hsh, ?_⟩⟩
    unfold without'
    rw [List.map_map]
    apply List.map_congr_left
    intro q hq
    have hr := w_range ns hq
    have e : (if q.2 then (row rs q.1).reverse else row rs q.1) = rowOf (parF ns) q := by
      rw [h.rowEq (by omega) hr.2, List.reverse_reverse]; rfl
    show (rowOf (parF ns) q).filter _ = leftOf rs L2 q
    unfold leftOf
    rw [e]
    apply List.filter_congr
    intro x hx
    have hxP : x ∈ P0 ns q.1 := mem_rowT.mp (by rw [hrow]; exact hx)
    rw [Bool.eq_iff_iff]
    simp only [Bool.not_eq_true', Bool.or_eq_true, beq_iff_eq]
    rw [hany, hL2]
    rw [← Bool.not_eq_true, List.contains_iff_mem, hS]
    constructor
    · intro hn
      by_cases h0 : x = 0
      · exact .inl h0
      · right
        cases hu : q.2 with
        | true => exact Classical.byContradiction fun hw => hn ⟨⟨h0, q, hq, hu, hxP⟩, hw⟩
        | false => exact ⟨h0, q, hq, hu, hxP⟩
    · rintro (h0 | hw) ⟨h1, h2⟩
      · exact h1.1 h0
      · exact h2 hw
end
end Mine

end

/- Law14 -/
section
open PySem PySem.W PyProof.Rows
set_option Elab.async false
set_option linter.unusedVariables false
set_option maxRecDepth 100000
namespace Mine
section
variable {prog : Program} {w : World} {A : Around} {E : Value → Shared → Prop} {s : Shared} {m mg mb : Str → Option Value} {L f sc : Addr} {cd : Value} {g : Heap} {Pc Pp : Addr}

theorem law_all {ns : List Int} {vS : List Value} {Q : Flow → Shared → Prop} (hh : A.handled = none) (hu : A.units + 70 < cLine) (hroom : A.depth + 3 < recursionLimit) (hfr : A.frames = some [lawEnv L f cd]) (B : BiL mg mb) (Xk : (KK w).In g) (S : Stat mg mb g) (SG : Sub g s.heap) (hgL : g.get? L = none) (hgL1 : g.get? (L + 1) = none)
    (hpy : ∀ h tk, Sub g h → PylongRoom (model prog w) A { s with heap := h, toks := tk })
    (hn : s.heap.Ns L m) (hm : m "script" = some (.ref sc)) (hsc : s.heap.IsList sc vS.toArray) (hscL : sc ≠ L) (hvi : IntsAre vS ns) (h63 : ns.length ≤ 63) (hcell : s.heap.IsCell (L + 1) none)
    (hCc : CodeHd g 53 Pc) (hgPc : g.get? Pc = none) (hPc : s.heap.get? Pc = some (tabObj #[])) (hCp : CodeHd g 63 Pp) (hgPp : g.get? Pp = none) (hPp : s.heap.get? Pp = some (tabObj #[])) (hcp : Pc ≠ Pp)
    (hQ : ∀ s', (∃ h tk, s' = { s with heap := h, toks := tk }) → Sub g s'.heap → (∃ t, s'.heap.get? Pc = some (tabObj t)) → (∃ t, s'.heap.get? Pp = some (tabObj t)) → Q (.ret (.bool true)) s') :
    wpAny (model prog w) A (execs lawBody (lawEnv L f cd)) Q E s := by
  have hlen := numsF_len ns
  have hvl := hvi.length
  refine law_build hh B S SG hgL hpy hn hm hsc hscL hvi h63 fun s1 p rs ws m1 hpL hpsc C1 okA hfaW hfl hfa1 hsc1 hWf X1 hr1 hw1 nm1 => ?_
  replace hw1 : ws.map (·.2) = W0 ns := hw1
  subst hpL
  subst hpsc
  have ok := okA p.fa hfaW
  have hLPc := ns_ne_tab hn hPc
  have hLPp := ns_ne_tab hn hPp
  have hL1 : p.L + 1 ≠ p.L := Nat.succ_ne_self _
  have hL1c := cell_ne_tab hcell hPc
  have hL1p := cell_ne_tab hcell hPp
  have SG1 := sub_chg SG C1 fun b h => h ▸ hgL
  have Pc1 := C1.get (Ne.symm hLPc) hPc
  have Pp1 := C1.get (Ne.symm hLPp) hPp
  have c1 := cell_chg hcell C1 hL1
  have hrs : RsOk ns rs := hr1
  have hrl := hrs.len
  have hwsm : ∀ q ∈ ws, q.2 ∈ W0 ns := fun q hq => by rw [← hw1]; exact List.mem_map_of_mem hq
  have hwl : ws.length ≤ 13 := by
    have h1 := congrArg List.length hw1
    rw [List.length_map] at h1
    have h2 : (W0 ns).length ≤ (numsF ns).length := waysF_len ns (numsF ns).length
    omega
  have hrr : ∀ r ∈ rs, r.2.length ≤ 14 := fun r hr => by
    have := abF_row_len ns _ r.2 (by rw [← hr1]; exact List.mem_map_of_mem hr)
    omega
  have hin : ∀ q ∈ ws, 0 ≤ q.2.1 ∧ q.2.1 < (rs.length : Int) := fun q hq => by
    have := w_range ns (hwsm q hq)
    omega
  -- the table
  refine law_table (I0 := p.fa) (Pc := Pc) (vS := vS) ok hh hroom B Xk S SG1 hgL hCc hgPc Pc1 hsc1 hvl h63 hfa1 hfl X1 nm1 fun s2 td rw m2 tbs N C2 X2 nm2 hmt hmr hT htd hrw Pc2 frw hrtd htdL hrL ftd => ?_
  have SG2 := sub_chg SG1 C2 fun b h => h.elim (fun h => h ▸ hgL) fun h => h ▸ hgPc
  have Pp2 := C2.get (fun h => h.elim (Ne.symm hLPp) (Ne.symm hcp)) Pp1
  have c2 := cell_chg c1 C2 fun h => h.elim hL1 hL1c
  have hfaPc : p.fa ≠ Pc := list_ne_tab hfa1 Pc1
  have hfaL : p.fa ≠ p.L := fun h => ok.faW (.inl h)
  have hfa2 := isList_chg hfa1 C2 fun h => h.elim hfaL hfaPc
  -- the rows
  refine wpAny_execs_cons (st := lawFor2) (law_rows (I0 := p.fa) (ns := ns) (td := td) (rw := rw) (N := N) ok hh hroom B Xk S SG2 hgL (fresh_sub SG1 frw) hfa2 hfl X2 nm2 hmt hmr hT htd hrw hrtd htdL hrL (fun b hb => hb.elim (fun hb => Ne.symm (ne_live (X1.live hb) frw)) fun hb => hb ▸ Ne.symm (ne_live (isList_live hfa1) frw))
    (fun q hq => by
      have := w_range ns (hwsm q hq)
      exact ⟨q.2.1.toNat, by omega, by omega⟩) (by omega) (fun j h1 _ => parF_lt ns j h1) (tbl_zero ns p.fams) (fun j h1 h2 => tbl_hand ns hfl h1 h2) fun s3 m3 rl C3 n3 hm3 hl3 hrl3 hnd3 he3 => ?_)
  have hrwPc : rw ≠ Pc := list_ne_tab hrw.isList Pc2
  have hrwPp : rw ≠ Pp := list_ne_tab hrw.isList Pp2
  have hrw1 : rw ≠ p.L + 1 := ne_live (cell_live c1) frw
  have SG3 := sub_chg SG2 C3 fun b h => h.elim (fun h => h ▸ hgL) fun h => h ▸ fresh_sub SG1 frw
  have Pc3 := C3.get (fun h => h.elim (Ne.symm hLPc) (Ne.symm hrwPc)) Pc2
  have Pp3 := C3.get (fun h => h.elim (Ne.symm hLPp) (Ne.symm hrwPp)) Pp2
  have c3 := cell_chg c2 C3 fun h => h.elim hL1 (Ne.symm hrw1)
  have setrw : ∀ b, LBset p rs ws b → b ≠ rw := fun b hb => Ne.symm (ne_live (X1.live hb) frw)
  have X3 : LB p (famF ns (numsF ns).length) rs ws m3 s3 := X2.mv n3 fun b o hb e => C3.get (fun h => h.elim (X2.neL ok hb) (setrw b hb)) e
  have nm3 : Nm p (turnF ns) m3 := ⟨by rw [hm3 _ (by decide) (by decide) (by decide)]; exact nm2.nl, by rw [hm3 _ (by decide) (by decide) (by decide)]; exact nm2.sc, by rw [hm3 _ (by decide) (by decide) (by decide)]; exact nm2.fa, by rw [hm3 _ (by decide) (by decide) (by decide)]; exact nm2.ab, by rw [hm3 _ (by decide) (by decide) (by decide)]; exact nm2.wy, by rw [hm3 _ (by decide) (by decide) (by decide)]; exact nm2.tn⟩
  have KC := keyedC hrs
  have KW := keyedW hrs
  -- the parts
  refine law_parts (I0 := p.fa) (ns := ns) (mxC := mxC ns rs) (kcC := kcC ns rs) (mxW := mnW ns rs) (kcW := kcW ns rs) ok hh hu hroom B Xk S SG3 hgL hgL1 hCp hgPp Pp3 X3 nm3 c3 (by omega) (by omega) (fun r hr => by have := hrr r hr; omega) (by omega) hin (by rw [hw1]; exact KC) (by rw [hw1]; exact KW) fun s4 D1 D2 Ds ns1 ns2 tbs4 m4 C4 n4 hm4 hmc hms c4 i1 i2 is pm1 pw1 pm2 pw2 Pp4 f1 f2 fs => ?_
  rw [hw1] at pm1 pm2
  have SG4 := sub_chg SG3 C4 fun b h => h.elim (fun h => h ▸ hgL) fun h => h.elim (fun h => h ▸ hgL1) fun h => h ▸ hgPp
  have Pc4 := C4.get (fun h => h.elim (Ne.symm hLPc) fun h => h.elim (Ne.symm hL1c) hcp) Pc3
  have live3 : ∀ b, LBset p rs ws b → ¬ (b = p.L ∨ b = p.L + 1 ∨ b = Pp) := fun b hb h => by
    rcases h with h | h | h
    · exact X2.neL ok hb h
    · obtain ⟨o, e⟩ := X1.live hb
      rcases hb with hb | hb | hb | hb | hb
      · have := hWf b (.inl (.inr (.inl hb)))
        rcases this with h' | h'
        · exact X2.neL ok (.inl hb) h'
        · exact ne_live (cell_live hcell) h' h
      · have := hWf b (.inl (.inr (.inr (.inl hb))))
        rcases this with h' | h'
        · exact X2.neL ok (.inr (.inl hb)) h'
        · exact ne_live (cell_live hcell) h' h
      · have := hWf b (.inl (.inr (.inr (.inr hb))))
        rcases this with h' | h'
        · exact X2.neL ok (.inr (.inr (.inl hb))) h'
        · exact ne_live (cell_live hcell) h' h
      · obtain ⟨q, hq, rfl⟩ := List.mem_map.mp hb
        obtain ⟨vs, ⟨k, e'⟩, _⟩ := (X1.abr q hq).1
        obtain ⟨o', ec, dc⟩ := c1
        rw [h, ec] at e'; cases e'; cases dc
      · obtain ⟨q, hq, rfl⟩ := List.mem_map.mp hb
        obtain ⟨⟨o', _, _, e', _, d'⟩, _⟩ := X1.wyr q hq
        obtain ⟨o2, ec, dc⟩ := c1
        rw [h, ec] at e'; cases e'; rw [dc] at d'; cases d'
    · exact X3.neTab Pp3 hb h
  have X4 : LB p (famF ns (numsF ns).length) rs ws m4 s4 := X3.mv n4 fun b o hb e => C4.get (live3 b hb) e
  have nL3 : ∃ o, s3.heap.get? p.L = some o := ns_live n3
  have rlne : ∀ q ∈ rl, ¬ (q.1 = p.L ∨ q.1 = p.L + 1 ∨ q.1 = Pp) := fun q hq h => by
    have hf := (hrl3 q hq).2
    rcases h with h | h | h
    · exact ne_live (ns_live X2.ns) hf h
    · exact ne_live (cell_live c2) hf h
    · exact ne_live ⟨_, Pp2⟩ hf h
  have rl4 : ∀ q ∈ rl, IntL s4.heap q.1 q.2 := fun q hq => (hrl3 q hq).1.chg C4 (rlne q hq)
  have hrw4 : s4.heap.PlainList rw (rl.map fun q : Addr × List Int => Value.ref q.1).toArray := hl3.at fun o e => C4.get (fun h => h.elim hrL fun h => h.elim hrw1 hrwPp) e
  rw [hw1] at he3
  obtain ⟨n, res, rowsF, hMg, hcase⟩ := law_case hrs pm1 pw1 pm2 pw2
  have notrl : ∀ b, (∃ o, s2.heap.get? b = some o) → b ∉ rl.map (·.1) := fun b l h => by
    obtain ⟨q, hq, e⟩ := List.mem_map.mp h
    exact ne_live l (hrl3 q hq).2 e
  have notrl3 : ∀ b, s3.heap.get? b = none → b ∉ rl.map (·.1) := fun b hb h => by
    obtain ⟨q, hq, e⟩ := List.mem_map.mp h
    exact ne_live (hrl3 q hq).1.live hb e.symm
  have hrllen : rl.length ≤ 13 := by
    have := congrArg List.length he3
    rw [List.length_map, List.length_map] at this
    have h2 : (W0 ns).length ≤ (numsF ns).length := waysF_len ns (numsF ns).length
    omega
  have hfit : total (rl.map (·.2)) ≤ 500 := by
    have h1 : ∀ l : List (List Int), (∀ r ∈ l, r.length ≤ 14) → total l ≤ 14 * l.length := by
      intro l
      induction l with
      | nil => intro _; simp [total]
      | cons a r ih =>
        intro h
        have a1 := h a List.mem_cons_self
        have a2 := ih fun x hx => h x (List.mem_cons_of_mem _ hx)
        simp only [total, List.map_cons, List.sum_cons, List.length_cons] at *
        omega
    have h2 := h1 (rl.map (·.2)) (by
      rw [he3]
      intro r hr
      obtain ⟨q, hq, rfl⟩ := List.mem_map.mp hr
      have hrg := w_range ns hq
      have := upP_len (parF ns) q.1.toNat
      unfold rowOf
      split <;> simp <;> omega)
    rw [List.length_map] at h2
    omega
  have hn1 : ns1.length ≤ 100 := by
    rw [pm1.length_eq, List.length_map]
    refine Nat.le_trans (List.length_filter_le _ _) ?_
    simp; omega
  have hn2 : ns2.length ≤ 100 := by
    rw [pm2.length_eq, List.length_map]
    refine Nat.le_trans (List.length_filter_le _ _) ?_
    simp; omega
  refine law_try (rw := rw) (wy := p.wy) (ab := p.ab) (D1 := D1) (D2 := D2) (Ds := Ds) (Pc := Pc) (Pp := Pp) (rs := rs) (ws := ws) (rl := rl) (n := n) (res := res) (rowsF := rowsF) hh hu hroom hfr B Xk S SG4 hgL (fun q hq => fresh_sub SG2 (hrl3 q hq).2) n4 (by rw [hm4 _ (by decide) (by decide)]; exact nm3.wy) (by rw [hm4 _ (by decide) (by decide)]; exact nm3.ab) hms (by rw [hm4 _ (by decide) (by decide), hm3 _ (by decide) (by decide) (by decide), hmr]) hmc c4 i1 i2 is X4.mat (by omega) (fun r hr => by have := hrr r hr; omega) X4.wys (by omega) hin hrw4 rl4 hnd3 hfit (by omega) Pc4 Pp4 ?_ (fun q hq h => rlne q hq (.inl h)) hn1 hn2 (by rw [he3]; exact hMg) ?_ fun s' he hs hc hp => ?_
  · intro b hb
    rcases hb with h | h | h | h | h | h | h | h | h
    · exact h ▸ ⟨notrl _ (X2.live (.inr (.inl rfl))), X2.neL ok (.inr (.inl rfl))⟩
    · exact h ▸ ⟨notrl _ (X2.live (.inl rfl)), X2.neL ok (.inl rfl)⟩
    · exact h ▸ ⟨notrl3 _ f1, ne_live nL3 f1⟩
    · exact h ▸ ⟨notrl3 _ f2, ne_live nL3 f2⟩
    · exact h ▸ ⟨notrl3 _ fs, ne_live nL3 fs⟩
    · refine h ▸ ⟨notrl _ ?_, hrL⟩
      obtain ⟨k, e⟩ := hrw; exact ⟨_, e⟩
    · exact h ▸ ⟨notrl _ (cell_live c2), hL1⟩
    · have hs : LBset p rs ws b := .inr (.inr (.inr (.inl h)))
      exact ⟨notrl _ (X2.live hs), X2.neL ok hs⟩
    · have hs : LBset p rs ws b := .inr (.inr (.inr (.inr h)))
      exact ⟨notrl _ (X2.live hs), X2.neL ok hs⟩
  · rw [hw1]
    rcases hcase with ⟨h1, h2, h3⟩ | ⟨h1, h2, h3⟩
    · refine .inl ⟨h1, h2, h3.trans ?_⟩
      have : (W0 ns).map (fun _ => ([] : List Int)) = (ws.map (·.2)).map (fun _ => []) := by rw [hw1]
      rw [this, List.map_map]; rfl
    · exact .inr ⟨h1, h2, h3⟩
  · refine hQ s' ?_ hs ⟨_, hc⟩ ⟨_, hp⟩
    obtain ⟨h9, t9, rfl⟩ := he
    obtain ⟨a1, b1, rfl, _⟩ := C1
    obtain ⟨a2, b2, rfl, _⟩ := C2
    obtain ⟨a3, b3, rfl, _⟩ := C3
    obtain ⟨a4, b4, rfl, _⟩ := C4
    exact ⟨h9, t9, rfl⟩
end
end Mine

end

/- Fin -/
section
open PySem PySem.W PyProof.Rows
set_option Elab.async false
set_option linter.unusedVariables false
set_option maxRecDepth 100000
namespace Mine
abbrev tabs2 : List (Addr × Addr) := [(63, 61), (53, 49)]
noncomputable abbrev looseL : List Str := looseW hd.view_39 [Str.ofString "_SelectorContext"]

section
variable {w : World} {mean : ExcName → Option Value} {mg mb : Str → Option Value} {h0 g : Heap}

theorem freeG (T : Top hd.view_39 looseL mean mg mb h0) (x : Str) (e : (decide (x ∉ startupNames) && decide (x ∉ looseL) && decide (x ∉ (recsOf hd.view_39).map (·.name)) && decide (x ∉ (litsOf hd.view_39).map (·.1)) && decide (x ∉ (clssOf hd.view_39 looseL).map (·.name))) = true) : mg x = none := by
  simp only [Bool.and_eq_true, decide_eq_true_eq] at e
  exact T.free x e.1.1.1.1 e.1.1.1.2 e.1.1.2 e.1.2 e.2
theorem biL_of (T : Top hd.view_39 looseL mean mg mb h0) (X : (KK w).In g) (G : g.Ns mainGlobals mg) : BiL mg mb where
  rangeG := freeG T _ (by decide +kernel)
  rangeB := (T.builtins _ (by decide)).trans (by decide +kernel)
  lenG := freeG T _ (by decide +kernel)
  lenB := (T.builtins _ (by decide)).trans (by decide +kernel)
  maxG := freeG T _ (by decide +kernel)
  maxB := (T.builtins _ (by decide)).trans (by decide +kernel)
  minG := freeG T _ (by decide +kernel)
  minB := (T.builtins _ (by decide)).trans (by decide +kernel)
  divG := freeG T _ (by decide +kernel)
  divB := (T.builtins _ (by decide)).trans (by decide +kernel)
  sumG := freeG T _ (by decide +kernel)
  sumB := (T.builtins _ (by decide)).trans (by decide +kernel)
  strG := freeG T _ (by decide +kernel)
  strB := (T.builtins _ (by decide)).trans (by decide +kernel)
  rteG := freeG T _ (by decide +kernel)
  rteB := (T.builtins _ (by decide)).trans (by decide +kernel)
  pmG := mg_of X G rfl
  cxG := mg_of X G rfl
  wuG := mg_of X G rfl
  paG := mg_of X G rfl
  c3G := mg_of X G rfl
  scG := mg_of X G rfl
theorem seer_ghost {tabs : List (Addr × Addr)} (hT : TabsAt tabs h0) (x : h0.NoSeer) : (ghostOf h0 tabs).NoSeer := by
  obtain ⟨⟨mc, c1, c2⟩, ⟨mm, m1, m2⟩, ⟨mb, b1, b2⟩, ⟨mg, bm, ob, g1, g2, g3, g4, g5⟩⟩ := x
  exact ⟨⟨mc, ghost_ns hT c1, c2⟩, ⟨mm, ghost_ns hT m1, m2⟩, ⟨mb, ghost_ns hT b1, b2⟩, ⟨mg, bm, ob, ghost_ns hT g1, g2, ghost_get hT g3 (fun q => by rw [q] at g4; cases g4), g4, g5⟩⟩
end
end Mine

end

/- Fin2 -/
section
open PySem PySem.W PyProof.Rows
set_option Elab.async false
set_option linter.unusedVariables false
set_option maxRecDepth 100000
namespace Mine
section
variable {w : World} {mean : ExcName → Option Value} {mg mb : Str → Option Value}

theorem law_top {s1 : Shared} {h1 : Heap} {tk : Nat} {fa sc : Addr} {cd : Value} {ob : Obj} {m : Str → Option Value} {vS : List Value} {ns : List Int} {E : Value → Shared → Prop} {Q : Flow → Shared → Prop}
    (T : Top hd.view_39 looseL mean mg mb s1.heap) (hT : TabsAt tabs2 s1.heap) (X : (KK w).In (ghostOf s1.heap tabs2))
    (F : Fr (ghostOf s1.heap tabs2) s1.heap.objs.size h1 m) (N : News (ghostOf s1.heap tabs2) s1.heap.objs.size h1 [(s1.heap.objs.size + 1, ob), (61, tabObj #[]), (49, tabObj #[])])
    (hob : ob.data = .cell none) (hm : m "script" = some (.ref sc)) (hsc : (ghostOf s1.heap tabs2).IsList sc vS.toArray) (hvi : IntsAre vS ns) (h63 : ns.length ≤ 63)
    (c1 : CodeHd (ghostOf s1.heap tabs2) 63 61) (c2 : CodeHd (ghostOf s1.heap tabs2) 53 49) (hg : s1.gens = #[])
    (hQ : ∀ s', Sub (ghostOf s1.heap tabs2) s'.heap → GrownAll tabs2 s'.heap → s'.os = s1.os → s'.gens = #[] → Q (.ret (.bool true)) s') :
    wpAny (model PySem.Challenge.rw_nb0031_01.row.prog w) (callerA.deeper (lawEnv s1.heap.objs.size fa cd)) (execs lawBody (lawEnv s1.heap.objs.size fa cd)) Q E { s1 with heap := h1, toks := tk } := by
  have G : (ghostOf s1.heap tabs2).Ns mainGlobals mg := ghost_ns hT T.g
  have hL : (ghostOf s1.heap tabs2).get? s1.heap.objs.size = none := by
    cases e : (ghostOf s1.heap tabs2).get? s1.heap.objs.size with
    | none => rfl
    | some o => exact absurd (Heap.lt_size e) (Nat.not_lt.mpr F.above)
  have T' := ghost_top hT T
  have lim : (ghostOf s1.heap tabs2).NoLimit := T'.nolimit
  have seer : (ghostOf s1.heap tabs2).NoSeer := seer_ghost hT (T.seer (by decide +kernel))
  have S : Stat mg mb (ghostOf s1.heap tabs2) := ⟨⟨G, ghost_ns hT T.b⟩, lim, T'.bmain⟩
  have n1 : (s1.heap.objs.size + 1, ob) ∈ [(s1.heap.objs.size + 1, ob), (61, tabObj #[]), (49, tabObj #[])] := .head _
  have n2 : (61, tabObj #[]) ∈ [(s1.heap.objs.size + 1, ob), (61, tabObj #[]), (49, tabObj #[])] := .tail _ (.head _)
  have n3 : (49, tabObj #[]) ∈ [(s1.heap.objs.size + 1, ob), (61, tabObj #[]), (49, tabObj #[])] := .tail _ (.tail _ (.head _))
  refine law_all (g := ghostOf s1.heap tabs2) (mg := mg) (mb := mb) (Pc := 49) (Pp := 61) (ns := ns) (vS := vS) (sc := sc) (m := m) (s := { s1 with heap := h1, toks := tk }) rfl (show callerA.units + 3 + 70 < cLine by decide) (show callerA.depth + 1 + 3 < recursionLimit by decide) rfl (biL_of T X G) X S F.keep hL (N.fresh n1) ?_ F.ns hm ?_ ?_ hvi h63 ⟨ob, N.get n1, hob⟩ c2 (N.fresh n3) (N.get n3) c1 (N.fresh n2) (N.get n2) (by decide) ?_
  · exact fun h t k => PylongRoom.of (s := { s1 with heap := h, toks := t }) (lim.keeps k) (show callerA.depth + 1 + Builtin.pylongFrames < recursionLimit by decide) (SeerAt.of (seer.keeps k) rfl rfl rfl rfl rfl rfl)
  · exact hsc.at fun o e => F.keep _ o e
  · exact fun q => by
      obtain ⟨o, e⟩ := isList_live hsc
      rw [q, hL] at e; cases e
  · rintro s' ⟨h, t, rfl⟩ hs hc hp
    exact hQ _ hs ⟨hp, hc, trivial⟩ rfl hg
end
end Mine

end

/- the theorem -/
open PySem PySem.W PyProof.Rows
set_option Elab.async false
set_option linter.unusedVariables false
set_option maxRecDepth 100000 in
set_option maxHeartbeats 8000000 in
theorem PySem.Challenge.cw_nb0031_01_holds : PySem.Challenge.rw_nb0031_01.Holds := by
  refine Mine.hd ?_
  w_strict (
    k_go0
    refine Mine.law_top (by assumption) (by assumption) (by assumption) (by assumption) (by assumption) (by assumption) rfl (by assumption) (by assumption) (by omega) (by assumption) (by assumption) (by assumption) fun s' hs hgr hos hg => ?_
    refine ⟨⟨.inl ⟨_, _, _, rfl, ?_, .bool true, ?_, unshared_nil⟩, hs, hos, hg⟩, hgr⟩
    · exact raisesW_false (by wrow_none_raised)
    · wrow_post)
