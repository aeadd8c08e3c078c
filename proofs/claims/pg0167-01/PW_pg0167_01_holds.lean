import PyProof.Rows.All
import Wide.All
import OpenK.AllK
import Wide.FinOn
import PySem.Challenge.RW_pg0167_01

set_option Elab.async false
set_option linter.all false
set_option genInjectivity false
set_option genSizeOf false

namespace Mine
noncomputable def ltp (p q : Int × Int) : Bool := decide (p.1 < q.1) || (decide (p.1 = q.1) && decide (p.2 < q.2))
noncomputable def sdown (x : Int × Int) : Nat → List (Int × Int) → List (Int × Int)
  | 0, l => l.set 0 x
  | pos + 1, l => if ltp x (l.getD (pos / 2) (0, 0)) then sdown x (pos / 2) (l.set (pos + 1) (l.getD (pos / 2) (0, 0))) else l.set (pos + 1) x
termination_by pos => pos
decreasing_by omega

theorem sdown_length (x : Int × Int) : ∀ (pos : Nat) (l : List (Int × Int)), (sdown x pos l).length = l.length := by
  intro pos
  induction pos using Nat.strongRecOn with
  | _ pos ih =>
    intro l
    cases pos with
    | zero => simp [sdown]
    | succ pos =>
      unfold sdown
      split
      · rw [ih _ (by omega)]; simp
      · simp

/-- the hole that is sifted to the leaves -/
noncomputable def supGo (l : List (Int × Int)) (pos : Nat) : List (Int × Int) × Nat :=
  if h : 2 * pos + 1 < l.length then
    let c := if 2 * pos + 2 < l.length ∧ ltp (l.getD (2 * pos + 1) (0, 0)) (l.getD (2 * pos + 2) (0, 0)) = false then 2 * pos + 2 else 2 * pos + 1
    supGo (l.set pos (l.getD c (0, 0))) c
  else (l, pos)
termination_by l.length - pos
decreasing_by
  simp only [List.length_set]
  split <;> omega
noncomputable def sup (l : List (Int × Int)) : List (Int × Int) :=
  let x := l.getD 0 (0, 0)
  sdown x (supGo l 0).2 ((supGo l 0).1.set (supGo l 0).2 x)

theorem supGo_length (l : List (Int × Int)) (pos : Nat) : (supGo l pos).1.length = l.length ∧ (pos < l.length → (supGo l pos).2 < l.length) := by
  induction l, pos using supGo.induct with
  | case1 l pos h c ih =>
    rw [supGo, dif_pos h]
    simp only [List.length_set] at ih
    refine ⟨ih.1, fun _ => ih.2 ?_⟩
    show c < _
    simp only [c]
    split <;> omega
  | case2 l pos h =>
    rw [supGo, dif_neg h]
    exact ⟨rfl, fun h => h⟩

theorem sup_length (l : List (Int × Int)) : (sup l).length = l.length := by
  unfold sup
  rw [sdown_length, List.length_set]
  exact (supGo_length l 0).1

/-- the least off the heap -/
noncomputable def hpop (l : List (Int × Int)) : (Int × Int) × List (Int × Int) :=
  match l.dropLast with
  | [] => (l.getD 0 (0, 0), [])
  | y :: l' => (y, sup (l.getLast?.getD (0, 0) :: l'))

theorem hpop_length (l : List (Int × Int)) (h : l ≠ []) : (hpop l).2.length + 1 = l.length := by
  obtain ⟨l', z, rfl⟩ : ∃ l' z, l = l' ++ [z] := ⟨l.dropLast, l.getLast h, (List.dropLast_concat_getLast h).symm⟩
  unfold hpop
  rw [List.dropLast_concat]
  cases l' with
  | nil => simp
  | cons y l' => simp [sup_length]

/-- an entry of the books: calls, stretches, own hours, all hours, the caller -/
structure Bk where
  cc : Int
  nc : Int
  tt : Int
  ct : Int
  cal : List (Int × Int)
noncomputable def Bk.add (t s : Bk) : Bk := ⟨s.cc + t.cc, s.nc + t.nc, s.tt + t.tt, s.ct + t.ct, t.cal ++ s.cal⟩
noncomputable def bget (bs : List (Int × Bk)) (k : Int) : Option Bk := (bs.find? fun p => p.1 = k).map (·.2)
noncomputable def bset (bs : List (Int × Bk)) (k : Int) (b : Bk) : List (Int × Bk) := bs.map fun p => if p.1 = k then (p.1, b) else p
/-- the state of the run -/
structure RunS where
  heap : List (Int × Int)
  begun : List Int
  ends : List Int
  last : Int
  now : Int
  books : List (Int × Bk)
noncomputable def badd (bs : List (Int × Bk)) (k : Int) (s : Bk) : List (Int × Bk) := bset bs k (((bget bs k).getD ⟨0, 0, 0, 0, []⟩).add s)
/-- one turn of the while -/
noncomputable def turn (hour : Int) (S : RunS) : RunS :=
  let left := (S.heap.getD 0 (0, 0)).1
  let hand := (S.heap.getD 0 (0, 0)).2
  let fresh := !(S.begun.contains hand)
  let callers := if fresh && !S.begun.isEmpty then [(S.begun.getLastD 0, (1 : Int))] else []
  let begun := if fresh then S.begun ++ [hand] else S.begun
  let span := if hour - S.now < left then hour - S.now else left
  let books1 := badd S.books hand ⟨if fresh then 1 else 0, if hand ≠ S.last then 1 else 0, span, 0, callers⟩
  let books2 := begun.foldl (fun bs o => badd bs o ⟨0, 0, 0, span, []⟩) books1
  if span < left then
    { heap := sup ((left - span, hand) :: S.heap.drop 1), begun := begun, ends := S.ends, last := hand, now := S.now + span, books := books2 }
  else
    { heap := (hpop S.heap).2, begun := begun.dropLast, ends := S.ends ++ [S.now + span], last := hand, now := S.now + span, books := books2 }
theorem turn_less (hour : Int) (S : RunS) (h : S.heap ≠ [] ∧ S.now < hour) :
    (turn hour S).heap.length + (if (turn hour S).now < hour then 1 else 0) < S.heap.length + (if S.now < hour then 1 else 0) := by
  obtain ⟨h1, h2⟩ := h
  have hl : 0 < S.heap.length := List.length_pos_iff.mpr h1
  rw [if_pos h2]
  unfold turn
  dsimp only
  generalize (S.heap.getD 0 (0, 0)).1 = left
  by_cases hs : (if hour - S.now < left then hour - S.now else left) < left
  · rw [if_pos hs]
    have hlt : hour - S.now < left := by
      by_cases hq : hour - S.now < left
      · exact hq
      · rw [if_neg hq] at hs; omega
    dsimp only
    rw [if_pos hlt, sup_length, if_neg (by omega)]
    simp only [List.length_cons, List.length_drop]
    omega
  · rw [if_neg hs]
    dsimp only
    have := hpop_length S.heap h1
    split <;> split <;> omega
/-- the while to an hour -/
noncomputable def runW (hour : Int) (S : RunS) : RunS := if h : S.heap ≠ [] ∧ S.now < hour then runW hour (turn hour S) else S
termination_by S.heap.length + (if S.now < hour then 1 else 0)
decreasing_by exact turn_less hour S h
theorem runW_stop (hour : Int) (S : RunS) : ¬ ((runW hour S).heap ≠ [] ∧ (runW hour S).now < hour) := by
  induction S using runW.induct hour with
  | case1 S h ih => rw [runW, dif_pos h]; exact ih
  | case2 S h => rw [runW, dif_neg h]; exact h
/-- one comes -/
noncomputable def arrive (t : Int × Int × Int) (S : RunS) : RunS :=
  { S with now := if t.1 > S.now then t.1 else S.now, heap := sdown (t.2.2, t.2.1) S.heap.length (S.heap ++ [(t.2.2, t.2.1)]) }
noncomputable def runAll (row : List (Int × Int × Int)) (S : RunS) : RunS := row.foldl (fun S t => arrive t (runW t.1 S)) S
noncomputable def run0 (books : List (Int × Bk)) : RunS := ⟨[], [], [], -1, 0, books⟩
theorem bset_keys (bs : List (Int × Bk)) (k : Int) (b : Bk) : (bset bs k b).map (·.1) = bs.map (·.1) := by
  unfold bset
  rw [List.map_map]
  apply List.map_congr_left
  intro p _
  dsimp only [Function.comp]
  split <;> rfl
theorem bget_some_iff (bs : List (Int × Bk)) (k : Int) : (bget bs k).isSome = true ↔ k ∈ bs.map (·.1) := by
  unfold bget
  rw [Option.isSome_map, List.find?_isSome]
  simp only [decide_eq_true_eq, List.mem_map]
theorem bget_mem {bs : List (Int × Bk)} {k : Int} {b : Bk} (h : bget bs k = some b) : (k, b) ∈ bs := by
  unfold bget at h
  obtain ⟨p, hp, rfl⟩ := Option.map_eq_some_iff.mp h
  have h1 := List.mem_of_find?_eq_some hp
  have h2 := List.find?_some hp
  simp only [decide_eq_true_eq] at h2
  rw [← h2]; exact h1
theorem badd_keys (bs : List (Int × Bk)) (k : Int) (s : Bk) : (badd bs k s).map (·.1) = bs.map (·.1) := bset_keys _ _ _
theorem badd_one {bs : List (Int × Bk)} {k : Int} {s b : Bk} (h : ∀ p ∈ bs, p.2.cal.length ≤ 1) (hb : bget bs k = some b) (hs : b.cal.length + s.cal.length ≤ 1) : ∀ p ∈ badd bs k s, p.2.cal.length ≤ 1 := by
  intro p hp
  unfold badd bset at hp
  rw [hb] at hp
  obtain ⟨q, hq, rfl⟩ := List.mem_map.mp hp
  split
  · simp only [Option.getD_some, Bk.add, List.length_append]; omega
  · exact h q hq
theorem bfold_keys (span : Int) : ∀ (os : List Int) (bs : List (Int × Bk)), (os.foldl (fun bs o => badd bs o ⟨0, 0, 0, span, []⟩) bs).map (·.1) = bs.map (·.1)
  | [], bs => rfl
  | o :: os, bs => by rw [List.foldl_cons, bfold_keys span os, badd_keys]
theorem badd_one0 {bs : List (Int × Bk)} {k : Int} {s : Bk} (h : ∀ p ∈ bs, p.2.cal.length ≤ 1) (hs : s.cal = []) : ∀ p ∈ badd bs k s, p.2.cal.length ≤ 1 := by
  intro p hp
  unfold badd bset at hp
  obtain ⟨q, hq, rfl⟩ := List.mem_map.mp hp
  split
  · cases hb : bget bs k with
    | none => simp [Bk.add, hs]
    | some b =>
      have := h _ (bget_mem hb)
      simp only [Option.getD_some, Bk.add, hs, List.append_nil]; exact this
  · exact h q hq
theorem bfold_one (span : Int) : ∀ (os : List Int) (bs : List (Int × Bk)), (∀ p ∈ bs, p.2.cal.length ≤ 1) → ∀ p ∈ os.foldl (fun bs o => badd bs o ⟨0, 0, 0, span, []⟩) bs, p.2.cal.length ≤ 1
  | [], bs, h => h
  | o :: os, bs, h => by rw [List.foldl_cons]; exact bfold_one span os _ (badd_one0 h rfl)
/-- the least by place -/
noncomputable def leastI (i : Int) (ns : List Int) : Int := ns.foldl (fun m n => if n < m then n else m) i
noncomputable def mostP (p : Int × Int) (ps : List (Int × Int)) : Int × Int := ps.foldl (fun m q => if ltp m q then q else m) p

/-- sizes and ends of all choices -/
noncomputable def soon1 (t : Int × Int × Int) (p : Int × Int) : Int × Int := (p.1 + 1, (if t.1 > p.2 then t.1 else p.2) + t.2.2)
noncomputable def soon (row : List (Int × Int × Int)) : List (Int × Int) := row.foldl (fun cs t => cs ++ cs.map (soon1 t)) [(0, 0)]
noncomputable def minOf : List Int → Int
  | [] => 0
  | i :: ns => leastI i ns
noncomputable def soonEnds (row : List (Int × Int × Int)) (k : Int) : List Int := (soon row).filterMap fun p => if p.1 = k then some p.2 else none
theorem soon_length : ∀ (row : List (Int × Int × Int)) (cs : List (Int × Int)), (row.foldl (fun cs t => cs ++ cs.map (soon1 t)) cs).length = cs.length * 2 ^ row.length
  | [], cs => by simp
  | t :: row, cs => by rw [List.foldl_cons, soon_length row]; simp [Nat.pow_succ]; rw [← Nat.two_mul, Nat.mul_comm 2, Nat.mul_assoc, Nat.mul_comm 2]
theorem soon_snoc (row : List (Int × Int × Int)) (t : Int × Int × Int) : soon (row ++ [t]) = soon row ++ (soon row).map (soon1 t) := by
  unfold soon; rw [List.foldl_append]; rfl
theorem snocRec {α : Type} {P : List α → Prop} (h0 : P []) (h1 : ∀ l a, P l → P (l ++ [a])) : ∀ l, P l := by
  intro l
  generalize hn : l.length = n
  induction n generalizing l with
  | zero => rw [List.length_eq_zero_iff.mp hn]; exact h0
  | succ n ih =>
    have hne : l ≠ [] := fun e => by rw [e] at hn; cases hn
    rw [← List.dropLast_concat_getLast hne]
    exact h1 _ _ (ih _ (by rw [List.length_dropLast, hn]; rfl))
theorem soon_has : ∀ (row : List (Int × Int × Int)), ∀ k : Nat, k ≤ row.length → ∃ p ∈ soon row, p.1 = k := by
  refine snocRec ?_ ?_
  · intro k hk; exact ⟨(0, 0), by simp [soon], by simp at hk; simp [hk]⟩
  · intro row t ih k hk
    rw [soon_snoc]
    rw [List.length_append] at hk
    cases k with
    | zero =>
      obtain ⟨p, hp, e⟩ := ih 0 (Nat.zero_le _)
      exact ⟨p, List.mem_append_left _ hp, e⟩
    | succ k =>
      obtain ⟨p, hp, e⟩ := ih k (by simp at hk; omega)
      exact ⟨soon1 t p, List.mem_append_right _ (List.mem_map_of_mem hp), by simp [soon1, e]⟩

/-- when a hand is first on the film, and one past its last -/
noncomputable def bgn (film : List Int) (one : Int) : Int := (film.idxOf one : Nat)
noncomputable def ovr (film : List Int) (one : Int) : Int := (film.length : Nat) - (film.reverse.idxOf one : Nat)
noncomputable def arnd (film ks : List Int) (one : Int) : List (Int × Int) := ks.filterMap fun two => if bgn film two < bgn film one ∧ bgn film one < ovr film two then some (bgn film two, two) else none
noncomputable def clrs (film ks : List Int) (one : Int) : List (Int × Int) :=
  match arnd film ks one with
  | [] => []
  | p :: ps => [((mostP p ps).2, 1)]
noncomputable def strx (film : List Int) (one : Int) : List Int :=
  ((List.range (ovr film one - bgn film one).toNat).map fun (i : Nat) => bgn film one + (i : Int)).filter fun k => decide (film.getD k.toNat 0 = one) && (decide (k = bgn film one) || !decide (film.getD (k - 1).toNat 0 = one))
theorem idxOf_spec {l : List Int} {a : Int} (h : a ∈ l) : l[l.idxOf a]? = some a ∧ ∀ m, m < l.idxOf a → l[m]? ≠ some a := by
  induction l with
  | nil => nomatch h
  | cons b l ih =>
    rw [List.idxOf_cons]
    by_cases hb : b = a
    · subst hb
      simp
    · have : (b == a) = false := by simpa using hb
      rw [this]
      have h' : a ∈ l := by
        rcases List.mem_cons.mp h with e | e
        · exact absurd e.symm hb
        · exact e
      obtain ⟨h1, h2⟩ := ih h'
      refine ⟨by simpa using h1, fun m hm => ?_⟩
      cases m with
      | zero => simpa using hb
      | succ m => simpa using h2 m (by simpa using hm)
end Mine

namespace Mine
/-- bisect_right over keys -/
noncomputable def bis (ks : List Int) (x : Int) (lo hi : Nat) : Nat :=
  if h : lo < hi then (if x < ks.getD ((lo + hi) / 2) 0 then bis ks x lo ((lo + hi) / 2) else bis ks x ((lo + hi) / 2 + 1) hi) else lo
termination_by hi - lo
decreasing_by
  · omega
  · omega
theorem bis_le (ks : List Int) (x : Int) (lo hi : Nat) (h : lo ≤ hi) : lo ≤ bis ks x lo hi ∧ bis ks x lo hi ≤ hi := by
  induction lo, hi using bis.induct ks x with
  | case1 lo hi h' hx ih =>
    rw [bis, dif_pos h', if_pos hx]
    have := ih (by omega)
    omega
  | case2 lo hi h' hx ih =>
    rw [bis, dif_pos h', if_neg hx]
    have := ih (by omega)
    omega
  | case3 lo hi h' => rw [bis, dif_neg h']; omega
end Mine

namespace Mine
noncomputable abbrev Work := Int × Int × Int
/-- what is left of a work behind a film -/
noncomputable def lf (row : List Work) (φ : List Int) (x : Int) : Int := ((row.find? fun r => decide (r.2.1 = x)).map (·.2.2)).getD 0 - (φ.count x : Nat)
noncomputable def sumL (row : List Work) (φ : List Int) : Int := (row.map fun r => lf row φ r.2.1).sum
noncomputable def pick1 (f : Int → Int) (hand : Int) (r : Work) : Int := if 0 < f r.2.1 ∧ (hand < 0 ∨ ltp (f r.2.1, r.2.1) (f hand, hand) = true) then r.2.1 else hand
noncomputable def pick (f : Int → Int) (rs : List Work) : Int := rs.foldl (pick1 f) (-1)
/-- who is at work in the hour behind a film -/
noncomputable def pickAt (row : List Work) (φ : List Int) : Int := pick (lf row φ) (row.take (bis (row.map (·.1)) (φ.length : Nat) 0 row.length))
structure IsFilm (row : List Work) (F : List Int) : Prop where
  step : ∀ t, t < F.length → 0 < sumL row (F.take t) ∧ F[t]? = some (pickAt row (F.take t))
  fin : ¬ 0 < sumL row F
theorem pick1_mem {f : Int → Int} : ∀ (rs : List Work) (h : Int), (rs.foldl (pick1 f) h) = h ∨ ∃ r ∈ rs, rs.foldl (pick1 f) h = r.2.1
  | [], h => .inl rfl
  | r :: rs, h => by
    rw [List.foldl_cons]
    rcases pick1_mem rs (pick1 f h r) with e | ⟨q, hq, e⟩
    · rw [e]
      unfold pick1
      split
      · exact .inr ⟨r, .head _, rfl⟩
      · exact .inl rfl
    · exact .inr ⟨q, .tail _ hq, e⟩
theorem pick_mem {f : Int → Int} {rs : List Work} (h : 0 ≤ pick f rs) : ∃ r ∈ rs, pick f rs = r.2.1 := by
  rcases pick1_mem rs (-1) with e | e
  · unfold pick at h; rw [e] at h; omega
  · exact e
theorem find_one {row : List Work} (hnd : (row.map (·.2.1)).Nodup) {r : Work} (hr : r ∈ row) : row.find? (fun q => decide (q.2.1 = r.2.1)) = some r := by
  induction row with
  | nil => nomatch hr
  | cons q row ih =>
    rw [List.map_cons, List.nodup_cons] at hnd
    rcases List.mem_cons.mp hr with rfl | hr
    · rw [List.find?_cons_of_pos (by simp)]
    · rw [List.find?_cons_of_neg, ih hnd.2 hr]
      simp only [decide_eq_true_eq]
      intro e
      exact hnd.1 (by rw [e]; exact List.mem_map_of_mem (f := fun q : Work => q.2.1) hr)
theorem lf_need {row : List Work} (hnd : (row.map (·.2.1)).Nodup) {r : Work} (hr : r ∈ row) (φ : List Int) : lf row φ r.2.1 = r.2.2 - (φ.count r.2.1 : Nat) := by
  unfold lf
  rw [find_one hnd hr]
  rfl
theorem lf_snoc (row : List Work) (φ : List Int) (h x : Int) : lf row (φ ++ [h]) x = lf row φ x - if x = h then 1 else 0 := by
  unfold lf
  rw [List.count_append, List.count_singleton]
  by_cases e : x = h
  · subst e; simp; omega
  · rw [if_neg e, if_neg (by simpa using fun q : h = x => e q.symm)]; simp
end Mine

namespace Mine
/-- a work laid in the row -/
noncomputable def ins (row : List Work) (t : Work) : List Work := row.take (bis (row.map (·.1)) t.1 0 row.length) ++ t :: row.drop (bis (row.map (·.1)) t.1 0 row.length)
noncomputable def workOf (dr : List Int) (i : Nat) : Work := ((dr.getD i 0).fmod 8, (i : Int), (dr.getD i 0).fdiv 8 + 1)
noncomputable def rowTo (dr : List Int) (k : Nat) : List Work := (List.range k).foldl (fun row i => ins row (workOf dr i)) []
noncomputable def rowOf (dr : List Int) : List Work := rowTo dr dr.length
noncomputable def books0 (n : Nat) : List (Int × Bk) := (List.range n).map fun (i : Nat) => ((i : Int), (⟨0, 0, 0, 0, []⟩ : Bk))
theorem rowTo_succ (dr : List Int) (k : Nat) : rowTo dr (k + 1) = ins (rowTo dr k) (workOf dr k) := by
  unfold rowTo; rw [List.range_succ, List.foldl_append]; rfl
theorem ins_length (row : List Work) (t : Work) : (ins row t).length = row.length + 1 := by
  unfold ins
  have := (bis_le (row.map (·.1)) t.1 0 row.length (by omega)).2
  rw [List.length_append, List.length_cons, List.length_take, List.length_drop]
  omega
theorem rowTo_length (dr : List Int) : ∀ k, (rowTo dr k).length = k
  | 0 => rfl
  | k + 1 => by rw [rowTo_succ, ins_length, rowTo_length dr k]
/-- the ends told by all choices -/
noncomputable def soonest (row : List Work) : List Int := (List.range row.length).map fun (i : Nat) => minOf (soonEnds row (1 + i))
structure GoodP (hour : Int) (S : RunS) : Prop where
  own : ∃ b, bget S.books (S.heap.getD 0 (0, 0)).2 = some b ∧ (S.begun.contains (S.heap.getD 0 (0, 0)).2 = false → b.cal = [])
  one : ∀ p ∈ S.books, p.2.cal.length ≤ 1
  keys : ∀ o ∈ S.begun, o ∈ S.books.map (·.1)
  top : ¬ (if hour - S.now < (S.heap.getD 0 (0, 0)).1 then hour - S.now else (S.heap.getD 0 (0, 0)).1) < (S.heap.getD 0 (0, 0)).1 → S.begun.contains (S.heap.getD 0 (0, 0)).2 = false ∨ ∃ bg, S.begun = bg ++ [(S.heap.getD 0 (0, 0)).2]
  lens : S.heap.length < 1000 ∧ S.begun.length < 1000 ∧ S.ends.length < 1000 ∧ S.books.length < 1000
/-- what is asked of the row and its books -/
structure PlainLaw (row : List Work) (ks : List Int) (bk : List (Int × Bk)) (Inv : List Work → RunS → Prop) (F : List Int) : Prop where
  ones : (row.map (·.2.1)).Nodup
  nn : ∀ r ∈ row, 0 ≤ r.2.1
  start : Inv (row ++ [(99, -1, 0)]) (run0 bk)
  arr : ∀ t rest S, Inv (t :: rest) S → ¬ (S.heap ≠ [] ∧ S.now < t.1) → Inv rest (arrive t S)
  turn : ∀ t rest S, Inv (t :: rest) S → S.heap ≠ [] → S.now < t.1 → GoodP t.1 S ∧ Inv (t :: rest) (turn t.1 S)
  len : ∀ L S, Inv L S → S.heap.length < 1000
  ends : (runAll (row ++ [(99, -1, 0)]) (run0 bk)).ends = soonest row
  film : IsFilm row F
  filmLen : F.length ≤ 900
  keys : (runAll (row ++ [(99, -1, 0)]) (run0 bk)).books.map (·.1) = ks
  nd : ks.Nodup
  inF : ∀ one ∈ ks, one ∈ F
  sort : ∀ ns' : List Int, ns'.Perm (ks.map (ovr F)) → ns'.Pairwise (· ≤ ·) → ns' = (runAll (row ++ [(99, -1, 0)]) (run0 bk)).ends
  book : ∀ one ∈ ks, bget (runAll (row ++ [(99, -1, 0)]) (run0 bk)).books one = some ⟨1, (strx F one).length, F.count one, ovr F one - bgn F one, clrs F ks one⟩
  sum : ∀ one ∈ ks, ovr F one - bgn F one = F.count one + ((ks.filter fun two => (clrs F ks two).any fun p => p.1 = one).map fun two => ovr F two - bgn F two).sum
end Mine

namespace Mine
theorem ltp_iff {p q : Int × Int} : ltp p q = true ↔ p.1 < q.1 ∨ (p.1 = q.1 ∧ p.2 < q.2) := by
  unfold ltp
  simp only [Bool.or_eq_true, Bool.and_eq_true, decide_eq_true_eq]
theorem ltp_iff' {p q : Int × Int} : ltp p q = false ↔ ¬ (p.1 < q.1 ∨ (p.1 = q.1 ∧ p.2 < q.2)) := by
  rw [← ltp_iff]; cases ltp p q <;> simp
/-- q is not under p -/
noncomputable def lep (p q : Int × Int) : Prop := ltp q p = false
theorem lep_refl (p : Int × Int) : lep p p := ltp_iff'.mpr (by omega)
theorem lep_trans {p q r : Int × Int} (a : lep p q) (b : lep q r) : lep p r := by
  unfold lep at *
  rw [ltp_iff'] at *
  omega
theorem lep_of_lt {p q : Int × Int} (a : ltp p q = true) : lep p q := by
  unfold lep
  rw [ltp_iff'] ; rw [ltp_iff] at a
  omega
theorem lep_anti {p q : Int × Int} (a : lep p q) (b : lep q p) : p = q := by
  unfold lep at *
  rw [ltp_iff'] at *
  obtain ⟨p1, p2⟩ := p
  obtain ⟨q1, q2⟩ := q
  simp only [Prod.mk.injEq] at *
  omega
theorem lep_total {p q : Int × Int} (h : ¬ lep p q) : ltp q p = true := by
  unfold lep at h
  cases e : ltp q p with
  | true => rfl
  | false => exact absurd e h
/-- the entry at a place -/
noncomputable abbrev gt (l : List (Int × Int)) (i : Nat) : Int × Int := l.getD i (0, 0)
theorem gt_set {l : List (Int × Int)} {i j : Nat} {v : Int × Int} (hi : i < l.length) : gt (l.set i v) j = if i = j then v else gt l j := by
  unfold gt
  rw [List.getD_eq_getElem?_getD, List.getElem?_set, List.getD_eq_getElem?_getD]
  split
  · simp [hi]
  · rfl
theorem gt_get {l : List (Int × Int)} {i : Nat} (hi : i < l.length) : gt l i = l[i] := by
  unfold gt
  simp [List.getD, hi]
noncomputable def Heapy (l : List (Int × Int)) : Prop := ∀ i, 0 < i → i < l.length → lep (gt l ((i - 1) / 2)) (gt l i)
theorem Heapy.root {l : List (Int × Int)} (h : Heapy l) : ∀ i, i < l.length → lep (gt l 0) (gt l i) := by
  intro i
  induction i using Nat.strongRecOn with
  | _ i ih =>
    intro hi
    by_cases h0 : i = 0
    · subst h0; exact lep_refl _
    · exact lep_trans (ih ((i - 1) / 2) (by omega) (by omega)) (h i (by omega) hi)
theorem Heapy.root_mem {l : List (Int × Int)} (h : Heapy l) {p : Int × Int} (hp : p ∈ l) : lep (gt l 0) p := by
  obtain ⟨i, hi, e⟩ := List.getElem_of_mem hp
  rw [← e, ← gt_get hi]
  exact h.root i hi
theorem set_set_perm {l : List (Int × Int)} {i j : Nat} {x : Int × Int} (hi : i < l.length) (hj : j < l.length) (hne : i ≠ j) : ((l.set i (gt l j)).set j x).Perm (l.set i x) := by
  rw [List.perm_iff_count]
  intro a
  rw [List.count_set (by rw [List.length_set]; exact hj), List.count_set hi, List.count_set hi]
  rw [List.getElem_set_ne hne, gt_get hj]
  have h1 : (if (l[i] == a) = true then 1 else 0) ≤ l.count a := by
    split
    · rename_i h; rw [show a = l[i] from (by simpa using h : l[i] = a).symm]; exact List.count_pos_iff.mpr (List.getElem_mem hi)
    · omega
  generalize hu : (if (l[i] == a) = true then 1 else 0) = u at *
  generalize hv : (if (l[j] == a) = true then 1 else 0) = v at *
  generalize (if (x == a) = true then 1 else 0) = z
  omega
/-- a heap but for what stands at pos; x may stand there if it is no more than what is below -/
structure But (l : List (Int × Int)) (pos : Nat) (x : Int × Int) : Prop where
  hp : pos < l.length
  a : ∀ i, 0 < i → i < l.length → i ≠ pos → (i - 1) / 2 ≠ pos → lep (gt l ((i - 1) / 2)) (gt l i)
  b : ∀ c, 0 < c → c < l.length → (c - 1) / 2 = pos → lep x (gt l c) ∧ (0 < pos → lep (gt l ((pos - 1) / 2)) (gt l c))
theorem sdown_spec (x : Int × Int) : ∀ (pos : Nat) (l : List (Int × Int)), But l pos x → Heapy (sdown x pos l) ∧ (sdown x pos l).Perm (l.set pos x) := by
  intro pos
  induction pos using Nat.strongRecOn with
  | _ pos ih =>
    intro l B
    obtain ⟨hp, a, b⟩ := B
    cases pos with
    | zero =>
      unfold sdown
      refine ⟨fun i h0 hi => ?_, List.Perm.refl _⟩
      rw [List.length_set] at hi
      rw [gt_set hp, gt_set hp, if_neg (show ¬ 0 = i by omega)]
      split
      · rename_i e; exact (b i h0 hi e.symm).1
      · rename_i e; exact a i h0 hi (by omega) (fun q => e q.symm)
    | succ pos =>
      have hq : pos / 2 < l.length := by omega
      have hne : pos + 1 ≠ pos / 2 := by omega
      unfold sdown
      split
      · rename_i hlt
        have hxq : lep x (gt l (pos / 2)) := lep_of_lt hlt
        have B' : But (l.set (pos + 1) (gt l (pos / 2))) (pos / 2) x := by
         refine ⟨by rw [List.length_set]; exact hq, fun i h0 hi hi1 hi2 => ?_, fun c h0 hc hcq => ?_⟩
         · rw [List.length_set] at hi
           rw [gt_set hp, gt_set hp]
           by_cases e1 : pos + 1 = (i - 1) / 2
           · rw [if_pos e1, if_neg (by omega)]
             have := (b i h0 hi e1.symm).2 (by omega)
             rwa [Nat.add_sub_cancel] at this
           · have e2 : pos + 1 ≠ i := fun q => hi2 (by omega)
             rw [if_neg e1, if_neg e2]
             exact a i h0 hi (fun q => e2 q.symm) fun q => e1 q.symm
         · rw [List.length_set] at hc
           have par : 0 < pos / 2 → lep (gt l ((pos / 2 - 1) / 2)) (gt l (pos / 2)) := fun h => a (pos / 2) h hq (by omega) (by omega)
           by_cases e1 : pos + 1 = c
           · refine ⟨?_, fun h => ?_⟩
             · rw [gt_set hp, if_pos e1]; exact hxq
             · rw [gt_set hp, gt_set hp, if_pos e1, if_neg (by omega)]; exact par h
           · have hqc : lep (gt l (pos / 2)) (gt l c) := by
               have := a c h0 hc (fun q => e1 q.symm) (by omega)
               rwa [hcq] at this
             refine ⟨?_, fun h => ?_⟩
             · rw [gt_set hp, if_neg e1]; exact lep_trans hxq hqc
             · rw [gt_set hp, gt_set hp, if_neg e1, if_neg (by omega)]; exact lep_trans (par h) hqc
        obtain ⟨h1, h2⟩ := ih (pos / 2) (by omega) (l.set (pos + 1) (gt l (pos / 2))) B'
        exact ⟨h1, h2.trans (set_set_perm hp hq hne)⟩
      · rename_i hlt
        have hqx : lep (gt l (pos / 2)) x := by
          unfold lep; cases e : ltp x (gt l (pos / 2)) with
          | true => exact absurd e hlt
          | false => rfl
        refine ⟨fun i h0 hi => ?_, List.Perm.refl _⟩
        rw [List.length_set] at hi
        rw [gt_set hp, gt_set hp]
        by_cases e1 : pos + 1 = (i - 1) / 2
        · rw [if_pos e1, if_neg (by omega)]
          exact (b i h0 hi e1.symm).1
        · rw [if_neg e1]
          by_cases e2 : pos + 1 = i
          · rw [if_pos e2, show (i - 1) / 2 = pos / 2 by omega]; exact hqx
          · rw [if_neg e2]
            exact a i h0 hi (fun q => e2 q.symm) fun q => e1 q.symm
/-- a heap but for a hole -/
structure Hole (l : List (Int × Int)) (pos : Nat) : Prop where
  hp : pos < l.length
  a : ∀ i, 0 < i → i < l.length → i ≠ pos → (i - 1) / 2 ≠ pos → lep (gt l ((i - 1) / 2)) (gt l i)
  b : ∀ c, 0 < c → c < l.length → (c - 1) / 2 = pos → 0 < pos → lep (gt l ((pos - 1) / 2)) (gt l c)
theorem supGo_spec (l : List (Int × Int)) (pos : Nat) (H : Hole l pos) : Hole (supGo l pos).1 (supGo l pos).2 ∧ ¬ 2 * (supGo l pos).2 + 1 < (supGo l pos).1.length ∧ ∀ x, ((supGo l pos).1.set (supGo l pos).2 x).Perm (l.set pos x) := by
  induction l, pos using supGo.induct with
  | case2 l pos h =>
    rw [supGo, dif_neg h]
    exact ⟨H, h, fun x => List.Perm.refl _⟩
  | case1 l pos h c ih =>
    rw [supGo, dif_pos h]
    obtain ⟨hp, a, b⟩ := H
    have hc : c < l.length ∧ 0 < c ∧ (c - 1) / 2 = pos ∧ c ≠ pos := by
      simp only [c]; split <;> omega
    have hsm : ∀ i, 0 < i → i < l.length → (i - 1) / 2 = pos → lep (gt l c) (gt l i) := by
      intro i h0 hi e
      have hi' : i = 2 * pos + 1 ∨ i = 2 * pos + 2 := by omega
      simp only [c]
      split
      · rename_i hcond
        rcases hi' with rfl | rfl
        · exact hcond.2
        · exact lep_refl _
      · rename_i hcond
        rcases hi' with rfl | rfl
        · exact lep_refl _
        · cases e : ltp (gt l (2 * pos + 1)) (gt l (2 * pos + 2)) with
          | true => exact lep_of_lt e
          | false => exact absurd ⟨hi, e⟩ hcond
    suffices H' : Hole (l.set pos (l.getD c (0, 0))) c by
      obtain ⟨h1, h2, h3⟩ := ih H'
      exact ⟨h1, h2, fun x => (h3 x).trans (set_set_perm hp hc.1 hc.2.2.2.symm)⟩
    refine ⟨by rw [List.length_set]; exact hc.1, fun i h0 hi hi1 hi2 => ?_, fun d h0 hd e1 e2 => ?_⟩
    · rw [List.length_set] at hi
      show lep (gt (l.set pos (gt l c)) _) (gt (l.set pos (gt l c)) _)
      rw [gt_set hp, gt_set hp]
      by_cases e1 : pos = (i - 1) / 2
      · rw [if_pos e1, if_neg (by omega)]
        exact hsm i h0 hi e1.symm
      · rw [if_neg e1]
        by_cases e2 : pos = i
        · rw [if_pos e2]
          have := b c hc.2.1 hc.1 hc.2.2.1 (by omega)
          rwa [e2] at this
        · rw [if_neg e2]
          exact a i h0 hi (fun q => e2 q.symm) fun q => e1 q.symm
    · rw [List.length_set] at hd
      show lep (gt (l.set pos (gt l c)) _) (gt (l.set pos (gt l c)) _)
      rw [gt_set hp, gt_set hp, hc.2.2.1, if_pos rfl, if_neg (by omega)]
      have := a d h0 hd (by omega) (by omega)
      rwa [e1] at this
theorem sup_spec {l : List (Int × Int)} (H : Hole l 0) : Heapy (sup l) ∧ (sup l).Perm l := by
  unfold sup
  obtain ⟨H', hl, hperm⟩ := supGo_spec l 0 H
  generalize supGo l 0 = r at *
  obtain ⟨l', p⟩ := r
  dsimp only at *
  obtain ⟨hp, a, b⟩ := H'
  suffices B' : But (l'.set p (gt l 0)) p (gt l 0) by
    obtain ⟨h1, h2⟩ := sdown_spec (gt l 0) p (l'.set p (gt l 0)) B'
    refine ⟨h1, h2.trans ?_⟩
    rw [List.set_set]
    refine (hperm _).trans ?_
    have : l.set 0 (gt l 0) = l := by
      rw [gt_get H.hp]; exact List.set_getElem_self ..
    rw [this]
  refine ⟨by rw [List.length_set]; exact hp, fun i h0 hi e1 e2 => ?_, fun c h0 hc e => ?_⟩
  · rw [List.length_set] at hi
    rw [gt_set hp, gt_set hp, if_neg (fun q => e2 q.symm), if_neg (fun q => e1 q.symm)]
    exact a i h0 hi e1 e2
  · rw [List.length_set] at hc
    omega
theorem gt_cons {y : Int × Int} {l : List (Int × Int)} {i : Nat} (h : 0 < i) : gt (y :: l) i = gt l (i - 1) := by
  cases i with
  | zero => omega
  | succ i => rfl
theorem Heapy.hole {y x : Int × Int} {l : List (Int × Int)} (h : Heapy (y :: l)) : Hole (x :: l) 0 := by
  refine ⟨by simp, fun i h0 hi e1 e2 => ?_, fun c _ _ _ h => by omega⟩
  have := h i h0 hi
  rw [gt_cons h0, gt_cons (by omega)] at this ⊢
  exact this
theorem replace_spec {y x : Int × Int} {l : List (Int × Int)} (h : Heapy (y :: l)) : Heapy (sup (x :: l)) ∧ (sup (x :: l)).Perm (x :: l) := sup_spec h.hole
theorem gt_app {l m : List (Int × Int)} {i : Nat} (h : i < l.length) : gt (l ++ m) i = gt l i := by
  unfold gt
  rw [List.getD_eq_getElem?_getD, List.getElem?_append_left h, List.getD_eq_getElem?_getD]
theorem Heapy.init {l : List (Int × Int)} {z : Int × Int} (h : Heapy (l ++ [z])) : Heapy l := fun i h0 hi => by
  have := h i h0 (by rw [List.length_append]; omega)
  rw [gt_app hi, gt_app (by omega)] at this
  exact this
theorem hpop_spec {y : Int × Int} {l : List (Int × Int)} (h : Heapy (y :: l)) : Heapy (hpop (y :: l)).2 ∧ (y :: (hpop (y :: l)).2).Perm (y :: l) := by
  obtain ⟨l', z, e⟩ : ∃ l' z, y :: l = l' ++ [z] := ⟨(y :: l).dropLast, (y :: l).getLast (by simp), (List.dropLast_concat_getLast (by simp)).symm⟩
  cases l' with
  | nil =>
    cases e
    exact ⟨(fun i h0 hi => absurd hi (Nat.not_lt_zero _)), List.Perm.refl _⟩
  | cons y' l' =>
    rw [List.cons_append] at e
    injection e with e1 e2
    subst e1
    subst e2
    have h' : Heapy (y :: l') := Heapy.init (l := y :: l') (z := z) h
    obtain ⟨h1, h2⟩ := replace_spec (x := z) h'
    have hq : (hpop (y :: (l' ++ [z]))).2 = sup (z :: l') := by
      unfold hpop
      rw [← List.cons_append, List.dropLast_concat]
      dsimp only
      rw [List.getLast?_concat]
      rfl
    rw [hq]
    exact ⟨h1, List.Perm.cons _ (h2.trans (List.perm_append_singleton z l').symm)⟩
theorem push_spec {x : Int × Int} {l : List (Int × Int)} (h : Heapy l) : Heapy (sdown x l.length (l ++ [x])) ∧ (sdown x l.length (l ++ [x])).Perm (x :: l) := by
  suffices B' : But (l ++ [x]) l.length x by
    obtain ⟨h1, h2⟩ := sdown_spec x l.length (l ++ [x]) B'
    refine ⟨h1, h2.trans ?_⟩
    have : (l ++ [x]).set l.length x = l ++ [x] := by rw [List.set_append_right _ _ (by omega)]; simp
    rw [this]
    exact List.perm_append_singleton x l
  refine ⟨by simp, fun i h0 hi e1 e2 => ?_, fun c h0 hc e => ?_⟩
  · rw [List.length_append, List.length_singleton] at hi
    have := h i h0 (by omega)
    rw [gt_app (by omega), gt_app (by omega)]
    exact this
  · rw [List.length_append, List.length_singleton] at hc
    omega
end Mine

namespace Mine
theorem bis_at (ks : List Int) (x : Int) (p n : Nat) (h1 : ∀ i, i < p → ks.getD i 0 ≤ x) (h2 : ∀ i, p ≤ i → i < n → x < ks.getD i 0) (lo hi : Nat) : lo ≤ p → p ≤ hi → hi ≤ n → bis ks x lo hi = p := by
  induction lo, hi using bis.induct ks x with
  | case1 lo hi h hx ih =>
    intro a b c
    rw [bis, dif_pos h, if_pos hx]
    refine ih a ?_ (by omega)
    rcases Nat.lt_or_ge ((lo + hi) / 2) p with q | q
    · have := h1 _ q; omega
    · exact q
  | case2 lo hi h hx ih =>
    intro a b c
    rw [bis, dif_pos h, if_neg hx]
    refine ih ?_ b c
    rcases Nat.lt_or_ge ((lo + hi) / 2) p with q | q
    · omega
    · have := h2 _ q (by omega); omega
  | case3 lo hi h =>
    intro a b c
    rw [bis, dif_neg h]
    omega
theorem bis_row {pre post : List Work} {x : Int} (h1 : ∀ r ∈ pre, r.1 ≤ x) (h2 : ∀ r ∈ post, x < r.1) : bis ((pre ++ post).map (·.1)) x 0 (pre ++ post).length = pre.length := by
  refine bis_at _ _ _ (pre ++ post).length (fun i hi => ?_) (fun i hi hn => ?_) 0 _ (by omega) (by rw [List.length_append]; omega) (Nat.le_refl _)
  · rw [List.getD_eq_getElem?_getD, List.getElem?_map, List.getElem?_append_left hi, List.getElem?_eq_getElem hi]
    exact h1 _ (List.getElem_mem hi)
  · rw [List.length_append] at hn
    rw [List.getD_eq_getElem?_getD, List.getElem?_map, List.getElem?_append_right hi, List.getElem?_eq_getElem (by omega)]
    exact h2 _ (List.getElem_mem _)
theorem take_bis {pre post : List Work} {x : Int} (h1 : ∀ r ∈ pre, r.1 ≤ x) (h2 : ∀ r ∈ post, x < r.1) : (pre ++ post).take (bis ((pre ++ post).map (·.1)) x 0 (pre ++ post).length) = pre := by
  rw [bis_row h1 h2, List.take_left']
  rfl
noncomputable abbrev Srt (row : List Work) : Prop := row.Pairwise fun a b => a.1 ≤ b.1
theorem split_hour : ∀ (row : List Work) (x : Int), Srt row → ∃ pre post, row = pre ++ post ∧ (∀ r ∈ pre, r.1 ≤ x) ∧ (∀ r ∈ post, x < r.1)
  | [], x, _ => ⟨[], [], rfl, List.forall_mem_nil _, List.forall_mem_nil _⟩
  | r :: row, x, h => by
    obtain ⟨h1, h2⟩ := List.pairwise_cons.mp h
    by_cases hr : r.1 ≤ x
    · obtain ⟨pre, post, rfl, a, b⟩ := split_hour row x h2
      exact ⟨r :: pre, post, rfl, List.forall_mem_cons.mpr ⟨hr, a⟩, b⟩
    · refine ⟨[], r :: row, rfl, List.forall_mem_nil _, List.forall_mem_cons.mpr ⟨by omega, fun q hq => ?_⟩⟩
      have := h1 q hq
      omega
theorem ins_split {row : List Work} (t : Work) (h : Srt row) : ∃ pre post, row = pre ++ post ∧ ins row t = pre ++ t :: post ∧ (∀ r ∈ pre, r.1 ≤ t.1) ∧ (∀ r ∈ post, t.1 < r.1) := by
  obtain ⟨pre, post, rfl, a, b⟩ := split_hour row t.1 h
  refine ⟨pre, post, rfl, ?_, a, b⟩
  unfold ins
  rw [bis_row a b, List.take_left' rfl, List.drop_left' rfl]
theorem ins_srt {row : List Work} {t : Work} (h : Srt row) : Srt (ins row t) ∧ (ins row t).Perm (t :: row) := by
  obtain ⟨pre, post, rfl, e, a, b⟩ := ins_split t h
  rw [e]
  obtain ⟨h1, h2, h3⟩ := List.pairwise_append.mp h
  refine ⟨List.pairwise_append.mpr ⟨h1, List.pairwise_cons.mpr ⟨fun q hq => Int.le_of_lt (b q hq), h2⟩, fun p hp q hq => ?_⟩, List.perm_middle⟩
  rcases List.mem_cons.mp hq with rfl | hq
  · exact a p hp
  · exact h3 p hp q hq
theorem rowTo_ok (dr : List Int) : ∀ k, Srt (rowTo dr k) ∧ (rowTo dr k).Perm ((List.range k).map (workOf dr))
  | 0 => ⟨List.Pairwise.nil, List.Perm.refl _⟩
  | k + 1 => by
    obtain ⟨h1, h2⟩ := rowTo_ok dr k
    rw [rowTo_succ]
    obtain ⟨h3, h4⟩ := ins_srt (t := workOf dr k) h1
    refine ⟨h3, h4.trans ?_⟩
    rw [List.range_succ, List.map_append]
    exact (List.Perm.cons _ h2).trans (List.perm_append_singleton _ _).symm
structure RowOk (row : List Work) : Prop where
  nd : (row.map (·.2.1)).Nodup
  nn : ∀ r ∈ row, 0 ≤ r.2.1
  hr : ∀ r ∈ row, 0 ≤ r.1 ∧ r.1 ≤ 7
  need : ∀ r ∈ row, 1 ≤ r.2.2 ∧ r.2.2 ≤ 5
  srt : Srt row
  len : row.length ≤ 7
noncomputable abbrev kst (n : Nat) : List Int := (List.range n).map fun (i : Nat) => (i : Int)
theorem kst_nodup (n : Nat) : (kst n).Nodup := List.Pairwise.map _ (fun a b (h : a ≠ b) => by omega) List.nodup_range
theorem rowOf_ok {dr : List Int} (h : ∀ d ∈ dr, 0 ≤ d ∧ d < 40) (hl : dr.length ≤ 7) : RowOk (rowOf dr) ∧ ((rowOf dr).map (·.2.1)).Perm (kst dr.length) := by
  obtain ⟨h1, h2⟩ := rowTo_ok dr dr.length
  have hp : ((rowOf dr).map (·.2.1)).Perm (kst dr.length) := by
    have := h2.map (·.2.1)
    rw [List.map_map] at this
    exact this
  have hm : ∀ r ∈ rowOf dr, ∃ i, i < dr.length ∧ r = workOf dr i := fun r hr => by
    obtain ⟨i, hi, e⟩ := List.mem_map.mp (h2.mem_iff.mp hr)
    exact ⟨i, List.mem_range.mp hi, e.symm⟩
  have hd : ∀ i, i < dr.length → 0 ≤ dr.getD i 0 ∧ dr.getD i 0 < 40 := fun i hi => by
    rw [List.getD_eq_getElem?_getD, List.getElem?_eq_getElem hi]
    exact h _ (List.getElem_mem hi)
  refine ⟨⟨(hp.nodup_iff).mpr (kst_nodup _), fun r hr => ?_, fun r hr => ?_, fun r hr => ?_, h1, by rw [show (rowOf dr).length = dr.length from rowTo_length dr _]; exact hl⟩, hp⟩
  · obtain ⟨i, hi, rfl⟩ := hm r hr
    show (0 : Int) ≤ (i : Int)
    omega
  · obtain ⟨i, hi, rfl⟩ := hm r hr
    have := hd i hi
    show 0 ≤ (dr.getD i 0).fmod 8 ∧ (dr.getD i 0).fmod 8 ≤ 7
    rw [Int.fmod_eq_emod_of_nonneg _ (by decide)]
    omega
  · obtain ⟨i, hi, rfl⟩ := hm r hr
    have := hd i hi
    show 1 ≤ (dr.getD i 0).fdiv 8 + 1 ∧ (dr.getD i 0).fdiv 8 + 1 ≤ 5
    rw [Int.fdiv_eq_ediv_of_nonneg _ (by decide)]
    omega
end Mine

namespace Mine
/-- the least of what is left -/
noncomputable def Best (f : Int → Int) (rs : List Work) (h : Int) : Prop :=
  (h = -1 ∧ ∀ r ∈ rs, ¬ 0 < f r.2.1) ∨ (0 ≤ h ∧ (∃ r ∈ rs, r.2.1 = h) ∧ 0 < f h ∧ ∀ r ∈ rs, 0 < f r.2.1 → lep (f h, h) (f r.2.1, r.2.1))
theorem pick_best {f : Int → Int} : ∀ (rs : List Work), (∀ r ∈ rs, 0 ≤ r.2.1) → Best f rs (pick f rs) := by
  refine snocRec (fun _ => .inl ⟨rfl, List.forall_mem_nil _⟩) ?_
  intro rs r ih h0
  have hb := ih fun q hq => h0 q (List.mem_append_left _ hq)
  have hr0 := h0 r (List.mem_append_right _ (.head _))
  have e : pick f (rs ++ [r]) = pick1 f (pick f rs) r := by unfold pick; rw [List.foldl_append]; rfl
  rw [e]
  generalize pick f rs = hand at hb
  unfold pick1
  rcases hb with ⟨rfl, hn⟩ | ⟨hge, ⟨q, hq, hqe⟩, hpos, hall⟩
  · by_cases hr : 0 < f r.2.1
    · rw [if_pos ⟨hr, .inl (by omega)⟩]
      refine .inr ⟨hr0, ⟨r, by simp, rfl⟩, hr, fun p hp hp0 => ?_⟩
      rcases List.mem_append.mp hp with hp | hp
      · exact absurd hp0 (hn p hp)
      · rw [List.mem_singleton.mp hp]; exact lep_refl _
    · rw [if_neg (fun h => hr h.1)]
      refine .inl ⟨rfl, fun p hp => ?_⟩
      rcases List.mem_append.mp hp with hp | hp
      · exact hn p hp
      · rw [List.mem_singleton.mp hp]; exact hr
  · by_cases hr : 0 < f r.2.1 ∧ (hand < 0 ∨ ltp (f r.2.1, r.2.1) (f hand, hand) = true)
    · rw [if_pos hr]
      have hlt : ltp (f r.2.1, r.2.1) (f hand, hand) = true := hr.2.resolve_left (by omega)
      refine .inr ⟨hr0, ⟨r, by simp, rfl⟩, hr.1, fun p hp hp0 => ?_⟩
      rcases List.mem_append.mp hp with hp | hp
      · exact lep_trans (lep_of_lt hlt) (hall p hp hp0)
      · rw [List.mem_singleton.mp hp]; exact lep_refl _
    · rw [if_neg hr]
      refine .inr ⟨hge, ⟨q, List.mem_append_left _ hq, hqe⟩, hpos, fun p hp hp0 => ?_⟩
      rcases List.mem_append.mp hp with hp | hp
      · exact hall p hp hp0
      · rw [List.mem_singleton.mp hp] at hp0 ⊢
        unfold lep
        cases e2 : ltp (f r.2.1, r.2.1) (f hand, hand) with
        | false => rfl
        | true => exact absurd ⟨hp0, .inr e2⟩ hr
theorem pick_is {f : Int → Int} {rs : List Work} {h : Int} (h0 : ∀ r ∈ rs, 0 ≤ r.2.1) (hm : ∃ r ∈ rs, r.2.1 = h) (hp : 0 < f h) (hall : ∀ r ∈ rs, 0 < f r.2.1 → lep (f h, h) (f r.2.1, r.2.1)) : pick f rs = h := by
  rcases pick_best (f := f) rs h0 with ⟨e, hn⟩ | ⟨hge, ⟨q, hq, hqe⟩, hpos, hall'⟩
  · obtain ⟨r, hr, e'⟩ := hm
    exact absurd (e' ▸ hp) (hn r hr)
  · obtain ⟨r, hr, e'⟩ := hm
    have a := hall q hq (hqe ▸ hpos)
    rw [hqe] at a
    have b := hall' r hr (e' ▸ hp)
    rw [e'] at b
    exact congrArg Prod.snd (lep_anti b a)
theorem pick_none {f : Int → Int} {rs : List Work} (h0 : ∀ r ∈ rs, 0 ≤ r.2.1) (hn : ∀ r ∈ rs, ¬ 0 < f r.2.1) : pick f rs = -1 := by
  rcases pick_best (f := f) rs h0 with ⟨e, _⟩ | ⟨_, ⟨q, hq, hqe⟩, hpos, _⟩
  · exact e
  · exact absurd (hqe ▸ hpos) (hn q hq)
section
variable {φ : List Int} {x h : Int} {n : Nat}
theorem bgn_app (hx : x ∈ φ) (m : List Int) : bgn (φ ++ m) x = bgn φ x := by
  unfold bgn; rw [List.idxOf_append, if_pos hx]
theorem bgn_lt (hx : x ∈ φ) : bgn φ x < φ.length := by
  unfold bgn; have := List.idxOf_lt_length_iff.mpr hx; omega
theorem bgn_out (hx : x ∉ φ) : bgn φ x = φ.length := by
  unfold bgn
  congr 1
  have h1 := List.idxOf_lt_length_iff (l := φ) (a := x)
  have h2 : φ.idxOf x ≤ φ.length := List.idxOf_le_length
  have h3 : ¬ φ.idxOf x < φ.length := fun q => hx (h1.mp q)
  omega
theorem bgn_new (hx : x ∉ φ) (hn : 0 < n) : bgn (φ ++ List.replicate n x) x = φ.length := by
  unfold bgn
  rw [List.idxOf_append, if_neg hx]
  obtain ⟨n, rfl⟩ : ∃ k, n = k + 1 := ⟨n - 1, by omega⟩
  rw [List.replicate_succ, List.idxOf_cons_self]
  simp
theorem bgn_nonneg : 0 ≤ bgn φ x := by unfold bgn; omega
theorem ovr_seg (hx : x ≠ h) : ovr (φ ++ List.replicate n h) x = ovr φ x := by
  unfold ovr
  have hm : x ∉ List.replicate n h := fun hm => hx (List.eq_of_mem_replicate hm)
  rw [List.reverse_append, List.reverse_replicate, List.idxOf_append, if_neg hm, List.length_append, List.length_replicate]
  omega
theorem ovr_own (hn : 0 < n) : ovr (φ ++ List.replicate n h) h = φ.length + n := by
  unfold ovr
  have hm : h ∈ List.replicate n h := List.mem_replicate.mpr ⟨by omega, rfl⟩
  rw [List.reverse_append, List.reverse_replicate, List.idxOf_append, if_pos hm, List.length_append, List.length_replicate]
  obtain ⟨n, rfl⟩ : ∃ k, n = k + 1 := ⟨n - 1, by omega⟩
  rw [List.replicate_succ, List.idxOf_cons_self]
  omega
theorem ovr_le : ovr φ x ≤ φ.length := by unfold ovr; omega
theorem ovr_nonneg : 0 ≤ ovr φ x := by
  unfold ovr
  have : φ.reverse.idxOf x ≤ φ.reverse.length := List.idxOf_le_length
  rw [List.length_reverse] at this
  omega
theorem ovr_snoc : ovr (φ ++ [h]) x = if x = h then (φ.length : Int) + 1 else ovr φ x := by
  split
  · rename_i e; subst e; exact ovr_own (n := 1) (by decide)
  · rename_i e; exact ovr_seg (n := 1) e
theorem lt_ovr : ∀ (φ : List Int) (k : Nat), φ[k]? = some x → (k : Int) < ovr φ x := by
  refine snocRec (fun k h => by simp at h) ?_
  intro φ h ih k hk
  rw [ovr_snoc]
  rcases Nat.lt_or_ge k φ.length with hl | hl
  · rw [List.getElem?_append_left hl] at hk
    have := ih k hk
    split
    · omega
    · exact this
  · rw [List.getElem?_append_right hl] at hk
    obtain ⟨h1, h2⟩ := List.getElem?_eq_some_iff.mp hk
    rw [List.length_singleton] at h1
    have : k = φ.length := by omega
    subst this
    simp at h2
    rw [if_pos h2.symm]
    omega
theorem bgn_le : ∀ (k : Nat), φ[k]? = some x → bgn φ x ≤ k := by
  intro k hk
  unfold bgn
  obtain ⟨_, h2⟩ := idxOf_spec (List.mem_of_getElem? hk)
  rcases Nat.lt_or_ge k (φ.idxOf x) with hl | hl
  · exact absurd hk (h2 k hl)
  · omega
theorem count_seg (φ : List Int) (x h : Int) (n : Nat) : (φ ++ List.replicate n h).count x = φ.count x + if x = h then n else 0 := by
  rw [List.count_append, List.count_replicate]
  by_cases e : x = h
  · subst e; simp
  · rw [if_neg e, if_neg (by simpa using fun q : h = x => e q.symm)]
theorem mem_seg (hn : 0 < n) : x ∈ φ ++ List.replicate n h ↔ x ∈ φ ∨ x = h := by
  rw [List.mem_append, List.mem_replicate]
  constructor
  · rintro (h | ⟨_, h⟩)
    · exact .inl h
    · exact .inr h
  · rintro (h | h)
    · exact .inl h
    · exact .inr ⟨by omega, h⟩
theorem last_seg (hn : 0 < n) : (φ ++ List.replicate n h).getLast? = some h := by
  obtain ⟨n, rfl⟩ : ∃ k, n = k + 1 := ⟨n - 1, by omega⟩
  rw [List.replicate_succ', ← List.append_assoc, List.getLast?_concat]
end
/-- the places where a stretch of x begins -/
noncomputable def stc (φ : List Int) (x : Int) (k : Nat) : Bool := decide (φ[k]? = some x) && (decide (k = 0) || !decide (φ[k - 1]? = some x))
noncomputable def nst (φ : List Int) (x : Int) : Nat := ((List.range φ.length).filter (stc φ x)).length
theorem nst_snoc (φ : List Int) (x h : Int) : nst (φ ++ [h]) x = nst φ x + if h = x ∧ φ.getLast? ≠ some x then 1 else 0 := by
  unfold nst
  rw [List.length_append, List.length_singleton, List.range_succ, List.filter_append, List.length_append]
  congr 1
  · congr 1
    refine List.filter_congr fun k hk => ?_
    have hk := List.mem_range.mp hk
    unfold stc
    rw [List.getElem?_append_left hk, List.getElem?_append_left (by omega)]
  · have e1 : (φ ++ [h])[φ.length]? = some h := by simp
    have hs : stc (φ ++ [h]) x φ.length = decide (h = x ∧ φ.getLast? ≠ some x) := by
      unfold stc
      rw [e1]
      by_cases hφ : φ = []
      · subst hφ; simp
      · have hl : 0 < φ.length := List.length_pos_iff.mpr hφ
        rw [List.getElem?_append_left (by omega), ← List.getLast?_eq_getElem?]
        by_cases hx : h = x
        · subst hx
          by_cases hq : φ.getLast? = some h
          · simp [hq, hφ]
          · simp [hq]
        · simp [hx]
    by_cases hc : h = x ∧ φ.getLast? ≠ some x
    · rw [if_pos hc, List.filter_cons_of_pos (by rw [hs, decide_eq_true hc])]; rfl
    · rw [if_neg hc, List.filter_cons_of_neg (by rw [hs, decide_eq_false hc]; decide)]; rfl
theorem nst_seg (φ : List Int) (x h : Int) : ∀ n : Nat, 0 < n → nst (φ ++ List.replicate n h) x = nst φ x + if h = x ∧ φ.getLast? ≠ some x then 1 else 0
  | 1, _ => nst_snoc φ x h
  | n + 2, _ => by
    rw [List.replicate_succ', ← List.append_assoc, nst_snoc, nst_seg φ x h (n + 1) (by omega), last_seg (by omega), if_neg (show ¬ (h = x ∧ some h ≠ some x) from fun q => q.2 (by rw [q.1])), Nat.add_zero]
theorem getD_iff {φ : List Int} {k : Nat} {x : Int} (hk : k < φ.length) : (φ.getD k 0 = x) ↔ φ[k]? = some x := by
  rw [List.getD_eq_getElem?_getD, List.getElem?_eq_getElem hk]
  simp
theorem filter_none {α : Type} {p : α → Bool} {l : List α} (h : ∀ a ∈ l, p a = false) : l.filter p = [] := by
  rw [List.filter_eq_nil_iff]
  intro a ha; rw [h a ha]; decide
theorem strx_length {φ : List Int} {x : Int} (hx : x ∈ φ) : (strx φ x).length = nst φ x := by
  have hb := bgn_nonneg (φ := φ) (x := x)
  have hbl := bgn_lt hx
  have hol := ovr_le (φ := φ) (x := x)
  obtain ⟨b, hb'⟩ : ∃ b : Nat, bgn φ x = b := ⟨(bgn φ x).toNat, by omega⟩
  obtain ⟨k₀, hk₀⟩ := List.getElem?_of_mem hx
  have hko := lt_ovr φ k₀ hk₀
  have hkb := bgn_le k₀ hk₀
  obtain ⟨m, hm⟩ : ∃ m : Nat, (ovr φ x - bgn φ x).toNat = m := ⟨_, rfl⟩
  obtain ⟨c, hc⟩ : ∃ c : Nat, φ.length = b + m + c := ⟨φ.length - (b + m), by omega⟩
  unfold strx nst
  rw [hm, hc, List.range_add, List.range_add, List.filter_append, List.filter_append, List.filter_map, List.length_map]
  rw [filter_none (l := List.range b), filter_none (l := (List.range c).map _), List.nil_append, List.append_nil, List.filter_map, List.length_map]
  · congr 1
    refine List.filter_congr fun i hi => ?_
    have hi := List.mem_range.mp hi
    dsimp only [Function.comp]
    rw [hb']
    unfold stc
    have e1 : ((b : Int) + (i : Int)).toNat = b + i := by omega
    rw [e1, decide_eq_decide.mpr (getD_iff (by omega))]
    congr 1
    by_cases h0 : i = 0
    · subst h0
      have l1 : decide ((b : Int) + ((0 : Nat) : Int) = (b : Int)) = true := by simp
      rw [l1, Bool.true_or]
      by_cases hb0 : b = 0
      · subst hb0; simp
      · have : ¬ φ[b + 0 - 1]? = some x := fun q => by
          have := bgn_le _ q
          omega
        rw [decide_eq_false this]; simp
    · have e2 : ((b : Int) + (i : Int) - 1).toNat = b + i - 1 := by omega
      rw [e2, decide_eq_decide.mpr (getD_iff (by omega)), decide_eq_false (show ¬ ((b : Int) + (i : Int) = (b : Int)) by omega), decide_eq_false (show ¬ (b + i = 0) by omega)]
  · intro k hk
    obtain ⟨i, hi, rfl⟩ := List.mem_map.mp hk
    have hn : ¬ φ[b + m + i]? = some x := fun q => by have := lt_ovr φ _ q; omega
    unfold stc
    rw [decide_eq_false hn, Bool.false_and]
  · intro k hk
    have hk := List.mem_range.mp hk
    have hn : ¬ φ[k]? = some x := fun q => by have := bgn_le _ q; omega
    unfold stc
    rw [decide_eq_false hn, Bool.false_and]
end Mine

namespace Mine
/-- what is left of a work -/
noncomputable def lft (φ : List Int) (r : Work) : Int := r.2.2 - (φ.count r.2.1 : Nat)
theorem lft_seg (φ : List Int) (h : Int) (n : Nat) (r : Work) : lft (φ ++ List.replicate n h) r = lft φ r - if r.2.1 = h then (n : Int) else 0 := by
  unfold lft
  rw [count_seg]
  split <;> omega
theorem lf_lft {row : List Work} (hnd : (row.map (·.2.1)).Nodup) {r : Work} (hr : r ∈ row) (φ : List Int) : lf row φ r.2.1 = lft φ r := lf_need hnd hr φ
theorem lf_seg (row : List Work) (φ : List Int) (h : Int) (n : Nat) (x : Int) : lf row (φ ++ List.replicate n h) x = lf row φ x - if x = h then (n : Int) else 0 := by
  unfold lf
  rw [count_seg]
  split <;> omega
theorem one_inj {row : List Work} (hnd : (row.map (·.2.1)).Nodup) {r q : Work} (hr : r ∈ row) (hq : q ∈ row) (e : r.2.1 = q.2.1) : r = q := by
  have h1 := find_one hnd hr
  rw [e, find_one hnd hq] at h1
  exact (Option.some.inj h1).symm
noncomputable abbrev heapOf (pre : List Work) (φ : List Int) : List (Int × Int) := (pre.filter fun r => decide (0 < lft φ r)).map fun r => (lft φ r, r.2.1)
noncomputable abbrev overOf (pre : List Work) (φ : List Int) : List Int := (pre.filter fun r => decide (lft φ r = 0)).map fun r => ovr φ r.2.1
/-- the run, but for its books: pre has come, post not yet; φ is the film up to now -/
structure RI (row pre post : List Work) (φ : List Int) (S : RunS) : Prop where
  split : row = pre ++ post
  now : S.now = φ.length
  preH : ∀ r ∈ pre, r.1 ≤ S.now
  postH : ∀ r ∈ post, S.now ≤ r.1
  film : ∀ t, t < φ.length → 0 < sumL row (φ.take t) ∧ φ[t]? = some (pickAt row (φ.take t))
  cnt : ∀ r ∈ pre, 0 ≤ lft φ r
  unborn : ∀ r ∈ post, r.2.1 ∉ φ
  heapy : Heapy S.heap
  perm : S.heap.Perm (heapOf pre φ)
  beg : ∀ x, x ∈ S.begun ↔ x ∈ φ ∧ ∃ r ∈ pre, r.2.1 = x ∧ 0 < lft φ r
  begS : S.begun.Pairwise fun x y => bgn φ x < bgn φ y
  begL : S.begun.Pairwise fun x y => ltp (lf row φ y, y) (lf row φ x, x) = true
  lastM : S.last = -1 ∨ S.last ∈ φ
  last : ∀ r ∈ pre, 0 < lft φ r → (r.2.1 = S.last ↔ φ.getLast? = some r.2.1)
  endsP : S.ends.Perm (overOf pre φ)
  endsS : S.ends.Pairwise (· ≤ ·)
  endsN : ∀ e ∈ S.ends, e ≤ S.now
  lenB : φ.length ≤ 7 + (pre.map fun r => φ.count r.2.1).sum
  begN : S.begun.length ≤ φ.length
/-- a turn, looked at -/
structure TV (row pre : List Work) (φ : List Int) (S : RunS) (hour left hand : Int) (tl : List (Int × Int)) (r0 : Work) (n : Nat) (bg : List Int) : Prop where
  heap : S.heap = (left, hand) :: tl
  r0m : r0 ∈ pre
  r0e : r0.2.1 = hand
  r0l : lft φ r0 = left
  lpos : 0 < left
  npos : 0 < n
  nle : (n : Int) ≤ left
  nhr : S.now + n ≤ hour
  span : (if hour - S.now < left then hour - S.now else left) = n
  least : ∀ r ∈ pre, 0 < lft φ r → lep (left, hand) (lft φ r, r.2.1)
  fr : S.begun.contains hand = false ↔ hand ∉ φ
  bgm : ∀ x, x ∈ bg ↔ x ≠ hand ∧ x ∈ S.begun
  frb : hand ∉ φ → S.begun = bg
  ofb : hand ∈ φ → S.begun = bg ++ [hand]
theorem TV.of {row pre post : List Work} {φ : List Int} {S : RunS} {hour : Int} (R : RowOk row) (I : RI row pre post φ S) (hne : S.heap ≠ []) (hlt : S.now < hour) : ∃ left hand tl r0 n bg, TV row pre φ S hour left hand tl r0 n bg := by
  obtain ⟨⟨left, hand⟩, tl, he⟩ : ∃ p tl, S.heap = p :: tl := by
    cases h : S.heap with
    | nil => exact absurd h hne
    | cons p tl => exact ⟨p, tl, rfl⟩
  have hmem : (left, hand) ∈ heapOf pre φ := I.perm.mem_iff.mp (by rw [he]; exact .head _)
  obtain ⟨r0, hr0, e0⟩ := List.mem_map.mp hmem
  obtain ⟨hr0p, hr0l⟩ := List.mem_filter.mp hr0
  have hr0l := of_decide_eq_true hr0l
  have e1 : lft φ r0 = left := congrArg Prod.fst e0
  have e2 : r0.2.1 = hand := congrArg Prod.snd e0
  have hpr : ∀ r ∈ pre, r ∈ row := fun r hr => by rw [I.split]; exact List.mem_append_left _ hr
  have hleast : ∀ r ∈ pre, 0 < lft φ r → lep (left, hand) (lft φ r, r.2.1) := fun r hr hp => by
    have hm : (lft φ r, r.2.1) ∈ S.heap := I.perm.mem_iff.mpr (List.mem_map.mpr ⟨r, List.mem_filter.mpr ⟨hr, decide_eq_true hp⟩, rfl⟩)
    have := I.heapy.root_mem hm
    rw [he] at this
    exact this
  obtain ⟨n, hn⟩ : ∃ n : Nat, (if hour - S.now < left then hour - S.now else left) = (n : Int) := ⟨(if hour - S.now < left then hour - S.now else left).toNat, by split <;> omega⟩
  have hn3 : 0 < n ∧ (n : Int) ≤ left ∧ S.now + n ≤ hour := by
    split at hn <;> omega
  have hb : hand ∈ S.begun ↔ hand ∈ φ := by
    rw [I.beg]
    exact ⟨fun h => h.1, fun h => ⟨h, r0, hr0p, e2, hr0l⟩⟩
  have hfr : S.begun.contains hand = false ↔ hand ∉ φ := by
    rw [← hb, ← List.contains_iff_mem, Bool.not_eq_true]
  have hnd : S.begun.Nodup := I.begS.imp fun h e => by rw [e] at h; omega
  by_cases hφ : hand ∈ φ
  · have hin := hb.mpr hφ
    obtain ⟨bg, z, eb⟩ : ∃ bg z, S.begun = bg ++ [z] := ⟨S.begun.dropLast, S.begun.getLast (List.ne_nil_of_mem hin), (List.dropLast_concat_getLast _).symm⟩
    have hz : z = hand := by
      rw [eb] at hin
      rcases List.mem_append.mp hin with h | h
      · exfalso
        have hL := I.begL
        rw [eb] at hL
        have h1 := (List.pairwise_append.mp hL).2.2 hand h z (.head _)
        obtain ⟨hzφ, rz, hrz, ez, hzl⟩ := (I.beg z).mp (by rw [eb]; simp)
        have h2 := hleast rz hrz hzl
        rw [← ez, lf_lft R.nd (hpr rz hrz)] at h1
        rw [← e2, lf_lft R.nd (hpr r0 hr0p), e1, e2] at h1
        unfold lep at h2
        rw [h1] at h2
        cases h2
      · exact (List.mem_singleton.mp h).symm
    subst hz
    refine ⟨left, z, tl, r0, n, bg, he, hr0p, e2, e1, e1 ▸ hr0l, hn3.1, hn3.2.1, hn3.2.2, hn, hleast, hfr, fun x => ?_, fun h => absurd hφ h, fun _ => eb⟩
    rw [eb] at hnd ⊢
    have hzb : z ∉ bg := fun h => (List.nodup_append.mp hnd).2.2 z h z (.head _) rfl
    constructor
    · intro h; exact ⟨fun e => hzb (e ▸ h), List.mem_append_left _ h⟩
    · rintro ⟨h1, h2⟩
      rcases List.mem_append.mp h2 with h | h
      · exact h
      · exact absurd (List.mem_singleton.mp h) h1
  · refine ⟨left, hand, tl, r0, n, S.begun, he, hr0p, e2, e1, e1 ▸ hr0l, hn3.1, hn3.2.1, hn3.2.2, hn, hleast, hfr, fun x => ?_, fun _ => rfl, fun h => absurd h hφ⟩
    constructor
    · intro h; exact ⟨fun e => hφ (hb.mp (e ▸ h)), h⟩
    · exact fun h => h.2
section
variable {row pre post : List Work} {φ : List Int} {S : RunS} {hour left hand : Int} {tl : List (Int × Int)} {r0 : Work} {n : Nat} {bg : List Int}
noncomputable def fresh (S : RunS) (hand : Int) : Bool := !(S.begun.contains hand)
/-- the books behind a turn -/
noncomputable def turnB (S : RunS) (hand : Int) (n : Nat) (bg : List Int) : List (Int × Bk) :=
  (bg ++ [hand]).foldl (fun bs o => badd bs o ⟨0, 0, 0, n, []⟩) (badd S.books hand ⟨if fresh S hand = true then 1 else 0, if hand ≠ S.last then 1 else 0, n, 0, if (fresh S hand && !S.begun.isEmpty) = true then [(S.begun.getLastD 0, (1 : Int))] else []⟩)
theorem TV.beg1 (V : TV row pre φ S hour left hand tl r0 n bg) : (if fresh S hand = true then S.begun ++ [hand] else S.begun) = bg ++ [hand] := by
  unfold fresh
  by_cases h : hand ∈ φ
  · have : S.begun.contains hand = true := by
      cases e : S.begun.contains hand with
      | true => rfl
      | false => exact absurd h (V.fr.mp e)
    rw [this, if_neg (by decide)]
    exact V.ofb h
  · rw [V.fr.mpr h, if_pos (by decide), V.frb h]
theorem TV.turn (V : TV row pre φ S hour left hand tl r0 n bg) : turn hour S =
    if (n : Int) < left then { heap := sup ((left - n, hand) :: tl), begun := bg ++ [hand], ends := S.ends, last := hand, now := S.now + n, books := turnB S hand n bg }
    else { heap := (hpop ((left, hand) :: tl)).2, begun := bg, ends := S.ends ++ [S.now + n], last := hand, now := S.now + n, books := turnB S hand n bg } := by
  have hb := V.beg1
  unfold fresh at hb
  unfold Mine.turn turnB fresh
  rw [V.heap]
  simp only [List.getD_cons_zero, List.drop_succ_cons, List.drop_zero]
  rw [V.span, hb]
  split
  · rfl
  · rw [List.dropLast_concat]
theorem sum_nonneg : ∀ (l : List Int), (∀ x ∈ l, 0 ≤ x) → 0 ≤ l.sum
  | [], _ => by simp
  | x :: l, h => by
    rw [List.sum_cons]
    have := sum_nonneg l fun y hy => h y (.tail _ hy)
    have := h x (.head _)
    omega
theorem sum_pos : ∀ (l : List Int), (∀ x ∈ l, 0 ≤ x) → (∃ x ∈ l, 0 < x) → 0 < l.sum
  | [], _, h => by obtain ⟨x, hx, _⟩ := h; cases hx
  | x :: l, h, hp => by
    rw [List.sum_cons]
    have h1 := sum_nonneg l fun y hy => h y (.tail _ hy)
    have h2 := h x (.head _)
    obtain ⟨y, hy, hy0⟩ := hp
    rcases List.mem_cons.mp hy with rfl | hy
    · omega
    · have := sum_pos l (fun y hy => h y (.tail _ hy)) ⟨y, hy, hy0⟩
      omega
theorem RI.rowPre (I : RI row pre post φ S) {r : Work} (hr : r ∈ pre) : r ∈ row := by rw [I.split]; exact List.mem_append_left _ hr
theorem RI.rowPost (I : RI row pre post φ S) {r : Work} (hr : r ∈ post) : r ∈ row := by rw [I.split]; exact List.mem_append_right _ hr
theorem RI.lftPost (R : RowOk row) (I : RI row pre post φ S) {r : Work} (hr : r ∈ post) : 0 < lft φ r := by
  have := (R.need r (I.rowPost hr)).1
  unfold lft
  rw [List.count_eq_zero.mpr (I.unborn r hr)]
  omega
/-- what is picked while none comes -/
theorem RI.pickAt (R : RowOk row) (I : RI row pre post φ S) {ψ : List Int} (h1 : φ.length ≤ ψ.length) (h2 : ∀ r ∈ post, (ψ.length : Int) < r.1) : Mine.pickAt row ψ = pick (lf row ψ) pre := by
  unfold Mine.pickAt
  have hp : ∀ r ∈ pre, r.1 ≤ ((ψ.length : Nat) : Int) := fun r hr => by have := I.preH r hr; rw [I.now] at this; omega
  rw [I.split, take_bis hp h2]
theorem sumL_pos (R : RowOk row) {ψ : List Int} (h : ∀ r ∈ row, 0 ≤ lft ψ r) (hp : ∃ r ∈ row, 0 < lft ψ r) : 0 < sumL row ψ := by
  unfold sumL
  refine sum_pos _ (fun x hx => ?_) ?_
  · obtain ⟨r, hr, rfl⟩ := List.mem_map.mp hx
    rw [lf_lft R.nd hr]; exact h r hr
  · obtain ⟨r, hr, h0⟩ := hp
    exact ⟨_, List.mem_map_of_mem hr, by rw [lf_lft R.nd hr]; exact h0⟩
theorem film_seg {φ : List Int} {h : Int} {n : Nat} (hf : ∀ t, t < φ.length → 0 < sumL row (φ.take t) ∧ φ[t]? = some (Mine.pickAt row (φ.take t)))
    (hs : ∀ j, j < n → 0 < sumL row (φ ++ List.replicate j h) ∧ Mine.pickAt row (φ ++ List.replicate j h) = h) :
    ∀ t, t < (φ ++ List.replicate n h).length → 0 < sumL row ((φ ++ List.replicate n h).take t) ∧ (φ ++ List.replicate n h)[t]? = some (Mine.pickAt row ((φ ++ List.replicate n h).take t)) := by
  intro t ht
  rcases Nat.lt_or_ge t φ.length with hl | hl
  · rw [List.take_append_of_le_length (by omega), List.getElem?_append_left hl]
    exact hf t hl
  · obtain ⟨j, rfl⟩ : ∃ j, t = φ.length + j := ⟨t - φ.length, by omega⟩
    rw [List.length_append, List.length_replicate] at ht
    have hj : j < n := by omega
    rw [List.take_length_add_append, List.take_replicate, Nat.min_eq_left (by omega), List.getElem?_append_right (by omega), Nat.add_sub_cancel_left, List.getElem?_replicate, if_pos hj]
    obtain ⟨h1, h2⟩ := hs j hj
    rw [h2]
    exact ⟨h1, rfl⟩
theorem sum_seg (φ : List Int) (h : Int) (n : Nat) : ∀ (pre : List Work), (pre.map (·.2.1)).Nodup → (∃ r ∈ pre, r.2.1 = h) → (pre.map fun r => (φ ++ List.replicate n h).count r.2.1).sum = (pre.map fun r => φ.count r.2.1).sum + n
  | [], _, hm => by obtain ⟨r, hr, _⟩ := hm; cases hr
  | r :: pre, hnd, hm => by
    rw [List.map_cons, List.nodup_cons] at hnd
    rw [List.map_cons, List.map_cons, List.sum_cons, List.sum_cons, count_seg]
    by_cases e : r.2.1 = h
    · rw [if_pos e]
      have : (pre.map fun r => (φ ++ List.replicate n h).count r.2.1) = pre.map fun r => φ.count r.2.1 := by
        refine List.map_congr_left fun q hq => ?_
        rw [count_seg, if_neg, Nat.add_zero]
        intro e2
        exact hnd.1 (by rw [e, ← e2]; exact List.mem_map_of_mem (f := fun q : Work => q.2.1) hq)
      rw [this]; omega
    · rw [if_neg e]
      obtain ⟨q, hq, e2⟩ := hm
      have hq' : q ∈ pre := by
        rcases List.mem_cons.mp hq with rfl | h
        · exact absurd e2 e
        · exact h
      rw [sum_seg φ h n pre hnd.2 ⟨q, hq', e2⟩]; omega
theorem heapOf_seg {pre : List Work} (hnd : (pre.map (·.2.1)).Nodup) (hr : r0 ∈ pre) (h0 : 0 < lft φ r0) {n : Nat} {tl : List (Int × Int)} (hp : ((lft φ r0, r0.2.1) :: tl).Perm (heapOf pre φ)) :
    (heapOf pre (φ ++ List.replicate n r0.2.1)).Perm ((if 0 < lft φ r0 - n then [(lft φ r0 - n, r0.2.1)] else []) ++ tl) := by
  obtain ⟨p1, p2, rfl⟩ := List.append_of_mem hr
  have hne : ∀ r, r ∈ p1 ∨ r ∈ p2 → r.2.1 ≠ r0.2.1 := fun r h e => by
    rw [List.map_append, List.map_cons] at hnd
    obtain ⟨h1, h2, h3⟩ := List.nodup_append.mp hnd
    rcases h with h | h
    · exact h3 r.2.1 (List.mem_map_of_mem (f := fun q : Work => q.2.1) h) r0.2.1 (.head _) e
    · exact (List.nodup_cons.mp h2).1 (e ▸ List.mem_map_of_mem (f := fun q : Work => q.2.1) h)
  have hsame : ∀ l : List Work, (∀ r ∈ l, r.2.1 ≠ r0.2.1) → heapOf l (φ ++ List.replicate n r0.2.1) = heapOf l φ := fun l hl => by
    unfold heapOf
    have hc : ∀ r ∈ l, lft (φ ++ List.replicate n r0.2.1) r = lft φ r := fun r h => by rw [lft_seg, if_neg (hl r h)]; omega
    rw [List.filter_congr (q := fun r => decide (0 < lft φ r)) fun r h => by rw [hc r h]]
    refine List.map_congr_left fun r h => ?_
    rw [hc r (List.mem_filter.mp h).1]
  have happ : ∀ ψ : List Int, heapOf (p1 ++ r0 :: p2) ψ = heapOf p1 ψ ++ ((if 0 < lft ψ r0 then [(lft ψ r0, r0.2.1)] else []) ++ heapOf p2 ψ) := fun ψ => by
    unfold heapOf
    rw [List.filter_append, List.map_append, List.filter_cons]
    congr 1
    split
    · rename_i h; rw [if_pos (of_decide_eq_true h)]; rfl
    · rename_i h; rw [if_neg (fun q => h (decide_eq_true q))]; rfl
  rw [happ, if_pos h0] at hp
  have htl : tl.Perm (heapOf p1 φ ++ heapOf p2 φ) := (hp.trans List.perm_middle).cons_inv
  rw [happ, hsame p1 (fun r h => hne r (.inl h)), hsame p2 (fun r h => hne r (.inr h)), lft_seg, if_pos rfl]
  split
  · exact List.perm_middle.trans (List.Perm.cons _ htl.symm)
  · exact htl.symm
theorem overOf_seg {pre : List Work} (hnd : (pre.map (·.2.1)).Nodup) (hr : r0 ∈ pre) (h0 : 0 < lft φ r0) {n : Nat} (hn : 0 < n) :
    (overOf pre (φ ++ List.replicate n r0.2.1)).Perm (overOf pre φ ++ (if lft φ r0 - n = 0 then [(φ.length : Int) + n] else [])) := by
  obtain ⟨p1, p2, rfl⟩ := List.append_of_mem hr
  have hne : ∀ r, r ∈ p1 ∨ r ∈ p2 → r.2.1 ≠ r0.2.1 := fun r h e => by
    rw [List.map_append, List.map_cons] at hnd
    obtain ⟨h1, h2, h3⟩ := List.nodup_append.mp hnd
    rcases h with h | h
    · exact h3 r.2.1 (List.mem_map_of_mem (f := fun q : Work => q.2.1) h) r0.2.1 (.head _) e
    · exact (List.nodup_cons.mp h2).1 (e ▸ List.mem_map_of_mem (f := fun q : Work => q.2.1) h)
  have hsame : ∀ l : List Work, (∀ r ∈ l, r.2.1 ≠ r0.2.1) → overOf l (φ ++ List.replicate n r0.2.1) = overOf l φ := fun l hl => by
    unfold overOf
    have hc : ∀ r ∈ l, lft (φ ++ List.replicate n r0.2.1) r = lft φ r := fun r h => by rw [lft_seg, if_neg (hl r h)]; omega
    rw [List.filter_congr (q := fun r => decide (lft φ r = 0)) fun r h => by rw [hc r h]]
    refine List.map_congr_left fun r h => ?_
    rw [ovr_seg (hl r (List.mem_filter.mp h).1)]
  have happ : ∀ ψ : List Int, overOf (p1 ++ r0 :: p2) ψ = overOf p1 ψ ++ ((if lft ψ r0 = 0 then [ovr ψ r0.2.1] else []) ++ overOf p2 ψ) := fun ψ => by
    unfold overOf
    rw [List.filter_append, List.map_append, List.filter_cons]
    congr 1
    split
    · rename_i h; rw [if_pos (of_decide_eq_true h)]; rfl
    · rename_i h; rw [if_neg (fun q => h (decide_eq_true q))]; rfl
  rw [happ, happ, if_neg (show ¬ lft φ r0 = 0 by omega), hsame p1 (fun r h => hne r (.inl h)), hsame p2 (fun r h => hne r (.inr h)), lft_seg, if_pos rfl, ovr_own hn, List.nil_append]
  split
  · exact (List.perm_middle.trans (List.perm_append_singleton _ _).symm)
  · rw [List.append_nil]; exact List.Perm.refl _
end
end Mine

namespace Mine
section
variable {row pre post : List Work} {φ : List Int} {S : RunS} {hour left hand : Int} {tl : List (Int × Int)} {r0 : Work} {n : Nat} {bg : List Int}
theorem RI.ndPre (R : RowOk row) (I : RI row pre post φ S) : (pre.map (·.2.1)).Nodup := by
  have := R.nd
  rw [I.split, List.map_append] at this
  exact (List.nodup_append.mp this).1
theorem RI.ndCross (R : RowOk row) (I : RI row pre post φ S) {r q : Work} (hr : r ∈ pre) (hq : q ∈ post) : r.2.1 ≠ q.2.1 := by
  have := R.nd
  rw [I.split, List.map_append] at this
  exact (List.nodup_append.mp this).2.2 _ (List.mem_map_of_mem (f := fun q : Work => q.2.1) hr) _ (List.mem_map_of_mem (f := fun q : Work => q.2.1) hq)
theorem ltp_trans {p q r : Int × Int} (a : ltp p q = true) (b : ltp q r = true) : ltp p r = true := by
  rw [ltp_iff] at *; omega
theorem RI.turn (R : RowOk row) (I : RI row pre post φ S) (V : TV row pre φ S hour left hand tl r0 n bg) (hpost : ∀ r ∈ post, hour ≤ r.1) : RI row pre post (φ ++ List.replicate n hand) (Mine.turn hour S) := by
  have hr0 := V.r0m
  have e1 := V.r0l
  have e2 := V.r0e
  have hnp := V.npos
  have hnl := V.nle
  have hlp := V.lpos
  have hl' : ∀ r ∈ pre, lft (φ ++ List.replicate n hand) r = if r = r0 then left - n else lft φ r := fun r hr => by
    rw [lft_seg]
    by_cases e : r = r0
    · rw [if_pos e, e, e2, if_pos rfl, e1]
    · rw [if_neg e, if_neg fun q => e (one_inj R.nd (I.rowPre hr) (I.rowPre hr0) (q.trans e2.symm))]; omega
  have hlen : ((φ ++ List.replicate n hand).length : Int) = S.now + n := by
    rw [List.length_append, List.length_replicate, I.now]; omega
  have hcnt : ∀ r ∈ pre, 0 ≤ lft (φ ++ List.replicate n hand) r := fun r hr => by
    rw [hl' r hr]
    have := I.cnt r hr
    split <;> omega
  have hunborn : ∀ r ∈ post, r.2.1 ∉ φ ++ List.replicate n hand := fun r hr hm => by
    rcases (mem_seg hnp).mp hm with h | h
    · exact I.unborn r hr h
    · exact I.ndCross R hr0 hr (e2.trans h.symm)
  have hfilm : ∀ t, t < (φ ++ List.replicate n hand).length → 0 < sumL row ((φ ++ List.replicate n hand).take t) ∧ (φ ++ List.replicate n hand)[t]? = some (Mine.pickAt row ((φ ++ List.replicate n hand).take t)) := by
    refine film_seg I.film fun j hj => ?_
    have hlj : ∀ r ∈ pre, lft (φ ++ List.replicate j hand) r = if r = r0 then left - j else lft φ r := fun r hr => by
      rw [lft_seg]
      by_cases e : r = r0
      · rw [if_pos e, e, e2, if_pos rfl, e1]
      · rw [if_neg e, if_neg fun q => e (one_inj R.nd (I.rowPre hr) (I.rowPre hr0) (q.trans e2.symm))]; omega
    refine ⟨sumL_pos R (fun r hr => ?_) ⟨r0, I.rowPre hr0, ?_⟩, ?_⟩
    · rw [I.split] at hr
      rcases List.mem_append.mp hr with hr | hr
      · rw [hlj r hr]
        have := I.cnt r hr
        split <;> omega
      · rw [lft_seg, if_neg fun q => I.ndCross R hr0 hr (e2.trans q.symm)]
        have := I.lftPost R hr
        omega
    · rw [hlj r0 hr0, if_pos rfl]; omega
    · rw [I.pickAt R (by rw [List.length_append]; omega) (fun r hr => ?_)]
      · refine pick_is (fun r hr => R.nn r (I.rowPre hr)) ⟨r0, hr0, e2⟩ ?_ fun r hr hp => ?_
        · rw [← e2, lf_lft R.nd (I.rowPre hr0), e2, hlj r0 hr0, if_pos rfl]; omega
        · rw [lf_lft R.nd (I.rowPre hr)] at hp ⊢
          rw [← e2, lf_lft R.nd (I.rowPre hr0), e2, hlj r0 hr0, if_pos rfl]
          rw [hlj r hr] at hp ⊢
          by_cases e : r = r0
          · rw [if_pos e, e, e2]; exact lep_refl _
          · rw [if_neg e] at hp ⊢
            have := V.least r hr hp
            unfold lep at this ⊢
            rw [ltp_iff'] at *
            dsimp only at *
            omega
      · rw [List.length_append, List.length_replicate]
        have h1 := hpost r hr
        have h2 := V.nhr
        rw [I.now] at h2
        omega
  have hbgφ : ∀ x ∈ bg, x ∈ φ ∧ x ≠ hand ∧ x ∈ S.begun := fun x hx => by
    obtain ⟨h1, h2⟩ := (V.bgm x).mp hx
    exact ⟨((I.beg x).mp h2).1, h1, h2⟩
  have hlf : ∀ x, x ≠ hand → lf row (φ ++ List.replicate n hand) x = lf row φ x := fun x hx => by rw [lf_seg, if_neg hx]; omega
  have hlfh : lf row (φ ++ List.replicate n hand) hand = left - n := by
    rw [lf_seg, if_pos rfl, ← e2, lf_lft R.nd (I.rowPre hr0), e1]
  have hbgS : bg.Pairwise fun x y => bgn (φ ++ List.replicate n hand) x < bgn (φ ++ List.replicate n hand) y := by
    have h : bg.Pairwise fun x y => bgn φ x < bgn φ y := by
      by_cases hφ : hand ∈ φ
      · have := I.begS; rw [V.ofb hφ] at this; exact (List.pairwise_append.mp this).1
      · have := I.begS; rw [V.frb hφ] at this; exact this
    refine h.imp_of_mem fun {x y} hx hy q => ?_
    rw [bgn_app (hbgφ x hx).1, bgn_app (hbgφ y hy).1]; exact q
  have hbgL : bg.Pairwise fun x y => ltp (lf row (φ ++ List.replicate n hand) y, y) (lf row (φ ++ List.replicate n hand) x, x) = true := by
    have h : bg.Pairwise fun x y => ltp (lf row φ y, y) (lf row φ x, x) = true := by
      by_cases hφ : hand ∈ φ
      · have := I.begL; rw [V.ofb hφ] at this; exact (List.pairwise_append.mp this).1
      · have := I.begL; rw [V.frb hφ] at this; exact this
    refine h.imp_of_mem fun {x y} hx hy q => ?_
    rw [hlf x (hbgφ x hx).2.1, hlf y (hbgφ y hy).2.1]; exact q
  have hbg1S : (bg ++ [hand]).Pairwise fun x y => bgn (φ ++ List.replicate n hand) x < bgn (φ ++ List.replicate n hand) y := by
    refine List.pairwise_append.mpr ⟨hbgS, List.pairwise_singleton _ _, fun x hx y hy => ?_⟩
    rw [List.mem_singleton.mp hy, bgn_app (hbgφ x hx).1]
    by_cases hφ : hand ∈ φ
    · rw [bgn_app hφ]
      have := I.begS; rw [V.ofb hφ] at this
      exact (List.pairwise_append.mp this).2.2 x hx hand (.head _)
    · rw [bgn_new hφ hnp]; exact bgn_lt (hbgφ x hx).1
  have hbg1L : (bg ++ [hand]).Pairwise fun x y => ltp (lf row (φ ++ List.replicate n hand) y, y) (lf row (φ ++ List.replicate n hand) x, x) = true := by
    refine List.pairwise_append.mpr ⟨hbgL, List.pairwise_singleton _ _, fun x hx y hy => ?_⟩
    obtain ⟨hx1, hx2, hx3⟩ := hbgφ x hx
    obtain ⟨_, rx, hrx, ex, hxl⟩ := (I.beg x).mp hx3
    have hle := V.least rx hrx hxl
    rw [List.mem_singleton.mp hy, hlfh, hlf x hx2, ← ex, lf_lft R.nd (I.rowPre hrx)]
    unfold lep at hle
    rw [ltp_iff'] at hle
    rw [ltp_iff]
    dsimp only at *
    omega
  have hbegx : ∀ x, x ≠ hand → (x ∈ bg ↔ x ∈ φ ++ List.replicate n hand ∧ ∃ r ∈ pre, r.2.1 = x ∧ 0 < lft (φ ++ List.replicate n hand) r) := fun x hx => by
    rw [V.bgm, I.beg, mem_seg hnp]
    constructor
    · rintro ⟨_, h1, r, hr, e, hp⟩
      exact ⟨.inl h1, r, hr, e, by rw [hl' r hr, if_neg fun q => hx (by rw [← e, q, e2])]; exact hp⟩
    · rintro ⟨h1, r, hr, e, hp⟩
      refine ⟨hx, h1.resolve_right hx, r, hr, e, ?_⟩
      rw [hl' r hr, if_neg fun q => hx (by rw [← e, q, e2])] at hp; exact hp
  have hlast : ∀ r ∈ pre, 0 < lft (φ ++ List.replicate n hand) r → (r.2.1 = hand ↔ (φ ++ List.replicate n hand).getLast? = some r.2.1) := fun r hr hp => by
    rw [last_seg hnp]
    exact ⟨fun h => by rw [h], fun h => (Option.some.inj h).symm⟩
  have hperm := heapOf_seg (n := n) (tl := tl) (I.ndPre R) hr0 (by rw [e1]; exact hlp) (by rw [e1, e2, ← V.heap]; exact I.perm)
  have hover := overOf_seg (n := n) (I.ndPre R) hr0 (by rw [e1]; exact hlp) hnp
  rw [e1, e2] at hperm hover
  have hsum := sum_seg φ hand n pre (I.ndPre R) ⟨r0, hr0, e2⟩
  have hlB : (φ ++ List.replicate n hand).length ≤ 7 + (pre.map fun r => (φ ++ List.replicate n hand).count r.2.1).sum := by
    rw [hsum, List.length_append, List.length_replicate]
    have := I.lenB
    omega
  have hbgN : bg.length ≤ φ.length := by
    by_cases hφ : hand ∈ φ
    · have := I.begN; rw [V.ofb hφ, List.length_append] at this; omega
    · have := I.begN; rw [V.frb hφ] at this; exact this
  have hendN : ∀ e ∈ S.ends, e ≤ S.now + n := fun e he => by have := I.endsN e he; omega
  rw [V.turn]
  split
  · rename_i hc
    refine ⟨I.split, by rw [hlen], fun r hr => by have := I.preH r hr; show r.1 ≤ S.now + n; omega, fun r hr => by have := hpost r hr; have := V.nhr; show S.now + n ≤ r.1; omega, hfilm, hcnt, hunborn, ?_, ?_, fun x => ?_, hbg1S, hbg1L, .inr ((mem_seg hnp).mpr (.inr rfl)), hlast, ?_, I.endsS, hendN, hlB, ?_⟩
    · exact (replace_spec (V.heap ▸ I.heapy)).1
    · refine (replace_spec (V.heap ▸ I.heapy)).2.trans ?_
      rw [if_pos (by omega)] at hperm
      exact hperm.symm
    · by_cases hx : x = hand
      · refine ⟨fun _ => ⟨(mem_seg hnp).mpr (.inr hx), r0, hr0, e2.trans hx.symm, by rw [hl' r0 hr0, if_pos rfl]; omega⟩, fun _ => by rw [hx]; simp⟩
      · rw [← hbegx x hx, List.mem_append]
        exact ⟨fun h => h.resolve_right fun q => hx (List.mem_singleton.mp q), .inl⟩
    · rw [if_neg (by omega), List.append_nil] at hover
      exact I.endsP.trans hover.symm
    · show (bg ++ [hand]).length ≤ _
      rw [List.length_append, List.length_append, List.length_replicate, List.length_singleton]
      omega
  · rename_i hc
    have hnn : (n : Int) = left := by omega
    refine ⟨I.split, by rw [hlen], fun r hr => by have := I.preH r hr; show r.1 ≤ S.now + n; omega, fun r hr => by have := hpost r hr; have := V.nhr; show S.now + n ≤ r.1; omega, hfilm, hcnt, hunborn, ?_, ?_, fun x => ?_, hbgS, hbgL, .inr ((mem_seg hnp).mpr (.inr rfl)), hlast, ?_, ?_, fun e he => ?_, hlB, ?_⟩
    · exact (hpop_spec (V.heap ▸ I.heapy)).1
    · rw [if_neg (by omega), List.nil_append] at hperm
      exact ((hpop_spec (V.heap ▸ I.heapy)).2.cons_inv).trans hperm.symm
    · by_cases hx : x = hand
      · constructor
        · intro h; exact absurd hx ((V.bgm x).mp h).1
        · rintro ⟨_, r, hr, e, hp⟩
          have : r = r0 := one_inj R.nd (I.rowPre hr) (I.rowPre hr0) (e.trans (hx.trans e2.symm))
          rw [hl' r hr, if_pos this] at hp
          omega
      · exact hbegx x hx
    · rw [if_pos (by omega)] at hover
      refine List.Perm.trans ?_ hover.symm
      show (S.ends ++ [S.now + n]).Perm _
      rw [I.now]
      exact I.endsP.append_right _
    · refine List.pairwise_append.mpr ⟨I.endsS, List.pairwise_singleton _ _, fun a ha b hb => ?_⟩
      rw [List.mem_singleton.mp hb]
      exact hendN a ha
    · rcases List.mem_append.mp he with he | he
      · exact hendN e he
      · rw [List.mem_singleton.mp he]; exact Int.le_refl _
    · show bg.length ≤ _
      rw [List.length_append, List.length_replicate]
      omega
end
end Mine

namespace Mine
section
variable {row pre post : List Work} {φ : List Int} {S : RunS} {t : Work}
theorem heap_nil (h : S.heap.Perm (heapOf pre φ)) (e : S.heap = []) : ∀ r ∈ pre, ¬ 0 < lft φ r := fun r hr hp => by
  rw [e] at h
  have : (lft φ r, r.2.1) ∈ heapOf pre φ := List.mem_map.mpr ⟨r, List.mem_filter.mpr ⟨hr, decide_eq_true hp⟩, rfl⟩
  exact nomatch h.mem_iff.mpr this
theorem RI.begNil (I : RI row pre post φ S) (e : S.heap = []) : S.begun = [] := by
  cases hb : S.begun with
  | nil => rfl
  | cons x l =>
    obtain ⟨_, r, hr, _, hp⟩ := (I.beg x).mp (by rw [hb]; exact .head _)
    exact absurd hp (heap_nil I.perm e r hr)
theorem RI.idle (R : RowOk row) (I : RI row pre (t :: post) φ S) (e : S.heap = []) {n : Nat} (hn : 0 < n) (hnt : S.now + n = t.1) : RI row pre (t :: post) (φ ++ List.replicate n (-1)) { S with now := t.1 } := by
  have hno := heap_nil I.perm e
  have hne : ∀ r ∈ row, r.2.1 ≠ -1 := fun r hr h => by have := R.nn r hr; omega
  have hl : ∀ j : Nat, ∀ r ∈ row, lft (φ ++ List.replicate j (-1)) r = lft φ r := fun j r hr => by rw [lft_seg, if_neg (hne r hr)]; omega
  have ht : t ∈ row := I.rowPost (.head _)
  have hsrt := R.srt
  rw [I.split] at hsrt
  have hpt : ∀ r ∈ t :: post, t.1 ≤ r.1 := fun r hr => by
    rcases List.mem_cons.mp hr with rfl | hr
    · omega
    · exact (List.pairwise_cons.mp (List.pairwise_append.mp hsrt).2.1).1 r hr
  have hbn := I.begNil e
  have hnow := I.now
  refine ⟨I.split, ?_, fun r hr => by have := I.preH r hr; show r.1 ≤ t.1; omega, hpt, film_seg I.film fun j hj => ⟨sumL_pos R (fun r hr => ?_) ⟨t, ht, ?_⟩, ?_⟩, fun r hr => by rw [hl n r (I.rowPre hr)]; exact I.cnt r hr, fun r hr hm => ?_, I.heapy, ?_, fun x => ?_, ?_, ?_, ?_, fun r hr hp => ?_, ?_, I.endsS, fun e he => by have := I.endsN e he; show e ≤ t.1; omega, ?_, ?_⟩
  · show t.1 = _
    rw [List.length_append, List.length_replicate]; omega
  · rw [hl j r hr]
    rw [I.split] at hr
    rcases List.mem_append.mp hr with hr | hr
    · exact I.cnt r hr
    · have := I.lftPost R hr; omega
  · rw [hl j t ht]; exact I.lftPost R (.head _)
  · rw [I.pickAt R (by rw [List.length_append]; omega) (fun r hr => ?_)]
    · refine pick_none (fun r hr => R.nn r (I.rowPre hr)) fun r hr => ?_
      rw [lf_lft R.nd (I.rowPre hr), hl j r (I.rowPre hr)]
      exact hno r hr
    · rw [List.length_append, List.length_replicate]
      have := hpt r hr
      omega
  · rcases (mem_seg hn).mp hm with h | h
    · exact I.unborn r hr h
    · exact hne r (I.rowPost hr) h
  · have : heapOf pre (φ ++ List.replicate n (-1)) = heapOf pre φ := by
      unfold heapOf
      rw [List.filter_congr (q := fun r => decide (0 < lft φ r)) fun r h => by rw [hl n r (I.rowPre h)]]
      refine List.map_congr_left fun r h => ?_
      rw [hl n r (I.rowPre (List.mem_filter.mp h).1)]
    rw [this]; exact I.perm
  · show x ∈ S.begun ↔ _
    rw [hbn]
    constructor
    · intro h; exact nomatch h
    · rintro ⟨_, r, hr, _, hp⟩
      rw [hl n r (I.rowPre hr)] at hp
      exact absurd hp (hno r hr)
  · show S.begun.Pairwise _
    rw [hbn]; exact List.Pairwise.nil
  · show S.begun.Pairwise _
    rw [hbn]; exact List.Pairwise.nil
  · exact I.lastM.imp id fun h => List.mem_append_left _ h
  · rw [hl n r (I.rowPre hr)] at hp
    exact absurd hp (hno r hr)
  · have : overOf pre (φ ++ List.replicate n (-1)) = overOf pre φ := by
      unfold overOf
      rw [List.filter_congr (q := fun r => decide (lft φ r = 0)) fun r h => by rw [hl n r (I.rowPre h)]]
      refine List.map_congr_left fun r h => ?_
      rw [ovr_seg (hne r (I.rowPre (List.mem_filter.mp h).1))]
    rw [this]; exact I.endsP
  · rw [List.length_append, List.length_replicate]
    have := (R.hr t ht).2
    omega
  · show S.begun.length ≤ _
    rw [hbn]; exact Nat.zero_le _
theorem RI.push (R : RowOk row) (I : RI row pre (t :: post) φ S) (e : S.now = t.1) : RI row (pre ++ [t]) post φ { S with heap := sdown (t.2.2, t.2.1) S.heap.length (S.heap ++ [(t.2.2, t.2.1)]) } := by
  have htφ : t.2.1 ∉ φ := I.unborn t (.head _)
  have htl : lft φ t = t.2.2 := by unfold lft; rw [List.count_eq_zero.mpr htφ]; omega
  have htn := (R.need t (I.rowPost (.head _))).1
  obtain ⟨h1, h2⟩ := push_spec (x := (t.2.2, t.2.1)) I.heapy
  refine ⟨by rw [I.split]; simp, I.now, fun r hr => ?_, fun r hr => I.postH r (.tail _ hr), I.film, fun r hr => ?_, fun r hr => I.unborn r (.tail _ hr), h1, ?_, fun x => ?_, I.begS, I.begL, I.lastM, fun r hr hp => ?_, ?_, I.endsS, I.endsN, ?_, I.begN⟩
  · rcases List.mem_append.mp hr with hr | hr
    · exact I.preH r hr
    · rw [List.mem_singleton.mp hr]; show t.1 ≤ S.now; omega
  · rcases List.mem_append.mp hr with hr | hr
    · exact I.cnt r hr
    · rw [List.mem_singleton.mp hr, htl]; omega
  · refine h2.trans ?_
    have : heapOf (pre ++ [t]) φ = heapOf pre φ ++ [(t.2.2, t.2.1)] := by
      unfold heapOf
      rw [List.filter_append, List.map_append, List.filter_cons_of_pos (by rw [htl]; exact decide_eq_true htn)]
      show _ ++ [(lft φ t, t.2.1)] = _
      rw [htl]
    rw [this]
    exact (List.Perm.cons _ I.perm).trans (List.perm_append_singleton _ _).symm
  · rw [I.beg]
    constructor
    · rintro ⟨a, r, hr, b⟩; exact ⟨a, r, List.mem_append_left _ hr, b⟩
    · rintro ⟨a, r, hr, ex, b⟩
      rcases List.mem_append.mp hr with hr | hr
      · exact ⟨a, r, hr, ex, b⟩
      · rw [List.mem_singleton.mp hr] at ex
        exact absurd (ex ▸ a) htφ
  · rcases List.mem_append.mp hr with hr | hr
    · exact I.last r hr hp
    · rw [List.mem_singleton.mp hr]
      constructor
      · intro h
        rcases I.lastM with q | q
        · have := R.nn t (I.rowPost (.head _)); rw [h, q] at this; omega
        · exact absurd (h ▸ q) htφ
      · intro h; exact absurd (List.mem_of_getLast? h) htφ
  · have : overOf (pre ++ [t]) φ = overOf pre φ := by
      unfold overOf
      rw [List.filter_append, List.filter_cons_of_neg (by rw [htl]; simp; omega), List.filter_nil, List.append_nil]
    rw [this]; exact I.endsP
  · rw [List.map_append, List.sum_append]
    have := I.lenB
    simp only [List.map_cons, List.map_nil, List.sum_cons, List.sum_nil]
    omega
end
end Mine

namespace Mine
noncomputable def ctOf (φ begun : List Int) (x : Int) : Int := if x ∈ φ then (if x ∈ begun then (φ.length : Int) else ovr φ x) - bgn φ x else 0
noncomputable def arB (φ begun ks : List Int) (x : Int) : List (Int × Int) := ks.filterMap fun two => if bgn φ two < bgn φ x ∧ (two ∈ begun ∨ bgn φ x < ovr φ two) then some (bgn φ two, two) else none
noncomputable def mostC : List (Int × Int) → List (Int × Int)
  | [] => []
  | p :: ps => [((mostP p ps).2, 1)]
noncomputable def calOf (φ begun ks : List Int) (x : Int) : List (Int × Int) := if x ∈ φ then mostC (arB φ begun ks x) else []
noncomputable def bkOf (φ begun ks : List Int) (x : Int) : Bk := ⟨if x ∈ φ then 1 else 0, nst φ x, φ.count x, ctOf φ begun x, calOf φ begun ks x⟩
theorem fmap_congr {α β : Type} {f g : α → Option β} : ∀ {l : List α}, (∀ a ∈ l, f a = g a) → l.filterMap f = l.filterMap g
  | [], _ => rfl
  | a :: l, h => by rw [List.filterMap_cons, List.filterMap_cons, h a (.head _), fmap_congr fun b hb => h b (.tail _ hb)]
theorem mem_init {l : List Int} {x : Int} (h : x ∈ l.dropLast) : x ∈ l := (List.dropLast_sublist l).subset h
theorem mostC_len (l : List (Int × Int)) : (mostC l).length ≤ 1 := by cases l <;> simp [mostC]
theorem mostP_spec : ∀ (ps : List (Int × Int)) (p : Int × Int), mostP p ps ∈ p :: ps ∧ ∀ z ∈ p :: ps, lep z (mostP p ps)
  | [], p => ⟨.head _, fun z hz => by rw [List.mem_singleton.mp hz]; exact lep_refl _⟩
  | q :: ps, p => by
    have e : mostP p (q :: ps) = mostP (if ltp p q then q else p) ps := rfl
    rw [e]
    obtain ⟨h1, h2⟩ := mostP_spec ps (if ltp p q then q else p)
    have hp : lep p (if ltp p q then q else p) := by
      split
      · rename_i h; exact lep_of_lt h
      · exact lep_refl _
    have hq : lep q (if ltp p q then q else p) := by
      split
      · exact lep_refl _
      · rename_i h; unfold lep; cases e : ltp p q with
        | true => exact absurd e h
        | false => rfl
    have hm := h2 _ (.head _)
    refine ⟨?_, fun z hz => ?_⟩
    · rcases List.mem_cons.mp h1 with h | h
      · rw [h]; split
        · exact .tail _ (.head _)
        · exact .head _
      · exact .tail _ (.tail _ h)
    · rcases List.mem_cons.mp hz with rfl | hz
      · exact lep_trans hp hm
      · rcases List.mem_cons.mp hz with rfl | hz
        · exact lep_trans hq hm
        · exact h2 z (.tail _ hz)
theorem mostC_is {l : List (Int × Int)} {q : Int × Int} (hq : q ∈ l) (h : ∀ z ∈ l, lep z q) : mostC l = [(q.2, 1)] := by
  cases l with
  | nil => nomatch hq
  | cons p ps =>
    obtain ⟨h1, h2⟩ := mostP_spec ps p
    have := lep_anti (h _ h1) (h2 q hq)
    show [((mostP p ps).2, (1 : Int))] = _
    rw [this]
theorem bget_bset (bs : List (Int × Bk)) (k : Int) (b : Bk) (x : Int) : bget (bset bs k b) x = if x = k ∧ (bget bs k).isSome = true then some b else bget bs x := by
  induction bs with
  | nil => simp [bset, bget]
  | cons p bs ih =>
    have e1 : bset (p :: bs) k b = (if p.1 = k then (p.1, b) else p) :: bset bs k b := rfl
    have e2 : ∀ (q : Int × Bk) (l : List (Int × Bk)) y, bget (q :: l) y = if q.1 = y then some q.2 else bget l y := fun q l y => by
      unfold bget
      by_cases h : q.1 = y
      · rw [List.find?_cons_of_pos (by simpa using h), if_pos h]; rfl
      · rw [List.find?_cons_of_neg (by simpa using h), if_neg h]
    rw [e1, e2, e2, ih, e2]
    by_cases hpk : p.1 = k
    · rw [if_pos hpk, if_pos hpk]
      by_cases hx : x = k
      · subst hx; simp [hpk]
      · have : ¬ p.1 = x := fun h => hx (h.symm.trans hpk)
        rw [if_neg this]
        rw [if_neg (fun h => hx h.1), if_neg (fun h => hx h.1), if_neg this]
    · rw [if_neg hpk, if_neg hpk]
      by_cases hx : p.1 = x
      · have : ¬ x = k := fun h => hpk (hx.trans h)
        rw [if_pos hx, if_pos hx, if_neg (fun h => this h.1)]
      · rw [if_neg hx, if_neg hx]
theorem bget_badd {bs : List (Int × Bk)} {k : Int} {b0 s : Bk} (h : bget bs k = some b0) (x : Int) : bget (badd bs k s) x = if x = k then some (b0.add s) else bget bs x := by
  unfold badd
  rw [bget_bset, h]
  simp
theorem bget_fold (s : Bk) : ∀ (os : List Int) (bs : List (Int × Bk)), os.Nodup → (∀ o ∈ os, (bget bs o).isSome = true) → ∀ x, bget (os.foldl (fun bs o => badd bs o s) bs) x = if x ∈ os then (bget bs x).map (·.add s) else bget bs x
  | [], bs, _, _, x => by simp
  | o :: os, bs, hnd, hin, x => by
    obtain ⟨b0, hb0⟩ := Option.isSome_iff_exists.mp (hin o (.head _))
    obtain ⟨h1, h2⟩ := List.nodup_cons.mp hnd
    rw [List.foldl_cons, bget_fold s os _ h2 (fun q hq => by
      rw [bget_badd hb0]
      split
      · rfl
      · exact hin q (.tail _ hq))]
    rw [bget_badd hb0]
    by_cases hx : x = o
    · subst hx
      rw [if_neg h1, if_pos rfl, if_pos (.head _), hb0]; rfl
    · rw [if_neg hx]
      have : x ∈ o :: os ↔ x ∈ os := by rw [List.mem_cons]; exact ⟨fun h => h.resolve_left hx, .inr⟩
      by_cases hm : x ∈ os
      · rw [if_pos hm, if_pos (this.mpr hm)]
      · rw [if_neg hm, if_neg fun h => hm (this.mp h)]
section
variable {φ begun begun' ks : List Int} {x hand : Int} {n : Nat}
/-- who is around x is told once for all when x begins -/
theorem arB_seg (hx : x ∈ φ) (hn : 0 < n) (H : ∀ y ∈ ks, y ≠ hand → (y ∈ begun' ↔ y ∈ begun)) (H2 : hand ∈ ks → hand ∈ φ → hand ∈ begun) : arB (φ ++ List.replicate n hand) begun' ks x = arB φ begun ks x := by
  unfold arB
  refine fmap_congr fun y hy => ?_
  have hxl := bgn_lt hx
  rw [bgn_app hx]
  by_cases e : y = hand
  · subst e
    by_cases hφ : y ∈ φ
    · rw [bgn_app hφ, ovr_own hn]
      have h1 : (y ∈ begun' ∨ bgn φ x < (φ.length : Int) + n) := .inr (by omega)
      have h2 : (y ∈ begun ∨ bgn φ x < ovr φ y) := .inl (H2 hy hφ)
      by_cases hb : bgn φ y < bgn φ x
      · rw [if_pos ⟨hb, h1⟩, if_pos ⟨hb, h2⟩]
      · rw [if_neg (fun h => hb h.1), if_neg (fun h => hb h.1)]
    · rw [bgn_new hφ hn, bgn_out hφ, if_neg (fun h => by omega), if_neg (fun h => by omega)]
  · rw [ovr_seg e]
    by_cases hφ : y ∈ φ
    · rw [bgn_app hφ]
      by_cases hc : bgn φ y < bgn φ x ∧ (y ∈ begun ∨ bgn φ x < ovr φ y)
      · rw [if_pos hc, if_pos ⟨hc.1, hc.2.imp (H y hy e).mpr id⟩]
      · rw [if_neg hc, if_neg fun h => hc ⟨h.1, h.2.imp (H y hy e).mp id⟩]
    · have hφ' : y ∉ φ ++ List.replicate n hand := fun h => by
        rcases (mem_seg hn).mp h with h | h
        · exact hφ h
        · exact e h
      rw [bgn_out hφ, bgn_out hφ', List.length_append, if_neg (fun h => by omega), if_neg (fun h => by omega)]
theorem arB_new (hφ : hand ∉ φ) (hn : 0 < n) (hb : ∀ y ∈ begun, y ∈ φ) (H : ∀ y ∈ ks, y ≠ hand → (y ∈ begun' ↔ y ∈ begun)) : arB (φ ++ List.replicate n hand) begun' ks hand = ks.filterMap fun y => if y ∈ begun then some (bgn φ y, y) else none := by
  unfold arB
  refine fmap_congr fun y hy => ?_
  rw [bgn_new hφ hn]
  by_cases e : y = hand
  · subst e
    rw [bgn_new hφ hn, if_neg (fun h => by omega), if_neg fun h => hφ (hb y h)]
  · rw [ovr_seg e]
    by_cases hy2 : y ∈ begun
    · have := bgn_lt (hb y hy2)
      rw [bgn_app (hb y hy2), if_pos ⟨this, .inl ((H y hy e).mpr hy2)⟩, if_pos hy2]
    · have := ovr_le (φ := φ) (x := y)
      rw [if_neg hy2, if_neg]
      rintro ⟨_, h | h⟩
      · exact hy2 ((H y hy e).mp h)
      · omega
theorem nst_other (e : x ≠ hand) (hn : 0 < n) : nst (φ ++ List.replicate n hand) x = nst φ x := by
  rw [nst_seg φ x hand n hn, if_neg fun h => e h.1.symm]; rfl
end
noncomputable def callOf : Option Int → List (Int × Int)
  | none => []
  | some p => [(p, 1)]
noncomputable def chainOk (cal : Int → List (Int × Int)) : Option Int → List Int → Prop
  | _, [] => True
  | prev, b :: bs => cal b = callOf prev ∧ chainOk cal (some b) bs
theorem chain_congr {cal cal' : Int → List (Int × Int)} : ∀ {l : List Int} {prev : Option Int}, (∀ b ∈ l, cal b = cal' b) → chainOk cal prev l → chainOk cal' prev l
  | [], _, _, _ => trivial
  | b :: bs, prev, h, ⟨h1, h2⟩ => ⟨(h b (.head _)).symm.trans h1, chain_congr (fun c hc => h c (.tail _ hc)) h2⟩
theorem chain_snoc {cal : Int → List (Int × Int)} {z : Int} : ∀ {l : List Int} {prev : Option Int}, chainOk cal prev (l ++ [z]) ↔ chainOk cal prev l ∧ cal z = callOf (l.getLast?.or prev)
  | [], prev => by simp [chainOk]
  | b :: bs, prev => by
    have e : chainOk cal prev ((b :: bs) ++ [z]) ↔ cal b = callOf prev ∧ chainOk cal (some b) (bs ++ [z]) := Iff.rfl
    rw [e, chain_snoc]
    have e2 : ((b :: bs).getLast?.or prev) = (bs.getLast?.or (some b)) := by
      cases bs with
      | nil => rfl
      | cons c cs => rw [List.getLast?_cons_cons]; cases h : (c :: cs).getLast? with
        | none => simp at h
        | some y => rfl
    rw [e2]
    show _ ↔ (cal b = callOf prev ∧ chainOk cal (some b) bs) ∧ _
    constructor
    · rintro ⟨a, b, c⟩; exact ⟨⟨a, b⟩, c⟩
    · rintro ⟨⟨a, b⟩, c⟩; exact ⟨a, b, c⟩
noncomputable def has (cal : Int → List (Int × Int)) (x y : Int) : Bool := (cal y).any fun p => p.1 = x
theorem chain_sum {cal : Int → List (Int × Int)} {x : Int} {n : Int} : ∀ {l : List Int} {prev : Option Int}, l.Nodup → chainOk cal prev l →
    (l.map fun y => if has cal x y = true then n else 0).sum = (if prev = some x ∧ l ≠ [] then n else 0) + (if x ∈ l.dropLast then n else 0)
  | [], prev, _, _ => by simp
  | [b], prev, _, ⟨h1, _⟩ => by
    have : has cal x b = decide (prev = some x) := by
      unfold has
      rw [h1]
      cases prev with
      | none => simp [callOf]
      | some p => simp [callOf]
    simp [this]
  | b :: c :: l, prev, hnd, ⟨h1, h2⟩ => by
    obtain ⟨n1, n2⟩ := List.nodup_cons.mp hnd
    have ih := chain_sum (x := x) (n := n) n2 h2
    have : has cal x b = decide (prev = some x) := by
      unfold has
      rw [h1]
      cases prev with
      | none => simp [callOf]
      | some p => simp [callOf]
    rw [List.map_cons, List.sum_cons, ih, this]
    have hd : (b :: c :: l).dropLast = b :: (c :: l).dropLast := rfl
    rw [hd]
    have hbx : b = x → x ∉ (c :: l).dropLast := fun e hm => n1 (e ▸ mem_init hm)
    by_cases hb : b = x
    · subst hb
      rw [if_neg (hbx rfl)]
      simp
    · have hb' : ¬ x = b := fun e => hb e.symm
      simp only [Option.some.injEq, hb, false_and, if_false, Int.zero_add, List.mem_cons, hb', false_or]
      by_cases hp : prev = some x <;> simp [hp]
theorem sum_ite {ks : List Int} {p : Int → Bool} {f : Int → Int} : ((ks.filter p).map f).sum = (ks.map fun y => if p y = true then f y else 0).sum := by
  induction ks with
  | nil => rfl
  | cons k ks ih =>
    rw [List.filter_cons, List.map_cons, List.sum_cons, ← ih]
    split
    · rw [List.map_cons, List.sum_cons]
    · omega
theorem sum_add {ks : List Int} {f g : Int → Int} : (ks.map fun y => f y + g y).sum = (ks.map f).sum + (ks.map g).sum := by
  induction ks with
  | nil => rfl
  | cons k ks ih => rw [List.map_cons, List.map_cons, List.map_cons, List.sum_cons, List.sum_cons, List.sum_cons, ih]; omega
theorem sum_perm {l m : List Int} (h : l.Perm m) : l.sum = m.sum := by
  induction h with
  | nil => rfl
  | cons x _ ih => rw [List.sum_cons, List.sum_cons, ih]
  | swap x y l => rw [List.sum_cons, List.sum_cons, List.sum_cons, List.sum_cons]; omega
  | trans _ _ a b => exact a.trans b
theorem sum_zero {ks : List Int} {f : Int → Int} (h : ∀ y ∈ ks, f y = 0) : (ks.map f).sum = 0 := by
  induction ks with
  | nil => rfl
  | cons k ks ih => rw [List.map_cons, List.sum_cons, h k (.head _), ih fun y hy => h y (.tail _ hy)]; rfl
/-- a sum over what lies in l, told over the whole -/
theorem sum_within {ks l : List Int} {g : Int → Int} (hk : ks.Nodup) (hl : l.Nodup) (hs : ∀ y ∈ l, y ∈ ks) : (ks.map fun y => if y ∈ l then g y else 0).sum = (l.map g).sum := by
  induction l generalizing ks with
  | nil => exact sum_zero fun y _ => by simp
  | cons a l ih =>
    obtain ⟨h1, h2⟩ := List.nodup_cons.mp hl
    obtain ⟨k1, k2, rfl⟩ := List.append_of_mem (hs a (.head _))
    have hp : (k1 ++ a :: k2).Perm (a :: (k1 ++ k2)) := List.perm_middle
    have hk' := hp.nodup_iff.mp hk
    obtain ⟨h3, h4⟩ := List.nodup_cons.mp hk'
    rw [sum_perm (hp.map _), List.map_cons, List.sum_cons, if_pos (.head _), List.map_cons, List.sum_cons]
    congr 1
    rw [← ih h4 h2 (fun y hy => by
      have := hp.mem_iff.mp (hs y (.tail _ hy))
      rcases List.mem_cons.mp this with rfl | h
      · exact absurd hy h1
      · exact h)]
    congr 1
    refine List.map_congr_left fun y hy => ?_
    have hya : y ≠ a := fun e => h3 (e ▸ hy)
    have : y ∈ a :: l ↔ y ∈ l := by rw [List.mem_cons]; exact ⟨fun h => h.resolve_left hya, .inr⟩
    by_cases hm : y ∈ l
    · rw [if_pos hm, if_pos (this.mpr hm)]
    · rw [if_neg hm, if_neg fun h => hm (this.mp h)]
end Mine

namespace Mine
/-- the books of the run, told from the film and the begun -/
structure RB (ks φ : List Int) (begun : List Int) (books : List (Int × Bk)) : Prop where
  keys : books.map (·.1) = ks
  books : ∀ x ∈ ks, bget books x = some (bkOf φ begun ks x)
  chain : chainOk (calOf φ begun ks) none begun
  tree : ∀ x ∈ ks, ctOf φ begun x = φ.count x + ((ks.filter fun y => has (calOf φ begun ks) x y).map fun y => ctOf φ begun y).sum
section
variable {row pre post : List Work} {φ ks B' : List Int} {S : RunS} {hour left hand : Int} {tl : List (Int × Int)} {r0 : Work} {n : Nat} {bg : List Int}
theorem bk_ext {a b : Bk} (h1 : a.cc = b.cc) (h2 : a.nc = b.nc) (h3 : a.tt = b.tt) (h4 : a.ct = b.ct) (h5 : a.cal = b.cal) : a = b := by
  obtain ⟨a1, a2, a3, a4, a5⟩ := a
  obtain ⟨b1, b2, b3, b4, b5⟩ := b
  dsimp only at *
  subst h1 h2 h3 h4 h5
  rfl
theorem RB.step (R : RowOk row) (hks : ks.Nodup) (hrk : ∀ r ∈ row, r.2.1 ∈ ks) (I : RI row pre post φ S) (V : TV row pre φ S hour left hand tl r0 n bg) (B : RB ks φ S.begun S.books) (hB' : B' = bg ++ [hand] ∨ B' = bg) : RB ks (φ ++ List.replicate n hand) B' (turnB S hand n bg) := by
  have hnp := V.npos
  have hbφ : ∀ y ∈ S.begun, y ∈ φ := fun y hy => ((I.beg y).mp hy).1
  have hbk : ∀ y ∈ S.begun, y ∈ ks := fun y hy => by
    obtain ⟨_, r, hr, e, _⟩ := (I.beg y).mp hy
    rw [← e]; exact hrk r (I.rowPre hr)
  have hhk : hand ∈ ks := by rw [← V.r0e]; exact hrk r0 (I.rowPre V.r0m)
  have hhb : hand ∈ φ → hand ∈ S.begun := fun h => by rw [V.ofb h]; simp
  have hbg1 : ∀ y, y ≠ hand → (y ∈ bg ++ [hand] ↔ y ∈ S.begun) := fun y hy => by
    rw [List.mem_append, V.bgm]
    exact ⟨fun h => h.elim (fun q => q.2) fun q => absurd (List.mem_singleton.mp q) hy, fun h => .inl ⟨hy, h⟩⟩
  have hBm : ∀ y, y ≠ hand → (y ∈ B' ↔ y ∈ S.begun) := fun y hy => by
    rcases hB' with rfl | rfl
    · exact hbg1 y hy
    · rw [V.bgm]; exact ⟨fun h => h.2, fun h => ⟨hy, h⟩⟩
  have hnd1 : (bg ++ [hand]).Nodup := by
    have hnb : S.begun.Nodup := I.begS.imp fun h e => by rw [e] at h; omega
    by_cases hφ : hand ∈ φ
    · rw [← V.ofb hφ]; exact hnb
    · rw [← V.frb hφ]
      refine List.nodup_append.mpr ⟨hnb, by simp, fun a ha b hb => ?_⟩
      rw [List.mem_singleton.mp hb]
      exact fun e => hφ (e ▸ hbφ a ha)
  have hin1 : ∀ y ∈ bg ++ [hand], y ∈ ks := fun y hy => by
    by_cases e : y = hand
    · rw [e]; exact hhk
    · exact hbk y ((hbg1 y e).mp hy)
  have hct : ∀ x, ctOf (φ ++ List.replicate n hand) B' x = ctOf φ S.begun x + if x ∈ bg ++ [hand] then (n : Int) else 0 := fun x => by
    unfold ctOf
    by_cases e : x = hand
    · subst e
      have h1 : (if x ∈ B' then (((φ ++ List.replicate n x).length : Nat) : Int) else ovr (φ ++ List.replicate n x) x) = φ.length + n := by
        rw [ovr_own hnp, List.length_append, List.length_replicate]
        split <;> omega
      rw [if_pos ((mem_seg hnp).mpr (.inr rfl)), h1, if_pos (show x ∈ bg ++ [x] by simp)]
      by_cases hφ : x ∈ φ
      · rw [if_pos hφ, if_pos (hhb hφ), bgn_app hφ]; omega
      · rw [if_neg hφ, bgn_new hφ hnp]; omega
    · by_cases hφ : x ∈ φ
      · rw [if_pos (List.mem_append_left _ hφ), if_pos hφ, bgn_app hφ, ovr_seg e]
        by_cases hb : x ∈ S.begun
        · rw [if_pos ((hBm x e).mpr hb), if_pos hb, if_pos ((hbg1 x e).mpr hb), List.length_append, List.length_replicate]; omega
        · rw [if_neg fun h => hb ((hBm x e).mp h), if_neg hb, if_neg fun h => hb ((hbg1 x e).mp h)]; omega
      · rw [if_neg fun h => by
          rcases (mem_seg hnp).mp h with h | h
          · exact hφ h
          · exact e h]
        rw [if_neg hφ, if_neg fun h => hφ (hbφ x ((hbg1 x e).mp h))]
        rfl
  have hcal : ∀ x ∈ φ, calOf (φ ++ List.replicate n hand) B' ks x = calOf φ S.begun ks x := fun x hx => by
    unfold calOf
    rw [if_pos (List.mem_append_left _ hx), if_pos hx, arB_seg hx hnp (fun y _ e => hBm y e) fun _ h => hhb h]
  have hcalh : hand ∉ φ → calOf (φ ++ List.replicate n hand) B' ks hand = callOf S.begun.getLast? := fun hφ => by
    unfold calOf
    rw [if_pos ((mem_seg hnp).mpr (.inr rfl)), arB_new hφ hnp hbφ fun y _ e => hBm y e]
    cases hl : S.begun.getLast? with
    | none =>
      have : S.begun = [] := List.getLast?_eq_none_iff.mp hl
      rw [this]
      have : (ks.filterMap fun y => if y ∈ ([] : List Int) then some (bgn φ y, y) else none) = [] := by
        rw [List.filterMap_eq_nil_iff]; intro a _; rfl
      rw [this]; rfl
    | some z =>
      have hz : z ∈ S.begun := List.mem_of_getLast? hl
      obtain ⟨bb, eb⟩ : ∃ bb, S.begun = bb ++ [z] := by
        obtain ⟨bb, e⟩ := List.getLast?_eq_some_iff.mp hl
        exact ⟨bb, e⟩
      refine mostC_is (q := (bgn φ z, z)) (List.mem_filterMap.mpr ⟨z, hbk z hz, if_pos hz⟩) fun p hp => ?_
      obtain ⟨y, hy, ey⟩ := List.mem_filterMap.mp hp
      by_cases hyb : y ∈ S.begun
      · rw [if_pos hyb] at ey
        cases ey
        by_cases e : y = z
        · rw [e]; exact lep_refl _
        · have hS := I.begS
          rw [eb] at hS hyb
          rcases List.mem_append.mp hyb with h | h
          · have := (List.pairwise_append.mp hS).2.2 y h z (.head _)
            refine lep_of_lt (ltp_iff.mpr (.inl this))
          · exact absurd (List.mem_singleton.mp h) e
      · rw [if_neg hyb] at ey; cases ey
  have hchain1 : chainOk (calOf (φ ++ List.replicate n hand) B' ks) none (bg ++ [hand]) := by
    by_cases hφ : hand ∈ φ
    · have hc := B.chain
      rw [V.ofb hφ] at hc
      refine chain_congr (fun b hb => ?_) hc
      rw [← V.ofb hφ, hcal b (by rw [← V.ofb hφ] at hb; exact hbφ b hb)]
    · have hc := B.chain
      rw [V.frb hφ] at hc
      refine chain_snoc.mpr ⟨chain_congr (fun b hb => ?_) hc, ?_⟩
      · rw [← V.frb hφ] at hb ⊢; rw [hcal b (hbφ b hb)]
      · rw [hcalh hφ, V.frb hφ, Option.or_none]
  refine ⟨?_, fun x hx => ?_, ?_, fun x hx => ?_⟩
  · unfold turnB
    rw [bfold_keys, badd_keys]; exact B.keys
  · unfold turnB
    have hh := B.books hand hhk
    have hsome : ∀ o ∈ bg ++ [hand], (bget (badd S.books hand ⟨if fresh S hand = true then 1 else 0, if hand ≠ S.last then 1 else 0, n, 0, if (fresh S hand && !S.begun.isEmpty) = true then [(S.begun.getLastD 0, (1 : Int))] else []⟩) o).isSome = true := fun o ho => by
      rw [bget_badd hh]
      split
      · rfl
      · rw [B.books o (hin1 o ho)]; rfl
    rw [bget_fold _ _ _ hnd1 hsome, bget_badd hh]
    have hfr : (fresh S hand = true) ↔ hand ∉ φ := by
      unfold fresh
      rw [Bool.not_eq_true', V.fr]
    by_cases e : x = hand
    · subst e
      rw [if_pos (show x ∈ bg ++ [x] by simp), if_pos rfl, Option.map_some]
      congr 1
      have hl : (x ≠ S.last) ↔ (x = x ∧ φ.getLast? ≠ some x) := by
        have := I.last r0 V.r0m (by rw [V.r0l]; exact V.lpos)
        rw [V.r0e] at this
        rw [ne_eq, this]; simp
      refine bk_ext ?_ ?_ ?_ ?_ ?_
      · show (0 : Int) + ((if fresh S x = true then 1 else 0) + (if x ∈ φ then 1 else 0)) = if x ∈ φ ++ List.replicate n x then 1 else 0
        rw [if_pos ((mem_seg hnp).mpr (.inr rfl))]
        by_cases hφ : x ∈ φ
        · rw [if_neg fun h => hfr.mp h hφ, if_pos hφ]; rfl
        · rw [if_pos (hfr.mpr hφ), if_neg hφ]; rfl
      · show (0 : Int) + ((if x ≠ S.last then 1 else 0) + (nst φ x : Nat)) = (nst (φ ++ List.replicate n x) x : Nat)
        rw [nst_seg φ x x n hnp]
        by_cases hc : x ≠ S.last
        · rw [if_pos hc, if_pos (hl.mp hc)]; omega
        · rw [if_neg hc, if_neg fun h => hc (hl.mpr h)]; omega
      · show (0 : Int) + ((n : Int) + (φ.count x : Nat)) = ((φ ++ List.replicate n x).count x : Nat)
        rw [count_seg, if_pos rfl]; omega
      · show (n : Int) + (0 + ctOf φ S.begun x) = ctOf (φ ++ List.replicate n x) B' x
        rw [hct, if_pos (show x ∈ bg ++ [x] by simp)]; omega
      · show (calOf φ S.begun ks x ++ (if (fresh S x && !S.begun.isEmpty) = true then [(S.begun.getLastD 0, (1 : Int))] else [])) ++ [] = calOf (φ ++ List.replicate n x) B' ks x
        rw [List.append_nil]
        by_cases hφ : x ∈ φ
        · have : fresh S x = false := by
            cases h : fresh S x with
            | false => rfl
            | true => exact absurd hφ (hfr.mp h)
          rw [this, Bool.false_and, if_neg (by decide), List.append_nil, hcal x hφ]
        · rw [hcalh hφ, hfr.mpr hφ, Bool.true_and]
          have h0 : calOf φ S.begun ks x = [] := by unfold calOf; rw [if_neg hφ]
          rw [h0, List.nil_append]
          cases hl : S.begun with
          | nil => rfl
          | cons b bs =>
            obtain ⟨z, hz⟩ : ∃ z, (b :: bs).getLast? = some z := ⟨_, List.getLast?_eq_some_getLast (by simp)⟩
            have hD : (b :: bs).getLastD 0 = z := by
              rw [List.getLastD_eq_getLast?, hz]; rfl
            rw [hz, hD]
            rfl
    · rw [if_neg e, B.books x hx]
      have hmem : (x ∈ φ ++ List.replicate n hand) ↔ x ∈ φ := by
        rw [mem_seg hnp]; exact ⟨fun h => h.resolve_right e, .inl⟩
      have hcalx : calOf φ S.begun ks x = calOf (φ ++ List.replicate n hand) B' ks x := by
        by_cases hφ : x ∈ φ
        · rw [hcal x hφ]
        · unfold calOf; rw [if_neg hφ, if_neg fun h => hφ (hmem.mp h)]
      have hcc : (if x ∈ φ then (1 : Int) else 0) = if x ∈ φ ++ List.replicate n hand then 1 else 0 := by
        by_cases hφ : x ∈ φ
        · rw [if_pos hφ, if_pos (hmem.mpr hφ)]
        · rw [if_neg hφ, if_neg fun h => hφ (hmem.mp h)]
      have hnc : nst (φ ++ List.replicate n hand) x = nst φ x := nst_other e hnp
      have htt : (φ ++ List.replicate n hand).count x = φ.count x := by rw [count_seg, if_neg e]; rfl
      by_cases hb : x ∈ bg ++ [hand]
      · rw [if_pos hb, Option.map_some]
        congr 1
        refine bk_ext ?_ ?_ ?_ ?_ ?_
        · show (0 : Int) + _ = _
          rw [Int.zero_add]; exact hcc
        · show (0 : Int) + (nst φ x : Nat) = (nst (φ ++ List.replicate n hand) x : Nat)
          rw [hnc]; omega
        · show (0 : Int) + (φ.count x : Nat) = ((φ ++ List.replicate n hand).count x : Nat)
          rw [htt]; omega
        · show (n : Int) + ctOf φ S.begun x = ctOf (φ ++ List.replicate n hand) B' x
          rw [hct, if_pos hb]; omega
        · show calOf φ S.begun ks x ++ [] = _
          rw [List.append_nil]; exact hcalx
      · rw [if_neg hb]
        congr 1
        refine bk_ext hcc ?_ ?_ ?_ hcalx
        · show ((nst φ x : Nat) : Int) = (nst (φ ++ List.replicate n hand) x : Nat)
          rw [hnc]
        · show ((φ.count x : Nat) : Int) = ((φ ++ List.replicate n hand).count x : Nat)
          rw [htt]
        · show ctOf φ S.begun x = ctOf (φ ++ List.replicate n hand) B' x
          rw [hct, if_neg hb]; omega
  · rcases hB' with rfl | rfl
    · exact hchain1
    · exact (chain_snoc.mp hchain1).1
  · have hsum : ((ks.filter fun y => has (calOf (φ ++ List.replicate n hand) B' ks) x y).map fun y => ctOf (φ ++ List.replicate n hand) B' y).sum
        = ((ks.filter fun y => has (calOf φ S.begun ks) x y).map fun y => ctOf φ S.begun y).sum + (if x ∈ bg then (n : Int) else 0) := by
      rw [sum_ite, sum_ite]
      have h1 : (ks.map fun y => if has (calOf (φ ++ List.replicate n hand) B' ks) x y = true then ctOf (φ ++ List.replicate n hand) B' y else 0)
          = ks.map fun y => (if has (calOf φ S.begun ks) x y = true then ctOf φ S.begun y else 0) + (if y ∈ bg ++ [hand] then (if has (calOf (φ ++ List.replicate n hand) B' ks) x y = true then (n : Int) else 0) else 0) := by
        refine List.map_congr_left fun y hy => ?_
        rw [hct]
        by_cases hφ : y ∈ φ
        · have : has (calOf (φ ++ List.replicate n hand) B' ks) x y = has (calOf φ S.begun ks) x y := by unfold has; rw [hcal y hφ]
          rw [this]
          split
          · split <;> omega
          · split <;> rfl
        · have h0 : ctOf φ S.begun y = 0 := by unfold ctOf; rw [if_neg hφ]
          rw [h0]
          have h00 : (if has (calOf φ S.begun ks) x y = true then (0 : Int) else 0) = 0 := by split <;> rfl
          rw [h00]
          split
          · split <;> omega
          · split <;> rfl
      rw [h1, sum_add, sum_within hks hnd1 hin1, chain_sum hnd1 hchain1, if_neg (by simp), List.dropLast_concat]
      omega
    rw [hct, hsum, count_seg, B.tree x hx]
    by_cases e : x = hand
    · subst e
      have hxb : x ∉ bg := fun h => ((V.bgm x).mp h).1 rfl
      rw [if_pos (show x ∈ bg ++ [x] by simp), if_pos rfl, if_neg hxb]; omega
    · rw [if_neg e]
      have : x ∈ bg ++ [hand] ↔ x ∈ bg := by rw [List.mem_append]; exact ⟨fun h => h.resolve_right fun q => e (List.mem_singleton.mp q), .inl⟩
      by_cases hb : x ∈ bg
      · rw [if_pos (this.mpr hb), if_pos hb]; omega
      · rw [if_neg fun h => hb (this.mp h), if_neg hb]; omega
end
end Mine

namespace Mine
section
variable {row pre post : List Work} {φ ks : List Int} {S : RunS} {t : Work}
theorem RB.idle (hpos : ∀ x ∈ ks, 0 ≤ x) {books : List (Int × Bk)} (B : RB ks φ [] books) {n : Nat} (hn : 0 < n) : RB ks (φ ++ List.replicate n (-1)) [] books := by
  have hne : ∀ x ∈ ks, x ≠ -1 := fun x hx e => by have := hpos x hx; omega
  have hct : ∀ x ∈ ks, ctOf (φ ++ List.replicate n (-1)) [] x = ctOf φ [] x := fun x hx => by
    unfold ctOf
    by_cases hφ : x ∈ φ
    · rw [if_pos (List.mem_append_left _ hφ), if_pos hφ, bgn_app hφ, ovr_seg (hne x hx)]; simp
    · rw [if_neg hφ, if_neg fun h => by
        rcases (mem_seg hn).mp h with h | h
        · exact hφ h
        · exact hne x hx h]
  have hcal : ∀ x ∈ ks, calOf (φ ++ List.replicate n (-1)) [] ks x = calOf φ [] ks x := fun x hx => by
    unfold calOf
    by_cases hφ : x ∈ φ
    · rw [if_pos (List.mem_append_left _ hφ), if_pos hφ, arB_seg hφ hn (fun y _ _ => Iff.rfl) fun h _ => absurd rfl (hne _ h)]
    · rw [if_neg hφ, if_neg fun h => by
        rcases (mem_seg hn).mp h with h | h
        · exact hφ h
        · exact hne x hx h]
  refine ⟨B.keys, fun x hx => ?_, trivial, fun x hx => ?_⟩
  · rw [B.books x hx]
    congr 1
    refine bk_ext ?_ ?_ ?_ (hct x hx).symm (hcal x hx).symm
    · show (if x ∈ φ then (1 : Int) else 0) = if x ∈ φ ++ List.replicate n (-1) then 1 else 0
      have : (x ∈ φ ++ List.replicate n (-1)) ↔ x ∈ φ := by rw [mem_seg hn]; exact ⟨fun h => h.resolve_right (hne x hx), .inl⟩
      by_cases hφ : x ∈ φ
      · rw [if_pos hφ, if_pos (this.mpr hφ)]
      · rw [if_neg hφ, if_neg fun h => hφ (this.mp h)]
    · show ((nst φ x : Nat) : Int) = (nst (φ ++ List.replicate n (-1)) x : Nat)
      rw [nst_other (hne x hx) hn]
    · show ((φ.count x : Nat) : Int) = ((φ ++ List.replicate n (-1)).count x : Nat)
      rw [count_seg, if_neg (hne x hx)]; rfl
  · rw [hct x hx, count_seg, if_neg (hne x hx), B.tree x hx, sum_ite, sum_ite]
    congr 1
    congr 1
    refine List.map_congr_left fun y hy => ?_
    have : has (calOf (φ ++ List.replicate n (-1)) [] ks) x y = has (calOf φ [] ks) x y := by unfold has; rw [hcal y hy]
    rw [this, hct y hy]
end
/-- the run at a point, its rest L -/
noncomputable def InvR (row : List Work) (ks : List Int) (L : List Work) (S : RunS) : Prop :=
  (L = [] ∧ S.heap.length < 1000 ∧ ∃ φ S1, RI row row [] φ S1 ∧ RB ks φ S1.begun S1.books ∧ S1.heap = [] ∧ S.ends = S1.ends ∧ S.books = S1.books) ∨
  ∃ pre post φ, L = post ++ [(99, -1, 0)] ∧ RI row pre post φ S ∧ RB ks φ S.begun S.books
section
variable {row pre post : List Work} {φ ks : List Int} {S : RunS} {t : Work}
theorem count_le_one {l : List Int} (h : l.Nodup) (a : Int) : l.count a ≤ 1 := by
  rw [List.nodup_iff_count] at h
  exact h a
theorem RI.lenLe (R : RowOk row) (I : RI row pre post φ S) : φ.length ≤ 42 ∧ pre.length ≤ 7 := by
  have hpl : pre.length ≤ 7 := by
    have := R.len
    rw [I.split, List.length_append] at this; omega
  have hs : ∀ l : List Work, (∀ r ∈ l, φ.count r.2.1 ≤ 5) → (l.map fun r => φ.count r.2.1).sum ≤ 5 * l.length := by
    intro l
    induction l with
    | nil => intro _; simp
    | cons r l ih =>
      intro h
      rw [List.map_cons, List.sum_cons, List.length_cons]
      have := ih fun q hq => h q (.tail _ hq)
      have := h r (.head _)
      omega
  have := hs pre fun r hr => by
    have h1 := I.cnt r hr
    have h2 := (R.need r (I.rowPre hr)).2
    unfold lft at h1
    omega
  have := I.lenB
  omega
theorem bget_of_mem {bs : List (Int × Bk)} (hnd : (bs.map (·.1)).Nodup) {p : Int × Bk} (hp : p ∈ bs) : bget bs p.1 = some p.2 := by
  induction bs with
  | nil => nomatch hp
  | cons q bs ih =>
    rw [List.map_cons, List.nodup_cons] at hnd
    unfold bget at ih ⊢
    rcases List.mem_cons.mp hp with rfl | hp
    · rw [List.find?_cons_of_pos (by simp)]; rfl
    · rw [List.find?_cons_of_neg, ih hnd.2 hp]
      simp only [decide_eq_true_eq]
      intro e
      exact hnd.1 (by rw [e]; exact List.mem_map_of_mem (f := Prod.fst) hp)
theorem good_of (R : RowOk row) (hks : ks.Nodup) (hkl : ks.length ≤ 7) (hrk : ∀ r ∈ row, r.2.1 ∈ ks) (I : RI row pre post φ S) (B : RB ks φ S.begun S.books) {hour left hand : Int} {tl : List (Int × Int)} {r0 : Work} {n : Nat} {bg : List Int} (V : TV row pre φ S hour left hand tl r0 n bg) : GoodP hour S := by
  have hhk : hand ∈ ks := by rw [← V.r0e]; exact hrk r0 (I.rowPre V.r0m)
  have hlen := I.lenLe R
  have hbk : ∀ y ∈ S.begun, y ∈ ks := fun y hy => by
    obtain ⟨_, r, hr, e, _⟩ := (I.beg y).mp hy
    rw [← e]; exact hrk r (I.rowPre hr)
  have hg : S.heap.getD 0 (0, 0) = (left, hand) := by rw [V.heap]; rfl
  refine ⟨⟨_, by rw [hg]; exact B.books hand hhk, fun h => ?_⟩, fun p hp => ?_, fun o ho => by rw [B.keys]; exact hbk o ho, fun h => ?_, ?_, ?_, ?_, ?_⟩
  · rw [hg] at h
    show calOf φ S.begun ks hand = []
    unfold calOf
    rw [if_neg (V.fr.mp h)]
  · have hpk : p.1 ∈ ks := by rw [← B.keys]; exact List.mem_map_of_mem (f := Prod.fst) hp
    have h1 := B.books p.1 hpk
    rw [bget_of_mem (by rw [B.keys]; exact hks) hp] at h1
    rw [Option.some.inj h1]
    show (calOf φ S.begun ks p.1).length ≤ 1
    unfold calOf
    split
    · exact mostC_len _
    · simp
  · rw [hg]
    by_cases hφ : hand ∈ φ
    · exact .inr ⟨bg, V.ofb hφ⟩
    · exact .inl (V.fr.mpr hφ)
  · have h1 := I.perm.length_eq
    have h2 : (heapOf pre φ).length ≤ pre.length := by unfold heapOf; rw [List.length_map]; exact List.length_filter_le _ _
    omega
  · have := I.begN; omega
  · have h1 := I.endsP.length_eq
    have h2 : (overOf pre φ).length ≤ pre.length := by unfold overOf; rw [List.length_map]; exact List.length_filter_le _ _
    omega
  · have : S.books.length = ks.length := by rw [← B.keys, List.length_map]
    omega
theorem hourPost (R : RowOk row) (hs : row = pre ++ post) {rest : List Work} (he : t :: rest = post ++ [(99, -1, 0)]) : ∀ r ∈ post, t.1 ≤ r.1 := by
  cases post with
  | nil => intro r hr; nomatch hr
  | cons p post =>
    rw [List.cons_append] at he
    injection he with h1 h2
    subst h1
    have hsrt := R.srt
    rw [hs] at hsrt
    intro r hr
    rcases List.mem_cons.mp hr with rfl | hr
    · exact Int.le_refl _
    · exact (List.pairwise_cons.mp (List.pairwise_append.mp hsrt).2.1).1 r hr
theorem inv_turn (R : RowOk row) (hks : ks.Nodup) (hkl : ks.length ≤ 7) (hrk : ∀ r ∈ row, r.2.1 ∈ ks) {rest : List Work} (h : InvR row ks (t :: rest) S) (hne : S.heap ≠ []) (hlt : S.now < t.1) : GoodP t.1 S ∧ InvR row ks (t :: rest) (turn t.1 S) := by
  rcases h with ⟨h, _⟩ | ⟨pre, post, φ, he, I, B⟩
  · cases h
  · obtain ⟨left, hand, tl, r0, n, bg, V⟩ := TV.of R I hne hlt
    refine ⟨good_of R hks hkl hrk I B V, .inr ⟨pre, post, _, he, I.turn R V (hourPost R I.split he), ?_⟩⟩
    rw [V.turn]
    split
    · exact B.step R hks hrk I V (.inl rfl)
    · exact B.step R hks hrk I V (.inr rfl)
theorem inv_arr (R : RowOk row) (hpos : ∀ x ∈ ks, 0 ≤ x) {rest : List Work} (h : InvR row ks (t :: rest) S) (hn : ¬ (S.heap ≠ [] ∧ S.now < t.1)) : InvR row ks rest (arrive t S) := by
  rcases h with ⟨h, _⟩ | ⟨pre, post, φ, he, I, B⟩
  · cases h
  · cases post with
    | nil =>
      rw [List.nil_append] at he
      injection he with h1 h2
      subst h1
      subst h2
      have hlen := I.lenLe R
      have hnow : S.now < 99 := by rw [I.now]; omega
      have hh : S.heap = [] := by
        cases e : S.heap with
        | nil => rfl
        | cons p l => exact absurd ⟨by rw [e]; simp, hnow⟩ hn
      have hpr : row = pre := by rw [I.split, List.append_nil]
      refine .inl ⟨rfl, ?_, φ, S, by rw [hpr] at I ⊢; exact I, B, hh, rfl, rfl⟩
      show (sdown _ _ _).length < 1000
      rw [sdown_length, hh]; simp
    | cons p post =>
      rw [List.cons_append] at he
      injection he with h1 h2
      subst h1
      have hle := I.postH t (.head _)
      by_cases hlt : S.now < t.1
      · have hh : S.heap = [] := by
          cases e : S.heap with
          | nil => rfl
          | cons p l => exact absurd ⟨by rw [e]; simp, hlt⟩ hn
        obtain ⟨n, hn'⟩ : ∃ n : Nat, t.1 - S.now = n := ⟨(t.1 - S.now).toNat, by omega⟩
        have I' := I.idle R hh (n := n) (by omega) (by omega)
        have I'' := I'.push R rfl
        have hb := I.begNil hh
        have B' : RB ks (φ ++ List.replicate n (-1)) S.begun S.books := by
          rw [hb] at B ⊢
          exact B.idle hpos (by omega)
        refine .inr ⟨pre ++ [t], post, _, h2, ?_, B'⟩
        unfold arrive
        rw [if_pos hlt]
        exact I''
      · have hnow : S.now = t.1 := by omega
        refine .inr ⟨pre ++ [t], post, φ, h2, ?_, B⟩
        unfold arrive
        rw [if_neg (by omega)]
        exact I.push R hnow
theorem inv_len (R : RowOk row) {L : List Work} (h : InvR row ks L S) : S.heap.length < 1000 := by
  rcases h with ⟨_, h, _⟩ | ⟨pre, post, φ, he, I, B⟩
  · exact h
  · have hlen := I.lenLe R
    have h1 := I.perm.length_eq
    have h2 : (heapOf pre φ).length ≤ pre.length := by unfold heapOf; rw [List.length_map]; exact List.length_filter_le _ _
    omega
theorem inv_runW (R : RowOk row) (hks : ks.Nodup) (hkl : ks.length ≤ 7) (hrk : ∀ r ∈ row, r.2.1 ∈ ks) {rest : List Work} : ∀ S, InvR row ks (t :: rest) S → InvR row ks (t :: rest) (runW t.1 S) := by
  intro S
  induction S using runW.induct t.1 with
  | case1 S h ih =>
    intro hi
    rw [runW, dif_pos h]
    exact ih (inv_turn R hks hkl hrk hi h.1 h.2).2
  | case2 S h =>
    intro hi
    rw [runW, dif_neg h]
    exact hi
theorem inv_all (R : RowOk row) (hks : ks.Nodup) (hkl : ks.length ≤ 7) (hpos : ∀ x ∈ ks, 0 ≤ x) (hrk : ∀ r ∈ row, r.2.1 ∈ ks) : ∀ (L : List Work) (S : RunS), InvR row ks L S → InvR row ks [] (runAll L S)
  | [], S, h => h
  | t :: L, S, h => by
    show InvR row ks [] (runAll L (arrive t (runW t.1 S)))
    exact inv_all R hks hkl hpos hrk L _ (inv_arr R hpos (inv_runW R hks hkl hrk S h) (runW_stop t.1 S))
theorem inv_start (R : RowOk row) (hks : ks.Nodup) : InvR row ks (row ++ [(99, -1, 0)]) (run0 (ks.map fun x => (x, ⟨0, 0, 0, 0, []⟩))) := by
  refine .inr ⟨[], row, [], rfl, ⟨rfl, rfl, List.forall_mem_nil _, fun r hr => (R.hr r hr).1, fun t ht => absurd ht (Nat.not_lt_zero _), List.forall_mem_nil _, fun r hr h => (nomatch h), fun i _ hi => absurd hi (Nat.not_lt_zero _), List.Perm.refl _, fun x => ⟨fun h => (nomatch h), fun h => (nomatch h.1)⟩, List.Pairwise.nil, List.Pairwise.nil, .inl rfl, List.forall_mem_nil _, List.Perm.refl _, List.Pairwise.nil, List.forall_mem_nil _, by simp, by simp [run0]⟩, ⟨?_, fun x hx => ?_, trivial, fun x hx => ?_⟩⟩
  · show (ks.map fun x => ((x, ⟨0, 0, 0, 0, []⟩) : Int × Bk)).map (·.1) = ks
    rw [List.map_map]; exact List.map_id _
  · show bget (ks.map fun x => ((x, ⟨0, 0, 0, 0, []⟩) : Int × Bk)) x = some (bkOf [] [] ks x)
    have hm : ((x, ⟨0, 0, 0, 0, []⟩) : Int × Bk) ∈ ks.map fun x => ((x, ⟨0, 0, 0, 0, []⟩) : Int × Bk) := List.mem_map.mpr ⟨x, hx, rfl⟩
    rw [bget_of_mem (by rw [List.map_map]; show (ks.map id).Nodup; rw [List.map_id]; exact hks) hm]
    refine congrArg some (bk_ext ?_ ?_ ?_ ?_ ?_)
    · simp [bkOf]
    · simp [bkOf, nst]
    · simp [bkOf]
    · simp [bkOf, ctOf]
    · simp [bkOf, calOf]
  · show ctOf [] [] x = _
    have h0 : ∀ y, ctOf [] [] y = 0 := fun y => by simp [ctOf]
    rw [h0, sum_ite, sum_zero]
    · simp
    · intro y _
      show (if has (calOf [] [] ks) x y = true then ctOf [] [] y else 0) = 0
      rw [h0]; split <;> rfl
end
end Mine

namespace Mine
/-- a choice done alone, in its row -/
noncomputable def Cs (c : Int) (l : List Work) : Int := l.foldl (fun c r => (if r.1 > c then r.1 else c) + r.2.2) c
theorem Cs_cons (c : Int) (r : Work) (l : List Work) : Cs c (r :: l) = Cs ((if r.1 > c then r.1 else c) + r.2.2) l := rfl
theorem Cs_snoc (c : Int) (r : Work) (l : List Work) : Cs c (l ++ [r]) = (if r.1 > Cs c l then r.1 else Cs c l) + r.2.2 := by
  unfold Cs; rw [List.foldl_append]; rfl
theorem soon_mem : ∀ (row : List Work) (p : Int × Int), p ∈ soon row ↔ ∃ l, l.Sublist row ∧ p = (((l.length : Nat) : Int), Cs 0 l) := by
  refine snocRec ?_ ?_
  · intro p
    constructor
    · intro h
      have : p = (0, 0) := by simpa [soon] using h
      exact ⟨[], List.Sublist.refl _, this⟩
    · rintro ⟨l, hl, rfl⟩
      have := List.sublist_nil.mp hl
      subst this
      simp [soon, Cs]
  · intro row t ih p
    rw [soon_snoc, List.mem_append, ih, List.mem_map]
    constructor
    · rintro (⟨l, hl, rfl⟩ | ⟨q, hq, rfl⟩)
      · exact ⟨l, hl.trans (List.sublist_append_left _ _), rfl⟩
      · obtain ⟨l, hl, rfl⟩ := (ih q).mp hq
        refine ⟨l ++ [t], hl.append (List.Sublist.refl _), ?_⟩
        rw [Cs_snoc, List.length_append]
        unfold soon1
        simp
    · rintro ⟨l, hl, rfl⟩
      obtain ⟨l1, l2, rfl, h1, h2⟩ := List.sublist_append_iff.mp hl
      rcases List.sublist_cons_iff.mp h2 with h | ⟨r, rfl, h⟩
      · rw [List.sublist_nil.mp h, List.append_nil]
        exact .inl ⟨l1, h1, rfl⟩
      · rw [List.sublist_nil.mp h]
        refine .inr ⟨_, (ih _).mpr ⟨l1, h1, rfl⟩, ?_⟩
        rw [Cs_snoc, List.length_append]
        unfold soon1
        simp
noncomputable abbrev sumN (l : List Work) : Int := (l.map (·.2.2)).sum
theorem Cs_le : ∀ (l : List Work) (c T : Int), c + sumN l ≤ T → (∀ l1 r l2, l = l1 ++ r :: l2 → r.1 + sumN (r :: l2) ≤ T) → Cs c l ≤ T
  | [], c, T, h, _ => by simpa [sumN, Cs] using h
  | r :: l, c, T, h, hs => by
    rw [Cs_cons]
    have h0 := hs [] r l rfl
    unfold sumN at h h0
    rw [List.map_cons, List.sum_cons] at h h0
    refine Cs_le l _ T ?_ fun l1 q l2 e => hs (r :: l1) q l2 (by rw [e]; rfl)
    unfold sumN
    split <;> omega
theorem Cs_ge : ∀ (l : List Work) (c : Int), (∀ r ∈ l, 0 ≤ r.2.2) → c ≤ Cs c l ∧ ∀ r ∈ l, r.1 ≤ Cs c l
  | [], c, _ => ⟨Int.le_refl _, List.forall_mem_nil _⟩
  | r :: l, c, h => by
    rw [Cs_cons]
    have hr := h r (.head _)
    obtain ⟨h1, h2⟩ := Cs_ge l ((if r.1 > c then r.1 else c) + r.2.2) fun q hq => h q (.tail _ hq)
    have hm : c ≤ (if r.1 > c then r.1 else c) ∧ r.1 ≤ (if r.1 > c then r.1 else c) := by split <;> omega
    refine ⟨by omega, List.forall_mem_cons.mpr ⟨by omega, h2⟩⟩
theorem Cs_same {s : Int} : ∀ (m : List Work) (C : Int), (∀ r ∈ m, r.1 = s ∧ 0 ≤ r.2.2) → (if C - s > 0 then C - s else 0) + sumN m ≤ (if Cs C m - s > 0 then Cs C m - s else 0)
  | [], C, _ => by simp [sumN, Cs]
  | r :: m, C, h => by
    obtain ⟨h1, h2⟩ := h r (.head _)
    have ih := Cs_same m ((if r.1 > C then r.1 else C) + r.2.2) fun q hq => h q (.tail _ hq)
    rw [Cs_cons]
    unfold sumN at ih ⊢
    rw [List.map_cons, List.sum_cons]
    refine Int.le_trans ?_ ih
    rw [h1]
    by_cases hc : s > C
    · rw [if_pos hc]
      split <;> split <;> omega
    · rw [if_neg hc]
      split <;> split <;> omega
theorem sum_ite_count (a : Int) : ∀ (xs : List Int), (xs.map fun x => if (a == x) = true then 1 else 0).sum = xs.count a
  | [] => rfl
  | x :: xs => by
    rw [List.map_cons, List.sum_cons, sum_ite_count a xs, List.count_cons]
    by_cases h : a = x
    · subst h; simp; omega
    · have h1 : (a == x) = false := by simpa using h
      have h2 : (x == a) = false := by simpa using fun e : x = a => h e.symm
      rw [h1, h2]; simp
theorem sum_add_nat {α : Type} {f g : α → Nat} : ∀ (xs : List α), (xs.map fun y => f y + g y).sum = (xs.map f).sum + (xs.map g).sum
  | [] => rfl
  | x :: xs => by rw [List.map_cons, List.map_cons, List.map_cons, List.sum_cons, List.sum_cons, List.sum_cons, sum_add_nat xs]; omega
theorem counts_le {xs : List Int} (hnd : xs.Nodup) : ∀ ψ : List Int, (xs.map fun x => ψ.count x).sum ≤ ψ.length
  | [] => by
    have : (xs.map fun x => ([] : List Int).count x).sum = 0 := by
      clear hnd
      induction xs with
      | nil => rfl
      | cons x xs ih => rw [List.map_cons, List.sum_cons, ih]; rfl
    rw [this]; exact Nat.le_refl _
  | a :: ψ => by
    have h1 : (xs.map fun x => (a :: ψ).count x) = xs.map fun x => ψ.count x + if (a == x) = true then 1 else 0 := by
      refine List.map_congr_left fun x _ => ?_
      rw [List.count_cons]
    rw [h1, sum_add_nat, sum_ite_count, List.length_cons]
    have h2 := counts_le hnd ψ
    have h3 := count_le_one hnd a
    omega
theorem nodup_sub_length {α : Type} [BEq α] [LawfulBEq α] : ∀ {l m : List α}, l.Nodup → (∀ x ∈ l, x ∈ m) → l.length ≤ m.length
  | [], _, _, _ => Nat.zero_le _
  | a :: l, m, h, hs => by
    obtain ⟨h1, h2⟩ := List.nodup_cons.mp h
    have ha := hs a (.head _)
    have := nodup_sub_length (l := l) (m := m.erase a) h2 fun x hx => (List.mem_erase_of_ne (show x ≠ a from fun e => h1 (e ▸ hx))).mpr (hs x (.tail _ hx))
    rw [List.length_erase_of_mem ha] at this
    have hm : 0 < m.length := List.length_pos_of_mem ha
    rw [List.length_cons]
    omega
theorem ovr_at {x : Int} : ∀ (φ : List Int), x ∈ φ → 0 < ovr φ x ∧ φ[(ovr φ x - 1).toNat]? = some x := by
  refine snocRec (fun h => nomatch h) ?_
  intro φ h ih hx
  rw [ovr_snoc]
  by_cases e : x = h
  · subst e
    rw [if_pos rfl]
    refine ⟨by omega, ?_⟩
    rw [show ((φ.length : Int) + 1 - 1).toNat = φ.length by omega]
    simp
  · rw [if_neg e]
    have hx' : x ∈ φ := by
      rcases List.mem_append.mp hx with h | h
      · exact h
      · exact absurd (List.mem_singleton.mp h) e
    obtain ⟨h1, h2⟩ := ih hx'
    have := ovr_le (φ := φ) (x := x)
    exact ⟨h1, by rw [List.getElem?_append_left (by omega)]; exact h2⟩
/-- the film of a row, as the rule makes it, all done -/
structure Fm (row : List Work) (φ : List Int) : Prop where
  R : RowOk row
  done : ∀ r ∈ row, lft φ r = 0
  film : ∀ t, t < φ.length → φ[t]? = some (pickAt row (φ.take t))
section
variable {row : List Work} {φ : List Int}
theorem pickAt_best (R : RowOk row) (ψ : List Int) : ∃ pre post, row = pre ++ post ∧ (∀ r ∈ pre, r.1 ≤ (ψ.length : Nat)) ∧ (∀ r ∈ post, ((ψ.length : Nat) : Int) < r.1) ∧ Best (lf row ψ) pre (pickAt row ψ) := by
  obtain ⟨pre, post, e, h1, h2⟩ := split_hour row (ψ.length : Nat) R.srt
  refine ⟨pre, post, e, h1, h2, ?_⟩
  unfold pickAt
  have : row.take (bis (row.map (·.1)) (ψ.length : Nat) 0 row.length) = pre := by rw [e]; exact take_bis h1 h2
  rw [this]
  exact pick_best pre fun r hr => R.nn r (by rw [e]; exact List.mem_append_left _ hr)
/-- nobody is at work before his hour -/
theorem Fm.hour (F : Fm row φ) {t : Nat} {r : Work} (hr : r ∈ row) (h : φ[t]? = some r.2.1) : r.1 ≤ t := by
  have hlt : t < φ.length := (List.getElem?_eq_some_iff.mp h).1
  have hp := F.film t hlt
  rw [h] at hp
  have hp := Option.some.inj hp
  obtain ⟨pre, post, e, h1, h2, hb⟩ := pickAt_best F.R (φ.take t)
  have hlen : (φ.take t).length = t := by rw [List.length_take]; omega
  rw [hlen] at h1
  rw [← hp] at hb
  rcases hb with ⟨hb, _⟩ | ⟨_, ⟨q, hq, hqe⟩, _⟩
  · have := F.R.nn r hr; omega
  · have hqr : q = r := one_inj F.R.nd (by rw [e]; exact List.mem_append_left _ hq) hr hqe
    rw [← hqr]; exact h1 q hq
theorem Fm.nonneg (F : Fm row φ) (t : Nat) {r : Work} (hr : r ∈ row) : 0 ≤ lft (φ.take t) r := by
  have h := F.done r hr
  have : (φ.take t).count r.2.1 ≤ φ.count r.2.1 := (List.take_sublist t φ).count_le _
  unfold lft at h ⊢
  omega
/-- the one at work has the least left -/
theorem Fm.least (F : Fm row φ) {t : Nat} {r : Work} (hr : r ∈ row) (hh : r.1 ≤ t) (hp : 0 < lft (φ.take t) r) : ∃ h ∈ row, φ[t]? = some h.2.1 ∧ h.1 ≤ t ∧ 0 < lft (φ.take t) h ∧ lft (φ.take t) h ≤ lft (φ.take t) r := by
  have hlt : t < φ.length := by
    rcases Nat.lt_or_ge t φ.length with h | h
    · exact h
    · rw [List.take_of_length_le h, F.done r hr] at hp; omega
  have hf := F.film t hlt
  obtain ⟨pre, post, e, h1, h2, hb⟩ := pickAt_best F.R (φ.take t)
  have hlen : (φ.take t).length = t := by rw [List.length_take]; omega
  rw [hlen] at h1 h2
  have hrp : r ∈ pre := by
    rw [e] at hr
    rcases List.mem_append.mp hr with h | h
    · exact h
    · have := h2 r h; omega
  have hpr : ∀ q ∈ pre, q ∈ row := fun q hq => by rw [e]; exact List.mem_append_left _ hq
  rcases hb with ⟨_, hn⟩ | ⟨_, ⟨q, hq, hqe⟩, hpos, hall⟩
  · exact absurd (by rw [lf_lft F.R.nd hr]; exact hp) (hn r hrp)
  · refine ⟨q, hpr q hq, by rw [hf, hqe], h1 q hq, ?_, ?_⟩
    · rw [← lf_lft F.R.nd (hpr q hq), hqe]; exact hpos
    · have := hall r hrp (by rw [lf_lft F.R.nd hr]; exact hp)
      rw [← hqe, lf_lft F.R.nd (hpr q hq), lf_lft F.R.nd hr] at this
      unfold lep at this
      rw [ltp_iff'] at this
      dsimp only at this
      omega
theorem count_none {l : List Int} {x : Int} (h : ∀ k : Nat, l[k]? ≠ some x) : l.count x = 0 := by
  rw [List.count_eq_zero]
  intro hx
  obtain ⟨k, hk⟩ := List.getElem?_of_mem hx
  exact h k hk
/-- what is done of works that come at a or later and are over by T -/
theorem Fm.done_in (F : Fm row φ) {l : List Work} {a T : Nat} (hl : ∀ r ∈ l, r ∈ row) (hnd : (l.map (·.2.1)).Nodup) (ha : ∀ r ∈ l, (a : Int) ≤ r.1) (hT : ∀ r ∈ l, ovr φ r.2.1 ≤ T) : sumN l ≤ (((φ.take T).drop a).length : Nat) := by
  have h1 : ∀ r ∈ l, r.2.2 = (((φ.take T).drop a).count r.2.1 : Nat) := fun r hr => by
    have h := F.done r (hl r hr)
    unfold lft at h
    have e1 : φ.count r.2.1 = (φ.take T).count r.2.1 + (φ.drop T).count r.2.1 := by rw [← List.count_append, List.take_append_drop]
    have e2 : (φ.take T).count r.2.1 = ((φ.take T).take a).count r.2.1 + ((φ.take T).drop a).count r.2.1 := by rw [← List.count_append, List.take_append_drop]
    have e3 : (φ.drop T).count r.2.1 = 0 := count_none fun k hk => by
      rw [List.getElem?_drop] at hk
      have := lt_ovr φ _ hk
      have := hT r hr
      omega
    have e4 : ((φ.take T).take a).count r.2.1 = 0 := count_none fun k hk => by
      have hka : k < a := by
        have := (List.getElem?_eq_some_iff.mp hk).1
        rw [List.length_take] at this
        omega
      rw [List.getElem?_take_of_lt hka] at hk
      have hkT : k < T := by
        have := (List.getElem?_eq_some_iff.mp hk).1
        rw [List.length_take] at this
        omega
      rw [List.getElem?_take_of_lt hkT] at hk
      have := F.hour (hl r hr) hk
      have := ha r hr
      omega
    omega
  have h2 := counts_le hnd ((φ.take T).drop a)
  rw [List.map_map] at h2
  have h3 : sumN l = ((l.map ((fun x => ((φ.take T).drop a).count x) ∘ fun r => r.2.1)).sum : Nat) := by
    unfold sumN
    clear h2 hnd ha hT hl
    induction l with
    | nil => rfl
    | cons r l ih =>
      rw [List.map_cons, List.map_cons, List.sum_cons, List.sum_cons, ih fun q hq => h1 q (.tail _ hq), h1 r (.head _)]
      simp
  rw [h3]
  omega
/-- what is over by T, done alone, is over by T -/
theorem Fm.alone (F : Fm row φ) {l : List Work} {T : Nat} (hl : l.Sublist row) (hT : ∀ r ∈ l, ovr φ r.2.1 ≤ T) : Cs 0 l ≤ T := by
  have hsub : ∀ r ∈ l, r ∈ row := fun r hr => hl.subset hr
  have hnd : (l.map (·.2.1)).Nodup := F.R.nd.sublist (hl.map _)
  have hsr : Srt l := F.R.srt.sublist hl
  refine Cs_le l 0 T ?_ fun l1 r l2 e => ?_
  · have := F.done_in (a := 0) hsub hnd (fun r hr => (F.R.hr r (hsub r hr)).1) hT
    rw [List.drop_zero, List.length_take] at this
    omega
  · subst e
    have hs2 : ∀ q ∈ r :: l2, q ∈ l1 ++ r :: l2 := fun q hq => List.mem_append_right _ hq
    have hr0 := (F.R.hr r (hsub r (hs2 r (.head _)))).1
    rw [List.map_append] at hnd
    have := F.done_in (a := r.1.toNat) (T := T) (l := r :: l2) (fun q hq => hsub q (hs2 q hq)) (List.nodup_append.mp hnd).2.1 (fun q hq => ?_) fun q hq => hT q (hs2 q hq)
    · rw [List.length_drop, List.length_take] at this
      have hpos : 0 < sumN (r :: l2) := by
        unfold sumN
        refine sum_pos _ (fun x hx => ?_) ⟨r.2.2, .head _, ?_⟩
        · obtain ⟨q, hq, rfl⟩ := List.mem_map.mp hx
          have := (F.R.need q (hsub q (hs2 q hq))).1
          omega
        · have := (F.R.need r (hsub r (hs2 r (.head _)))).1
          omega
      omega
    · rcases List.mem_cons.mp hq with rfl | hq
      · omega
      · have := (List.pairwise_cons.mp (List.pairwise_append.mp hsr).2.1).1 q hq
        omega
end
end Mine

namespace Mine
noncomputable abbrev sumT (ψ : List Int) (T : List Work) : Int := (T.map (lft ψ)).sum
section
variable {row : List Work} {φ : List Int}
theorem sumT_dec (R : RowOk row) {ψ : List Int} {h : Work} (hh : h ∈ row) : ∀ {T : List Work}, T.Nodup → (∀ r ∈ T, r ∈ row) → sumT (ψ ++ [h.2.1]) T = sumT ψ T - if h ∈ T then 1 else 0
  | [], _, _ => by simp [sumT]
  | r :: T, hnd, hs => by
    obtain ⟨h1, h2⟩ := List.nodup_cons.mp hnd
    have ih := sumT_dec R hh (ψ := ψ) h2 fun q hq => hs q (.tail _ hq)
    unfold sumT at ih ⊢
    rw [List.map_cons, List.map_cons, List.sum_cons, List.sum_cons, ih]
    have hl := lft_seg ψ h.2.1 1 r
    rw [show List.replicate 1 h.2.1 = [h.2.1] from rfl] at hl
    rw [hl]
    by_cases e : h = r
    · subst e
      rw [if_pos rfl, if_neg h1, if_pos (.head _)]; omega
    · have hne : r.2.1 ≠ h.2.1 := fun q => e (one_inj R.nd hh (hs r (.head _)) q.symm)
      have : h ∈ r :: T ↔ h ∈ T := by rw [List.mem_cons]; exact ⟨fun q => q.resolve_left e, .inr⟩
      rw [if_neg hne]
      by_cases hm : h ∈ T
      · rw [if_pos hm, if_pos (this.mpr hm)]; omega
      · rw [if_neg hm, if_neg fun q => hm (this.mp q)]; omega
theorem sumT_erase {ψ : List Int} {r : Work} {T : List Work} (h : r ∈ T) : sumT ψ T = lft ψ r + sumT ψ (T.erase r) := by
  unfold sumT
  rw [sum_perm ((List.perm_cons_erase h).map (lft ψ)), List.map_cons, List.sum_cons]
theorem exists_pos : ∀ {l : List Int}, 0 < l.sum → ∃ x ∈ l, 0 < x
  | [], h => by simp at h
  | x :: l, h => by
    by_cases hx : 0 < x
    · exact ⟨x, .head _, hx⟩
    · rw [List.sum_cons] at h
      obtain ⟨y, hy, h0⟩ := exists_pos (l := l) (by omega)
      exact ⟨y, .tail _ hy, h0⟩
/-- an hour of work -/
theorem Fm.tick (F : Fm row φ) {t : Nat} {T : List Work} {W : Int} (hnd : T.Nodup) (hs : ∀ r ∈ T, r ∈ row ∧ r.1 ≤ t) (hW : sumT (φ.take t) T ≤ W) (h0 : 0 ≤ W) :
    ∃ T' : List Work, T'.Nodup ∧ (∀ r ∈ T', r ∈ row ∧ r.1 ≤ t) ∧ T'.length = T.length ∧ sumT (φ.take (t + 1)) T' ≤ if W - 1 > 0 then W - 1 else 0 := by
  by_cases hp : 0 < sumT (φ.take t) T
  · obtain ⟨x, hx, hx0⟩ := exists_pos hp
    obtain ⟨r, hr, rfl⟩ := List.mem_map.mp hx
    obtain ⟨h, hh, hf, hht, hhp, hle⟩ := F.least (hs r hr).1 (hs r hr).2 hx0
    have htk : φ.take (t + 1) = φ.take t ++ [h.2.1] := by rw [List.take_add_one, hf]; rfl
    by_cases hm : h ∈ T
    · refine ⟨T, hnd, hs, rfl, ?_⟩
      rw [htk, sumT_dec F.R hh hnd fun q hq => (hs q hq).1, if_pos hm]
      split <;> omega
    · have hme : h ∉ T.erase r := fun q => hm (List.mem_of_mem_erase q)
      have hnde : (T.erase r).Nodup := hnd.erase r
      have hse : ∀ q ∈ T.erase r, q ∈ row := fun q hq => (hs q (List.mem_of_mem_erase hq)).1
      refine ⟨h :: T.erase r, List.nodup_cons.mpr ⟨hme, hnde⟩, fun q hq => ?_, ?_, ?_⟩
      · rcases List.mem_cons.mp hq with rfl | hq
        · exact ⟨hh, hht⟩
        · exact hs q (List.mem_of_mem_erase hq)
      · rw [List.length_cons, List.length_erase_of_mem hr]
        have := List.length_pos_of_mem hr
        omega
      · have hsp := sumT_erase (ψ := φ.take t) hr
        have e1 : sumT (φ.take (t + 1)) (h :: T.erase r) = lft (φ.take (t + 1)) h + sumT (φ.take (t + 1)) (T.erase r) := by
          unfold sumT; rw [List.map_cons, List.sum_cons]
        have e2 : lft (φ.take (t + 1)) h = lft (φ.take t) h - 1 := by
          have hl := lft_seg (φ.take t) h.2.1 1 h
          rw [show List.replicate 1 h.2.1 = [h.2.1] from rfl, ← htk, if_pos rfl] at hl
          rw [hl]; rfl
        have e3 : sumT (φ.take (t + 1)) (T.erase r) = sumT (φ.take t) (T.erase r) := by
          rw [htk, sumT_dec F.R hh hnde hse, if_neg hme]; omega
        rw [e1, e2, e3]
        split <;> omega
  · refine ⟨T, hnd, hs, rfl, ?_⟩
    have hmono : ∀ l : List Work, sumT (φ.take (t + 1)) l ≤ sumT (φ.take t) l := by
      intro l
      unfold sumT
      induction l with
      | nil => exact Int.le_refl _
      | cons q l ih =>
        rw [List.map_cons, List.map_cons, List.sum_cons, List.sum_cons]
        have : (φ.take t).count q.2.1 ≤ (φ.take (t + 1)).count q.2.1 := (List.take_sublist_take_left (Nat.le_succ t)).count_le _
        have hq : lft (φ.take (t + 1)) q ≤ lft (φ.take t) q := by unfold lft; omega
        omega
    have := hmono T
    split <;> omega
/-- some come -/
theorem Fm.come (F : Fm row φ) {s : Nat} {T m : List Work} {C : Int} (hnd : T.Nodup) (hs : ∀ r ∈ T, r ∈ row ∧ r.1 < s) (hm : m.Nodup) (hms : ∀ r ∈ m, r ∈ row ∧ r.1 = s) (hW : sumT (φ.take s) T ≤ if C - s > 0 then C - s else 0) :
    ∃ T' : List Work, T'.Nodup ∧ (∀ r ∈ T', r ∈ row ∧ r.1 ≤ s) ∧ T'.length = T.length + m.length ∧ sumT (φ.take s) T' ≤ if Cs C m - s > 0 then Cs C m - s else 0 := by
  refine ⟨m ++ T, List.nodup_append.mpr ⟨hm, hnd, fun a ha b hb e => ?_⟩, fun r hr => ?_, by rw [List.length_append]; omega, ?_⟩
  · have h1 := (hms a ha).2
    have h2 := (hs b hb).2
    rw [e] at h1
    omega
  · rcases List.mem_append.mp hr with h | h
    · exact ⟨(hms r h).1, Int.le_of_eq (hms r h).2⟩
    · exact ⟨(hs r h).1, Int.le_of_lt (hs r h).2⟩
  · have h1 := Cs_same (s := s) m C fun r hr => ⟨(hms r hr).2, by have := (F.R.need r (hms r hr).1).1; omega⟩
    have h2 : sumT (φ.take s) (m ++ T) = sumT (φ.take s) m + sumT (φ.take s) T := by
      unfold sumT; rw [List.map_append, List.sum_append]
    have h3 : ∀ l : List Work, sumT (φ.take s) l ≤ sumN l := by
      intro l
      unfold sumT sumN
      induction l with
      | nil => exact Int.le_refl _
      | cons q l ih =>
        rw [List.map_cons, List.map_cons, List.sum_cons, List.sum_cons]
        have hq : lft (φ.take s) q ≤ q.2.2 := by unfold lft; omega
        omega
    have := h3 m
    rw [h2]
    omega
theorem Cs_app (c : Int) (l m : List Work) : Cs c (l ++ m) = Cs (Cs c l) m := by unfold Cs; rw [List.foldl_append]
theorem Fm.ahead (F : Fm row φ) : ∀ (t : Nat) (l1 l2 : List Work), (l1 ++ l2).Sublist row → (∀ r ∈ l1, r.1 ≤ t) → (∀ r ∈ l2, (t : Int) < r.1) →
    ∃ T : List Work, T.Nodup ∧ (∀ r ∈ T, r ∈ row ∧ r.1 ≤ t) ∧ T.length = l1.length ∧ sumT (φ.take t) T ≤ if Cs 0 l1 - t > 0 then Cs 0 l1 - t else 0
  | 0, l1, l2, hl, h1, h2 => by
    have hsub : ∀ r ∈ l1, r ∈ row := fun r hr => hl.subset (List.mem_append_left _ hr)
    have hnd : (row).Nodup := (List.Pairwise.of_map (·.2.1) (fun a b h e => h (by rw [e])) F.R.nd)
    obtain ⟨T, a, b, c, d⟩ := F.come (s := 0) (T := []) (m := l1) (C := 0) List.nodup_nil (List.forall_mem_nil _) ((List.nodup_append.mp (hnd.sublist hl)).1) (fun r hr => ⟨hsub r hr, by have := h1 r hr; have := (F.R.hr r (hsub r hr)).1; omega⟩) (by simp [sumT])
    exact ⟨T, a, b, by rw [c]; simp, d⟩
  | t + 1, l1, l2, hl, h1, h2 => by
    have hnd : (row).Nodup := (List.Pairwise.of_map (·.2.1) (fun a b h e => h (by rw [e])) F.R.nd)
    have hsr : Srt l1 := F.R.srt.sublist ((List.sublist_append_left l1 l2).trans hl)
    obtain ⟨l0, m, rfl, a1, a2⟩ := split_hour l1 t hsr
    have hl' : (l0 ++ (m ++ l2)).Sublist row := by rw [← List.append_assoc]; exact hl
    obtain ⟨T, b1, b2, b3, b4⟩ := F.ahead t l0 (m ++ l2) hl' a1 fun r hr => by
      rcases List.mem_append.mp hr with h | h
      · exact a2 r h
      · have := h2 r h; omega
    obtain ⟨T', c1, c2, c3, c4⟩ := F.tick b1 b2 b4 (by split <;> omega)
    have hmr : ∀ r ∈ m, r ∈ row := fun r hr => hl'.subset (List.mem_append_right _ (List.mem_append_left _ hr))
    have hmn : m.Nodup := (List.nodup_append.mp (List.nodup_append.mp (hnd.sublist hl')).2.1).1
    obtain ⟨T'', d1, d2, d3, d4⟩ := F.come (s := t + 1) (T := T') (m := m) (C := Cs 0 l0) c1 (fun r hr => ⟨(c2 r hr).1, by have := (c2 r hr).2; omega⟩) hmn (fun r hr => ⟨hmr r hr, by have := a2 r hr; have := h1 r (List.mem_append_right _ hr); omega⟩) (by
      refine Int.le_trans c4 ?_
      split <;> split <;> split <;> omega)
    refine ⟨T'', d1, fun r hr => by have := d2 r hr; exact ⟨this.1, by have := this.2; omega⟩, by rw [d3, c3, b3, List.length_append], ?_⟩
    rw [Cs_app]
    exact d4
/-- as many are over by a choice's end as the choice has -/
theorem Fm.many (F : Fm row φ) {l : List Work} (hl : l.Sublist row) : l.length ≤ (row.filter fun r => decide (ovr φ r.2.1 ≤ Cs 0 l)).length := by
  have hsub : ∀ r ∈ l, r ∈ row := fun r hr => hl.subset hr
  obtain ⟨hge, hall⟩ := Cs_ge l 0 fun r hr => by have := (F.R.need r (hsub r hr)).1; omega
  obtain ⟨c, hc⟩ : ∃ c : Nat, Cs 0 l = c := ⟨(Cs 0 l).toNat, by omega⟩
  rw [hc] at hall ⊢
  obtain ⟨T, a1, a2, a3, a4⟩ := F.ahead c l [] (by rw [List.append_nil]; exact hl) hall (List.forall_mem_nil _)
  rw [hc, if_neg (by omega)] at a4
  rw [← a3]
  refine nodup_sub_length a1 fun r hr => List.mem_filter.mpr ⟨(a2 r hr).1, decide_eq_true ?_⟩
  have hr0 : lft (φ.take c) r = 0 := by
    have h1 := sumT_erase (ψ := φ.take c) hr
    have h2 : 0 ≤ sumT (φ.take c) (T.erase r) := sum_nonneg _ fun x hx => by
      obtain ⟨q, hq, rfl⟩ := List.mem_map.mp hx
      exact F.nonneg c (a2 q (List.mem_of_mem_erase hq)).1
    have h3 := F.nonneg c (a2 r hr).1
    omega
  have hd := F.done r (a2 r hr).1
  have hn := (F.R.need r (a2 r hr).1).1
  have hcnt : (φ.drop c).count r.2.1 = 0 := by
    have e1 : φ.count r.2.1 = (φ.take c).count r.2.1 + (φ.drop c).count r.2.1 := by rw [← List.count_append, List.take_append_drop]
    unfold lft at hr0 hd
    omega
  have hx : r.2.1 ∈ φ := by
    unfold lft at hd
    exact List.count_pos_iff.mp (by omega)
  obtain ⟨h1, h2⟩ := ovr_at φ hx
  rcases Int.lt_or_le (c : Int) (ovr φ r.2.1) with hlt | hle
  · exfalso
    have : r.2.1 ∈ φ.drop c := by
      refine List.mem_of_getElem? (i := (ovr φ r.2.1 - 1).toNat - c) ?_
      rw [List.getElem?_drop, show c + ((ovr φ r.2.1 - 1).toNat - c) = (ovr φ r.2.1 - 1).toNat by omega]
      exact h2
    have := List.count_pos_iff.mpr this
    omega
  · exact hle
theorem leastI_spec : ∀ (ns : List Int) (i : Int), leastI i ns ∈ i :: ns ∧ ∀ z ∈ i :: ns, leastI i ns ≤ z
  | [], i => ⟨.head _, fun z hz => by rw [List.mem_singleton.mp hz]; exact Int.le_refl _⟩
  | n :: ns, i => by
    have e : leastI i (n :: ns) = leastI (if n < i then n else i) ns := rfl
    rw [e]
    obtain ⟨h1, h2⟩ := leastI_spec ns (if n < i then n else i)
    have hm := h2 _ (.head _)
    have hb : (if n < i then n else i) ≤ i ∧ (if n < i then n else i) ≤ n := by split <;> omega
    refine ⟨?_, fun z hz => ?_⟩
    · rcases List.mem_cons.mp h1 with h | h
      · rw [h]; split
        · exact .tail _ (.head _)
        · exact .head _
      · exact .tail _ (.tail _ h)
    · rcases List.mem_cons.mp hz with rfl | hz
      · omega
      · rcases List.mem_cons.mp hz with rfl | hz
        · omega
        · exact h2 z (.tail _ hz)
theorem minOf_is {L : List Int} {m : Int} (h1 : ∃ x ∈ L, x ≤ m) (h2 : ∀ x ∈ L, m ≤ x) : minOf L = m := by
  obtain ⟨x, hx, hxm⟩ := h1
  cases L with
  | nil => nomatch hx
  | cons i ns =>
    obtain ⟨a, b⟩ := leastI_spec ns i
    have := b x hx
    have := h2 _ a
    show leastI i ns = m
    omega
/-- the k-th of a sorted list, by counting -/
theorem sorted_le {l : List Int} (hs : l.Pairwise (· ≤ ·)) {i : Nat} (hi : i < l.length) {c : Int} (h : l[i] ≤ c) : i + 1 ≤ (l.filter fun x => decide (x ≤ c)).length := by
  rw [← List.countP_eq_length_filter]
  have h1 : (l.take (i + 1)).countP (fun x => decide (x ≤ c)) = (l.take (i + 1)).length := List.countP_eq_length.mpr fun x hx => by
    obtain ⟨j, hj, e⟩ := List.getElem_of_mem hx
    rw [List.length_take] at hj
    rw [List.getElem_take] at e
    refine decide_eq_true ?_
    rw [← e]
    by_cases hji : j = i
    · subst hji; exact h
    · have := List.pairwise_iff_getElem.mp hs j i (by omega) hi (by omega)
      omega
  have h2 : (l.take (i + 1)).length = i + 1 := by rw [List.length_take]; omega
  have h3 := (List.take_sublist (i + 1) l).countP_le (p := fun x => decide (x ≤ c))
  omega
theorem sorted_gt {l : List Int} (hs : l.Pairwise (· ≤ ·)) {i : Nat} (hi : i < l.length) {c : Int} (h : c < l[i]) : (l.filter fun x => decide (x ≤ c)).length ≤ i := by
  rw [← List.countP_eq_length_filter, ← List.take_append_drop i l, List.countP_append]
  have h1 : (l.drop i).countP (fun x => decide (x ≤ c)) = 0 := List.countP_eq_zero.mpr fun x hx => by
    obtain ⟨j, hj, e⟩ := List.getElem_of_mem hx
    rw [List.length_drop] at hj
    rw [List.getElem_drop] at e
    simp only [decide_eq_true_eq]
    rw [← e]
    by_cases hj0 : j = 0
    · subst hj0; simp only [Nat.add_zero]; omega
    · have := List.pairwise_iff_getElem.mp hs i (i + j) hi (by omega) (by omega)
      omega
  have h2 := (l.take i).countP_le_length (p := fun x => decide (x ≤ c))
  rw [List.length_take] at h2
  omega
theorem Fm.schrage (F : Fm row φ) {ends : List Int} (hp : ends.Perm (row.map fun r => ovr φ r.2.1)) (hs : ends.Pairwise (· ≤ ·)) : ends = soonest row := by
  have hlen : ends.length = row.length := by rw [hp.length_eq, List.length_map]
  have hcount : ∀ c : Int, (ends.filter fun x => decide (x ≤ c)).length = (row.filter fun r => decide (ovr φ r.2.1 ≤ c)).length := fun c => by
    rw [(hp.filter _).length_eq, List.filter_map, List.length_map]
    rfl
  refine List.ext_getElem (by unfold soonest; rw [List.length_map, List.length_range, hlen]) fun i h1 h2 => ?_
  have hsn : (soonest row)[i] = minOf (soonEnds row (1 + (i : Int))) := by simp [soonest]
  rw [hsn]
  refine (minOf_is ?_ fun x hx => ?_).symm
  · have hc := sorted_le hs h1 (Int.le_refl ends[i])
    rw [hcount] at hc
    obtain ⟨T, hT⟩ : ∃ T : Nat, ends[i] = T := by
      have : ends[i] ∈ row.map fun r => ovr φ r.2.1 := hp.mem_iff.mp (List.getElem_mem h1)
      obtain ⟨r, _, e⟩ := List.mem_map.mp this
      have := ovr_nonneg (φ := φ) (x := r.2.1)
      exact ⟨ends[i].toNat, by omega⟩
    have hsub : ((row.filter fun r => decide (ovr φ r.2.1 ≤ ends[i])).take (i + 1)).Sublist row := (List.take_sublist _ _).trans List.filter_sublist
    have hal := F.alone (T := T) hsub fun r hr => by
      have := of_decide_eq_true (List.mem_filter.mp (List.mem_of_mem_take hr)).2
      omega
    refine ⟨_, List.mem_filterMap.mpr ⟨_, (soon_mem row _).mpr ⟨_, hsub, rfl⟩, ?_⟩, by rw [hT]; exact hal⟩
    rw [if_pos]
    rw [List.length_take]
    omega
  · obtain ⟨p, hpm, e⟩ := List.mem_filterMap.mp hx
    obtain ⟨l, hl, rfl⟩ := (soon_mem row p).mp hpm
    by_cases hk : ((l.length : Nat) : Int) = 1 + (i : Int)
    · rw [if_pos hk] at e
      cases e
      have hm := F.many hl
      rw [← hcount] at hm
      rcases Int.lt_or_le (Cs 0 l) ends[i] with hlt | hle
      · have := sorted_gt hs h1 hlt
        omega
      · exact hle
    · rw [if_neg hk] at e; cases e
end
end Mine

namespace Mine
theorem clrs_eq (φ ks : List Int) (x : Int) : clrs φ ks x = mostC (arnd φ ks x) := by
  unfold clrs mostC
  cases arnd φ ks x <;> rfl
theorem arB_arnd (φ ks : List Int) (x : Int) : arB φ [] ks x = arnd φ ks x := by
  unfold arB arnd
  refine fmap_congr fun y _ => ?_
  simp
theorem plain {dr : List Int} (h : ∀ d ∈ dr, 0 ≤ d ∧ d < 40) (hl : dr.length ≤ 7) : ∃ Inv F, PlainLaw (rowOf dr) ((List.range dr.length).map fun (i : Nat) => (i : Int)) (books0 dr.length) Inv F := by
  obtain ⟨R, hperm⟩ := rowOf_ok h hl
  have hks := kst_nodup dr.length
  obtain ⟨row, hrow⟩ : ∃ row, row = rowOf dr := ⟨_, rfl⟩
  obtain ⟨ks, hkse⟩ : ∃ ks, ks = kst dr.length := ⟨_, rfl⟩
  have hb0 : books0 dr.length = ks.map fun x => (x, (⟨0, 0, 0, 0, []⟩ : Bk)) := by
    rw [hkse]; unfold books0 kst; rw [List.map_map]; rfl
  show ∃ Inv F, PlainLaw (rowOf dr) (kst dr.length) (books0 dr.length) Inv F
  rw [hb0, ← hkse, ← hrow]
  rw [← hkse] at hks hperm
  rw [← hrow] at R hperm
  have hkl : ks.length ≤ 7 := by rw [hkse]; simp; exact hl
  have hpos : ∀ x ∈ ks, 0 ≤ x := fun x hx => by
    rw [hkse] at hx
    obtain ⟨i, _, rfl⟩ := List.mem_map.mp hx
    omega
  have hrk : ∀ r ∈ row, r.2.1 ∈ ks := fun r hr => hperm.mem_iff.mp (List.mem_map_of_mem (f := fun q : Work => q.2.1) hr)
  have hkr : ∀ x ∈ ks, ∃ r ∈ row, r.2.1 = x := fun x hx => by
    obtain ⟨r, hr, e⟩ := List.mem_map.mp (hperm.mem_iff.mpr hx)
    exact ⟨r, hr, e⟩
  have hfin := inv_all R hks hkl hpos hrk _ _ (inv_start R hks)
  generalize hSf : runAll (row ++ [(99, -1, 0)]) (run0 (ks.map fun x => (x, (⟨0, 0, 0, 0, []⟩ : Bk)))) = Sf at hfin
  rcases hfin with ⟨_, _, φ, S, I, B, hh, he, hbk⟩ | ⟨pre, post, φ, e, _⟩
  · have hbeg := I.begNil hh
    have hdone : ∀ r ∈ row, lft φ r = 0 := fun r hr => by
      have h1 := I.cnt r hr
      have h2 := heap_nil I.perm hh r hr
      omega
    have hFm : Fm row φ := ⟨R, hdone, fun t ht => (I.film t ht).2⟩
    have hin : ∀ x ∈ ks, x ∈ φ := fun x hx => by
      obtain ⟨r, hr, rfl⟩ := hkr x hx
      have h1 := hdone r hr
      have h2 := (R.need r hr).1
      unfold lft at h1
      exact List.count_pos_iff.mp (by omega)
    have hends : S.ends.Perm (row.map fun r => ovr φ r.2.1) := by
      have h1 := I.endsP
      unfold overOf at h1
      rw [List.filter_eq_self.mpr fun r hr => decide_eq_true (hdone r hr)] at h1
      exact h1
    have hendk : S.ends.Perm (ks.map (ovr φ)) := by
      refine hends.trans ?_
      have := hperm.map (ovr φ)
      rw [List.map_map] at this
      exact this
    rw [hbeg] at B
    have hcal : ∀ y ∈ ks, calOf φ [] ks y = clrs φ ks y := fun y hy => by
      unfold calOf
      rw [if_pos (hin y hy), arB_arnd, clrs_eq]
    have hct : ∀ y ∈ ks, ctOf φ [] y = ovr φ y - bgn φ y := fun y hy => by
      unfold ctOf
      rw [if_pos (hin y hy), if_neg (List.not_mem_nil)]
    refine ⟨InvR row ks, φ, ⟨R.nd, R.nn, inv_start R hks, fun t rest S' h1 h2 => inv_arr R hpos h1 h2, fun t rest S' h1 h2 h3 => inv_turn R hks hkl hrk h1 h2 h3, fun L S' h1 => inv_len R h1, ?_, ⟨I.film, ?_⟩, ?_, ?_, hks, hin, fun ns' h1 h2 => ?_, fun x hx => ?_, fun x hx => ?_⟩⟩
    · rw [hSf, he]
      exact hFm.schrage hends I.endsS
    · have : sumL row φ = 0 := by
        unfold sumL
        have : ∀ l : List Work, (∀ r ∈ l, r ∈ row) → (l.map fun r => lf row φ r.2.1).sum = 0 := by
          intro l
          induction l with
          | nil => intro _; rfl
          | cons r l ih =>
            intro hs
            rw [List.map_cons, List.sum_cons, ih fun q hq => hs q (.tail _ hq), lf_lft R.nd (hs r (.head _)), hdone r (hs r (.head _))]
            rfl
        exact this row fun _ h => h
      omega
    · have := (I.lenLe R).1
      omega
    · rw [hSf, hbk]; exact B.keys
    · rw [hSf, he]
      exact List.Perm.eq_of_pairwise (fun a b _ _ h1 h2 => Int.le_antisymm h1 h2) h2 I.endsS (h1.trans hendk.symm)
    · rw [hSf, hbk, B.books x hx]
      refine congrArg some (bk_ext ?_ ?_ ?_ (hct x hx) (hcal x hx))
      · show (if x ∈ φ then (1 : Int) else 0) = 1
        rw [if_pos (hin x hx)]
      · show ((nst φ x : Nat) : Int) = ((strx φ x).length : Nat)
        rw [strx_length (hin x hx)]
      · rfl
    · have := B.tree x hx
      rw [hct x hx, sum_ite] at this
      rw [this, sum_ite]
      congr 1
      congr 1
      refine List.map_congr_left fun y hy => ?_
      unfold has
      rw [hcal y hy, hct y hy]
  · cases post <;> cases e
end Mine

open PySem PySem.Calls PySem.W PyProof.Rows
set_option maxRecDepth 100000
set_option maxHeartbeats 8000000
namespace Mine
noncomputable def view : Program := { PySem.Challenge.pw_pg0167_01 with main := { PySem.Challenge.pw_pg0167_01.main with body := [4, 5, 6, 7, 8, 10, 11, 12, 13, 15, 16, 17, 18, 19].filterMap fun i => PySem.Challenge.pw_pg0167_01.main.body[i]? } }
theorem leftFrom {p q : Program} {loose : List Str} {Xt : Shared → Bool} {α : Type} {Yf : Shared → α} {Ya : World → α} {N : Nat} {g0 : Bool} {H₀ : Params → Heap} {gs₀ : Array GenState} {d₀ : Drawn} {k₀ : Nat}
    (o : ∀ w : World, (fencedOpening treeTable p w N).map (fun s => (s.heap, s.gens, s.drawn, s.toks)) = some (H₀ w.params, gs₀, d₀, k₀))
    (h : ∀ (w : World) (os : OsState), (topFrom treeTable p w N ⟨H₀ w.params, gs₀, d₀, k₀, os⟩).map (fun s => (openSeen q loose (importedModules p.main.body) Xt g0 s, Yf s)) = some (openGood q loose, Ya w)) : LeftO p q loose Xt Yf Ya N g0 := fun w => by
  obtain ⟨⟨h', gs, d, k, os⟩, e, e'⟩ := Option.map_eq_some_iff.mp (o w)
  obtain ⟨rfl, rfl, rfl, rfl⟩ : h' = H₀ w.params ∧ gs = gs₀ ∧ d = d₀ ∧ k = k₀ := by simpa using e'
  unfold openEnds
  rw [e]
  exact h w os
theorem boot : ∀ w : World, (fencedOpening treeTable PySem.Challenge.pw_pg0167_01 w 1706).map (fun s => (s.heap, s.gens, s.drawn, s.toks)) = some (boot_heap w.params, Array.mk [], boot_drawn, boot_toks) :=
  boot_open (by kernel_rfl) (by decide) (fun s => by kernel_rfl)
theorem looks : looksOpen PySem.Challenge.rw_pg0167_01.row.prog = true := by
  unfold looksOpen
  repeat' (with_reducible refine look_both ?_ ?_)
  all_goals ((try rw [PySem.W.Fast.te11788848310118352699]); (try rw [PySem.W.Fast.te9807087744658564304]); (try rw [PySem.W.Fast.te12862048085361865435]); (try rw [PySem.W.Fast.te8377067652309620493]); (try rw [PySem.W.Fast.te18344453789297297638]); (try rw [PySem.W.Fast.te8326940854005059898]); (try rw [PySem.W.Fast.te5923862056798008813]); (try rw [PySem.W.Fast.te13343964577679436407]); (try rw [PySem.W.Fast.te17119622794617984870]); (try rw [PySem.W.Fast.te17691160309236699985]); (try rw [PySem.W.Fast.te17868728402115742887]); (try rw [PySem.W.Fast.te14412699480532031325]); decide +kernel)
theorem rowSaid : OpenRow.wellSaid PySem.Challenge.rw_pg0167_01.row = true := by
  unfold OpenRow.wellSaid OpenRow.partSaid
  repeat' (with_reducible refine look_both ?_ ?_)
  all_goals first | with_reducible exact looks | ((try rw [PySem.W.Fast.te18344453789297297638]); (try rw [PySem.W.Fast.te13582783067957832011]); (try rw [PySem.W.Fast.te12749700546528644094]); decide +kernel)
theorem wellSaid : OpenLaw.wellSaid PySem.Challenge.rw_pg0167_01 = true := by
  unfold OpenLaw.wellSaid
  repeat' (with_reducible refine look_both ?_ ?_)
  all_goals first | with_reducible exact rowSaid | decide +kernel
noncomputable abbrev leftOf {R W C : Prop} (_ : R ∧ W → C) : Prop := R
local macro_rules | `(tactic| o_law) => `(tactic| refine holds_law Mine.wellSaid fun said => ?_)
local macro_rules | `(tactic| o_head $H) => `(tactic| refine (fun a => And.elim fun run walk => PySem.W.holds_open (r := PySem.Challenge.rw_pg0167_01.row) (q := Mine.view) (loose := [Str.ofString "insort_right", Str.ofString "bisect_right"]) (Xt := fun s => xlAt Mine.view [] s && recOk (RowW.records _) s) (XP := XL Mine.view []) (Yf := Hook.obs $H) (Ya := Hook.val $H) (YP := Hook.says $H) (N := 1706) (Mine.leftFrom Mine.boot run) (Hook.of $H) (Hook.keeps $H) (fun s e => xl_of s (Bool.and_eq_true_iff.mp e).1) XL.keeps (by rfl) (by rfl) (by rfl) (fun s e => recFacts_of (Bool.and_eq_true_iff.mp e).2) (by rfl) Mine.rowSaid (by decide +kernel) ⟨rfl, rfl, rfl, rfl, rfl, by decide +kernel⟩ a walk) ?hw ?hc)
open_top hd for PySem.Challenge.rw_pg0167_01
theorem run : leftOf hd := by
  intro w os
  unfold topFrom
  rw [PySem.W.Fast.te14364793385576792824, PySem.W.Fast.te14082659384304107361, PySem.W.Fast.te4187177175401517315]
  kernel_rfl
end Mine

namespace Mine
theorem cps {T : Prop} (h : ∀ G : Prop, (T → G) → G) : T := h T id

/-- pure data -/
inductive D where
  | none
  | bool (b : Bool)
  | int (i : Int)
  | tup (ds : List D)
  | lst (ds : List D)
  | dct (kvs : List (Int × D))
  | val (v : Value)
  | obj (v : Value) (os : List (Addr × Obj))
  deriving Inhabited

noncomputable abbrev tupO (vs : List Value) (n : Nat) : Obj := { cls := .type "tuple", data := .seq vs.toArray n }

section
variable (prog : Program) (w : World)

mutual
/-- the heap bears d at v -/
noncomputable def In (h : Heap) : D → Value → Prop
  | .none, v => v = .none
  | .bool b, v => v = .bool b
  | .int i, v => ∃ t, v = .int i t
  | .tup ds, v => ∃ a vs n, v = .ref a ∧ h.get? a = some (tupO vs n) ∧ InL h ds vs
  | .lst ds, v => ∃ a vs n, v = .ref a ∧ h.get? a = some (lobj vs n) ∧ InL h ds vs
  | .dct kvs, v => ∃ a o kv, v = .ref a ∧ h.get? a = some o ∧ o.IsDictOf (intKind prog w) kv ∧ (a == sysModules) = false ∧ InK h kvs kv
  | .val u, v => v = u
  | .obj u os, v => v = u ∧ ∀ p ∈ os, h.get? p.1 = some p.2
noncomputable def InL (h : Heap) : List D → List Value → Prop
  | [], vs => vs = []
  | d :: ds, vs => ∃ v r, vs = v :: r ∧ In h d v ∧ InL h ds r
noncomputable def InK (h : Heap) : List (Int × D) → List (Int × Value) → Prop
  | [], kv => kv = []
  | (k, d) :: ds, kv => ∃ v r, kv = (k, v) :: r ∧ In h d v ∧ InK h ds r
end
end

section
variable {prog : Program} {w : World} {h h' : Heap}
mutual
theorem In.mono (hk : ∀ b o, h.get? b = some o → h'.get? b = some o) : ∀ {d : D} {v : Value}, In prog w h d v → In prog w h' d v
  | .none, _, x => x
  | .bool _, _, x => x
  | .int _, _, x => x
  | .val _, _, x => x
  | .obj u os, v, x => by
    unfold In at x ⊢
    exact ⟨x.1, fun p hp => hk _ _ (x.2 p hp)⟩
  | .tup ds, v, x => by
    unfold In at x ⊢
    obtain ⟨a, vs, n, e, g, r⟩ := x
    exact ⟨a, vs, n, e, hk _ _ g, InL.mono hk r⟩
  | .lst ds, v, x => by
    unfold In at x ⊢
    obtain ⟨a, vs, n, e, g, r⟩ := x
    exact ⟨a, vs, n, e, hk _ _ g, InL.mono hk r⟩
  | .dct kvs, v, x => by
    unfold In at x ⊢
    obtain ⟨a, o, kv, e, g, di, hs, r⟩ := x
    exact ⟨a, o, kv, e, hk _ _ g, di, hs, InK.mono hk r⟩
theorem InL.mono (hk : ∀ b o, h.get? b = some o → h'.get? b = some o) : ∀ {ds : List D} {vs : List Value}, InL prog w h ds vs → InL prog w h' ds vs
  | [], _, x => x
  | d :: ds, vs, x => by
    unfold InL at x ⊢
    obtain ⟨v, r, e, i, l⟩ := x
    exact ⟨v, r, e, In.mono hk i, InL.mono hk l⟩
theorem InK.mono (hk : ∀ b o, h.get? b = some o → h'.get? b = some o) : ∀ {ds : List (Int × D)} {vs : List (Int × Value)}, InK prog w h ds vs → InK prog w h' ds vs
  | [], _, x => x
  | (k, d) :: ds, vs, x => by
    unfold InK at x ⊢
    obtain ⟨v, r, e, i, l⟩ := x
    exact ⟨v, r, e, In.mono hk i, InK.mono hk l⟩
end

theorem In.int_iff {i : Int} {v : Value} : In prog w h (.int i) v ↔ ∃ t, v = .int i t := by unfold In; exact Iff.rfl
theorem In.bool_iff {i : Bool} {v : Value} : In prog w h (.bool i) v ↔ v = .bool i := by unfold In; exact Iff.rfl
theorem In.none_iff {v : Value} : In prog w h .none v ↔ v = .none := by unfold In; exact Iff.rfl
theorem In.obj_iff {u v : Value} {os : List (Addr × Obj)} : In prog w h (.obj u os) v ↔ v = u ∧ ∀ p ∈ os, h.get? p.1 = some p.2 := by unfold In; exact Iff.rfl
theorem In.val_iff {u v : Value} : In prog w h (.val u) v ↔ v = u := by unfold In; exact Iff.rfl
theorem In.tup_iff {ds : List D} {v : Value} : In prog w h (.tup ds) v ↔ ∃ a vs n, v = .ref a ∧ h.get? a = some (tupO vs n) ∧ InL prog w h ds vs := by
  constructor
  · intro x; unfold In at x; exact x
  · intro x; unfold In; exact x
theorem In.lst_iff {ds : List D} {v : Value} : In prog w h (.lst ds) v ↔ ∃ a vs n, v = .ref a ∧ h.get? a = some (lobj vs n) ∧ InL prog w h ds vs := by
  constructor
  · intro x; unfold In at x; exact x
  · intro x; unfold In; exact x
theorem In.dct_iff {kvs : List (Int × D)} {v : Value} : In prog w h (.dct kvs) v ↔ ∃ a o kv, v = .ref a ∧ h.get? a = some o ∧ o.IsDictOf (intKind prog w) kv ∧ (a == sysModules) = false ∧ InK prog w h kvs kv := by
  constructor
  · intro x; unfold In at x; exact x
  · intro x; unfold In; exact x

theorem InL.nil_iff {vs : List Value} : InL prog w h [] vs ↔ vs = [] := by unfold InL; exact Iff.rfl
theorem InL.cons_iff {d : D} {ds : List D} {vs : List Value} : InL prog w h (d :: ds) vs ↔ ∃ v r, vs = v :: r ∧ In prog w h d v ∧ InL prog w h ds r := by
  constructor
  · intro x; unfold InL at x; exact x
  · intro x; unfold InL; exact x
theorem InK.nil_iff {vs : List (Int × Value)} : InK prog w h [] vs ↔ vs = [] := by unfold InK; exact Iff.rfl
theorem InK.cons_iff {k : Int} {d : D} {ds : List (Int × D)} {vs : List (Int × Value)} : InK prog w h ((k, d) :: ds) vs ↔ ∃ v r, vs = (k, v) :: r ∧ In prog w h d v ∧ InK prog w h ds r := by
  constructor
  · intro x; unfold InK at x; exact x
  · intro x; unfold InK; exact x
theorem InL.nil : InL prog w h [] [] := InL.nil_iff.mpr rfl
theorem InL.cons {d : D} {v : Value} {ds : List D} {vs : List Value} (a : In prog w h d v) (b : InL prog w h ds vs) : InL prog w h (d :: ds) (v :: vs) := InL.cons_iff.mpr ⟨v, vs, rfl, a, b⟩
theorem InL.length : ∀ {ds : List D} {vs : List Value}, InL prog w h ds vs → vs.length = ds.length
  | [], vs, x => by rw [InL.nil_iff.mp x]; rfl
  | d :: ds, vs, x => by
    obtain ⟨v, r, rfl, _, l⟩ := InL.cons_iff.mp x
    simp [InL.length l]
theorem InL.append : ∀ {ds es : List D} {vs us : List Value}, InL prog w h ds vs → InL prog w h es us → InL prog w h (ds ++ es) (vs ++ us)
  | [], es, vs, us, x, y => by rw [InL.nil_iff.mp x]; exact y
  | d :: ds, es, vs, us, x, y => by
    obtain ⟨v, r, rfl, i, l⟩ := InL.cons_iff.mp x
    exact InL.cons i (InL.append l y)
theorem InL.get : ∀ {ds : List D} {vs : List Value} {k : Nat} {d : D}, InL prog w h ds vs → ds[k]? = some d → ∃ v, vs[k]? = some v ∧ In prog w h d v
  | [], vs, k, d, x, e => by simp at e
  | d :: ds, vs, 0, d', x, e => by
    obtain ⟨v, r, rfl, i, l⟩ := InL.cons_iff.mp x
    simp only [List.getElem?_cons_zero, Option.some.injEq] at e
    subst e
    exact ⟨v, rfl, i⟩
  | d :: ds, vs, k + 1, d', x, e => by
    obtain ⟨v, r, rfl, i, l⟩ := InL.cons_iff.mp x
    simp only [List.getElem?_cons_succ] at e
    exact InL.get (k := k) l e
theorem InL.split : ∀ {ds es : List D} {vs : List Value}, InL prog w h (ds ++ es) vs → ∃ v1 v2, vs = v1 ++ v2 ∧ InL prog w h ds v1 ∧ InL prog w h es v2
  | [], es, vs, x => ⟨[], vs, rfl, InL.nil, x⟩
  | d :: ds, es, vs, x => by
    obtain ⟨v, r, rfl, i, l⟩ := InL.cons_iff.mp x
    obtain ⟨v1, v2, rfl, a, b⟩ := InL.split l
    exact ⟨v :: v1, v2, rfl, InL.cons i a, b⟩
theorem InL.take : ∀ {ds : List D} {vs : List Value} (n : Nat), InL prog w h ds vs → InL prog w h (ds.take n) (vs.take n)
  | ds, vs, 0, x => by rw [List.take_zero, List.take_zero]; exact InL.nil
  | [], vs, n + 1, x => by rw [InL.nil_iff.mp x]; exact InL.nil
  | d :: ds, vs, n + 1, x => by
    obtain ⟨v, r, rfl, i, l⟩ := InL.cons_iff.mp x
    exact InL.cons i (InL.take n l)
theorem InL.drop : ∀ {ds : List D} {vs : List Value} (n : Nat), InL prog w h ds vs → InL prog w h (ds.drop n) (vs.drop n)
  | ds, vs, 0, x => x
  | [], vs, n + 1, x => by rw [InL.nil_iff.mp x]; exact InL.nil
  | d :: ds, vs, n + 1, x => by
    obtain ⟨v, r, rfl, i, l⟩ := InL.cons_iff.mp x
    exact InL.drop n l
theorem InL.reverse : ∀ {ds : List D} {vs : List Value}, InL prog w h ds vs → InL prog w h ds.reverse vs.reverse
  | [], vs, x => by rw [InL.nil_iff.mp x]; exact InL.nil
  | d :: ds, vs, x => by
    obtain ⟨v, r, rfl, i, l⟩ := InL.cons_iff.mp x
    rw [List.reverse_cons, List.reverse_cons]
    exact InL.append (InL.reverse l) (InL.cons i InL.nil)
theorem InL.set : ∀ {ds : List D} {vs : List Value} {k : Nat} {d : D} {v : Value}, InL prog w h ds vs → In prog w h d v → InL prog w h (ds.set k d) (vs.set k v)
  | [], vs, k, d, v, x, y => by rw [InL.nil_iff.mp x]; exact InL.nil
  | e :: ds, vs, 0, d, v, x, y => by
    obtain ⟨u, r, rfl, i, l⟩ := InL.cons_iff.mp x
    exact InL.cons y l
  | e :: ds, vs, k + 1, d, v, x, y => by
    obtain ⟨u, r, rfl, i, l⟩ := InL.cons_iff.mp x
    exact InL.cons i (InL.set l y)
theorem InK.append : ∀ {ds es : List (Int × D)} {vs us : List (Int × Value)}, InK prog w h ds vs → InK prog w h es us → InK prog w h (ds ++ es) (vs ++ us)
  | [], es, vs, us, x, y => by rw [InK.nil_iff.mp x]; exact y
  | (k, d) :: ds, es, vs, us, x, y => by
    obtain ⟨v, r, rfl, i, l⟩ := InK.cons_iff.mp x
    exact InK.cons_iff.mpr ⟨v, r ++ us, rfl, i, InK.append l y⟩
theorem InK.length : ∀ {ds : List (Int × D)} {vs : List (Int × Value)}, InK prog w h ds vs → vs.length = ds.length
  | [], vs, x => by rw [InK.nil_iff.mp x]; rfl
  | (k, d) :: ds, vs, x => by
    obtain ⟨v, r, rfl, _, l⟩ := InK.cons_iff.mp x
    simp [InK.length l]
theorem InK.keys : ∀ {ds : List (Int × D)} {vs : List (Int × Value)}, InK prog w h ds vs → vs.map (·.1) = ds.map (·.1)
  | [], vs, x => by rw [InK.nil_iff.mp x]; rfl
  | (k, d) :: ds, vs, x => by
    obtain ⟨v, r, rfl, _, l⟩ := InK.cons_iff.mp x
    simp [InK.keys l]
theorem InK.vals : ∀ {ds : List (Int × D)} {vs : List (Int × Value)}, InK prog w h ds vs → InL prog w h (ds.map (·.2)) (vs.map (·.2))
  | [], vs, x => by rw [InK.nil_iff.mp x]; exact InL.nil
  | (k, d) :: ds, vs, x => by
    obtain ⟨v, r, rfl, i, l⟩ := InK.cons_iff.mp x
    exact InL.cons i (InK.vals l)
end
end Mine

namespace Mine

noncomputable abbrev NoE : Value → Shared → Prop := fun _ _ => False
noncomputable abbrev Fz (W : List Addr) (h : Heap) : Heap := hideAll h W
noncomputable abbrev Ks (h h' : Heap) : Prop := ∀ b o, h.get? b = some o → h'.get? b = some o

theorem Kp.refl (s : Shared) : Keeps s s := ⟨s.heap, s.toks, rfl, fun _ _ e => e⟩
theorem Kp.trans {a b c : Shared} (x : Keeps a b) (y : Keeps b c) : Keeps a c := by
  obtain ⟨h1, t1, rfl, k1⟩ := x
  obtain ⟨h2, t2, rfl, k2⟩ := y
  exact ⟨h2, t2, rfl, fun b o e => k2 b o (k1 b o e)⟩
theorem Kp.ks {a b : Shared} (x : Keeps a b) : Ks a.heap b.heap := by
  obtain ⟨h1, t1, rfl, k1⟩ := x
  exact k1
theorem Kp.tok (s : Shared) (t : Nat) : Keeps s { s with toks := t } := ⟨s.heap, t, rfl, fun _ _ e => e⟩
theorem Kp.of {s : Shared} {h' : Heap} {t : Nat} (k : Ks s.heap h') : Keeps s { s with heap := h', toks := t } := ⟨h', t, rfl, k⟩
theorem Kp.push (s : Shared) (o : Obj) : Keeps s { s with heap := s.heap.push o } := ⟨s.heap.push o, s.toks, rfl, fun _ _ e => Heap.get?_push_of_some _ e⟩
theorem fz_ks {W : List Addr} {h h' : Heap} (k : Ks h h') : Ks (Fz W h) (Fz W h') := fun b o e => by
  have hb : b ∉ W := fun hb => by have := hideAll_none W (h := h) hb; rw [e] at this; cases this
  exact hideAll_get W (k b o (of_hideAll W e)) hb
theorem fz_le {W : List Addr} {h : Heap} : Ks (Fz W h) h := fun b o e => of_hideAll W e

section
variable (prog : Program) (w : World)
/-- a root: its own object stands in h, what it holds in F -/
noncomputable def InR (h F : Heap) : D → Value → Prop
  | .lst ds, v => ∃ a vs n, v = .ref a ∧ h.get? a = some (lobj vs n) ∧ InL prog w F ds vs
  | .dct kvs, v => ∃ a o kv, v = .ref a ∧ h.get? a = some o ∧ o.IsDictOf (intKind prog w) kv ∧ (a == sysModules) = false ∧ InK prog w F kvs kv
  | d, v => In prog w F d v
noncomputable def Vi (W : List Addr) (h : Heap) (r : Bool × D) (v : Value) : Prop := if r.1 = true then In prog w (Fz W h) r.2 v else InR prog w h (Fz W h) r.2 v
end

section
variable {prog : Program} {w : World} {W : List Addr} {h h' : Heap}
theorem InR.of {F : Heap} (k : Ks F h) {d : D} {v : Value} (x : In prog w F d v) : InR prog w h F d v := by
  cases d with
  | lst ds => obtain ⟨a, vs, n, e, g, r⟩ := In.lst_iff.mp x; exact ⟨a, vs, n, e, k _ _ g, r⟩
  | dct kvs => obtain ⟨a, o, kv, e, g, q, t, r⟩ := In.dct_iff.mp x; exact ⟨a, o, kv, e, k _ _ g, q, t, r⟩
  | none => exact x
  | bool b => exact x
  | int i => exact x
  | tup ds => exact x
  | val u => exact x
  | obj u os => exact x
theorem InR.mono {F F' : Heap} (k : Ks h h') (kF : Ks F F') {d : D} {v : Value} (x : InR prog w h F d v) : InR prog w h' F' d v := by
  cases d with
  | lst ds => obtain ⟨a, vs, n, e, g, r⟩ := x; exact ⟨a, vs, n, e, k _ _ g, r.mono kF⟩
  | dct kvs => obtain ⟨a, o, kv, e, g, q, t, r⟩ := x; exact ⟨a, o, kv, e, k _ _ g, q, t, r.mono kF⟩
  | none => exact In.mono kF (show In prog w F .none v from x)
  | bool b => exact In.mono kF (show In prog w F (.bool b) v from x)
  | int i => exact In.mono kF (show In prog w F (.int i) v from x)
  | tup ds => exact In.mono kF (show In prog w F (.tup ds) v from x)
  | val u => exact In.mono kF (show In prog w F (.val u) v from x)
  | obj u os => exact In.mono kF (show In prog w F (.obj u os) v from x)
theorem Vi.fz {d : D} {v : Value} (x : In prog w (Fz W h) d v) : Vi prog w W h (true, d) v := by unfold Vi; rw [if_pos rfl]; exact x
theorem Vi.infz {d : D} {v : Value} (x : Vi prog w W h (true, d) v) : In prog w (Fz W h) d v := by unfold Vi at x; rwa [if_pos rfl] at x
theorem Vi.inr {b : Bool} {d : D} {v : Value} (x : Vi prog w W h (b, d) v) : InR prog w h (Fz W h) d v := by
  cases b with
  | true => exact InR.of fz_le x.infz
  | false => unfold Vi at x; rwa [if_neg (by simp)] at x
theorem Vi.rt {d : D} {v : Value} (x : InR prog w h (Fz W h) d v) : Vi prog w W h (false, d) v := by unfold Vi; rw [if_neg (by simp)]; exact x
theorem Vi.mono {r : Bool × D} {v : Value} (k : Ks h h') (x : Vi prog w W h r v) : Vi prog w W h' r v := by
  obtain ⟨b, d⟩ := r
  cases b with
  | true => exact Vi.fz (x.infz.mono (fz_ks k))
  | false => exact Vi.rt (x.inr.mono k (fz_ks k))
theorem Vi.int {b : Bool} {i : Int} {v : Value} (x : Vi prog w W h (b, .int i) v) : ∃ t, v = .int i t := In.int_iff.mp (show In prog w (Fz W h) (.int i) v from x.inr)
theorem Vi.bool {b : Bool} {i : Bool} {v : Value} (x : Vi prog w W h (b, .bool i) v) : v = .bool i := In.bool_iff.mp (show In prog w (Fz W h) (.bool i) v from x.inr)
theorem Vi.none {b : Bool} {v : Value} (x : Vi prog w W h (b, .none) v) : v = .none := In.none_iff.mp (show In prog w (Fz W h) .none v from x.inr)
theorem Vi.val {b : Bool} {u v : Value} (x : Vi prog w W h (b, .val u) v) : v = u := In.val_iff.mp (show In prog w (Fz W h) (.val u) v from x.inr)
theorem Vi.of_int (i : Int) (t : Tok) : Vi prog w W h (true, .int i) (.int i t) := Vi.fz (In.int_iff.mpr ⟨t, rfl⟩)
theorem Vi.of_bool (b : Bool) : Vi prog w W h (true, .bool b) (.bool b) := Vi.fz (In.bool_iff.mpr rfl)
theorem Vi.of_none : Vi prog w W h (true, .none) .none := Vi.fz (In.none_iff.mpr rfl)
theorem Vi.of_val (u : Value) : Vi prog w W h (true, .val u) u := Vi.fz (In.val_iff.mpr rfl)
theorem Vi.tup {b : Bool} {ds : List D} {v : Value} (x : Vi prog w W h (b, .tup ds) v) : ∃ a vs n, v = .ref a ∧ h.get? a = some (tupO vs n) ∧ InL prog w (Fz W h) ds vs := by
  obtain ⟨a, vs, n, e, g, r⟩ := In.tup_iff.mp (show In prog w (Fz W h) (.tup ds) v from x.inr)
  exact ⟨a, vs, n, e, fz_le _ _ g, r⟩
theorem Vi.lst {b : Bool} {ds : List D} {v : Value} (x : Vi prog w W h (b, .lst ds) v) : ∃ a vs n, v = .ref a ∧ h.get? a = some (lobj vs n) ∧ InL prog w (Fz W h) ds vs := x.inr
theorem Vi.dct {b : Bool} {ds : List (Int × D)} {v : Value} (x : Vi prog w W h (b, .dct ds) v) : ∃ a o kv, v = .ref a ∧ h.get? a = some o ∧ o.IsDictOf (intKind prog w) kv ∧ (a == sysModules) = false ∧ InK prog w (Fz W h) ds kv := x.inr

/-- a new object is seen -/
theorem fz_push (hW : ∀ a ∈ W, ∃ o, h.get? a = some o) (o : Obj) (hf : o.isFreed = false) : (Fz W (h.push o)).get? h.objs.size = some o :=
  hideAll_get W (Heap.get?_push_size _ hf) fun hm => by
    obtain ⟨o', e⟩ := hW _ hm
    exact Nat.lt_irrefl _ (Heap.lt_size e)
end

structure Cx where
  A : Around
  env : Env
  W : List Addr
  I : Shared → Prop
  mono : ∀ s s', I s → Keeps s s' → I s'
  hh : A.handled = none
  room : A.units + 100 < cLine
  low : ∀ s, I s → ∀ a ∈ W, ∃ o, s.heap.get? a = some o
  gl : Str → Option Value
  hgl : ∀ x v, gl x = some v → ∀ (M : Model) (env' : Env) (s : Shared) (pos : Pos) (Q : Value → Shared → Prop), I s → env'.scope.kind = .function → env'.kindOf x = some .globalImplicit → env'.globals = mainGlobals → env'.builtins = builtinsNs → Q v s →
    wpAny M A (eval (.Name x pos) env') Q NoE s
  scp : Scope
  hscp : env.scope = scp
  hfun : scp.kind = .function
  hglo : env.globals = mainGlobals
  hblt : env.builtins = builtinsNs
  big : ∀ s, I s → 1 < s.heap.objs.size

noncomputable abbrev Gam := Str → Option (Bool × D)

section
variable (prog : Program) (w : World)
noncomputable def Sees (X : Cx) (Γ : Gam) (s : Shared) : Prop :=
  ∀ x r, Γ x = some r → ∃ v, Vi prog w X.W s.heap r v ∧ (∀ s' pos Q, Keeps s s' → X.I s' → Q v s' → wpAny (model prog w) X.A (eval (.Name x pos) X.env) Q NoE s') ∧
    (X.scp.names.lookup x = some .cell → ∃ c, X.env.cells.lookup x = some c ∧ s.heap.IsCell c (some v))
noncomputable def Ev (X : Cx) (Γ : Gam) (e : Expr) (r : Bool × D) : Prop :=
  ∀ s Q, X.I s → Sees prog w X Γ s → (∀ v s', Keeps s s' → Vi prog w X.W s'.heap r v → Q v s') → wpAny (model prog w) X.A (eval e X.env) Q NoE s
noncomputable def EvL (X : Cx) (Γ : Gam) (es : List Expr) (ds : List D) : Prop :=
  ∀ s pos Q, X.I s → Sees prog w X Γ s → (∀ vs s', Keeps s s' → InL prog w (Fz X.W s'.heap) ds vs → Q vs s') → wpAny (model prog w) X.A (spliced (backTo pos (starEach es X.env))) Q NoE s
/-- the truth of e -/
noncomputable def Tr (X : Cx) (Γ : Gam) (e : Expr) (b : Bool) : Prop :=
  ∀ s Q, X.I s → Sees prog w X Γ s → (∀ s', Keeps s s' → Q b s') → wpAny (model prog w) X.A (isTrue e X.env (eval e X.env)) Q NoE s
/-- a step upon two values -/
noncomputable def Op2 (X : Cx) (f : Value → Value → Sem Value) (r₁ r₂ r₃ : Bool × D) : Prop :=
  ∀ s Q v₁ v₂, X.I s → Vi prog w X.W s.heap r₁ v₁ → Vi prog w X.W s.heap r₂ v₂ → (∀ v s', Keeps s s' → Vi prog w X.W s'.heap r₃ v → Q v s') → wpAny (model prog w) X.A (f v₁ v₂) Q NoE s
noncomputable def Truthy (X : Cx) (r : Bool × D) (b : Bool) : Prop :=
  ∀ s Q v, X.I s → Vi prog w X.W s.heap r v → (∀ s', Keeps s s' → Q b s') → wpAny (model prog w) X.A (truthy v) Q NoE s
end

section
variable {prog : Program} {w : World} {X : Cx} {Γ : Gam}
theorem isCell_keeps {h h' : Heap} (k : Ks h h') {c : Addr} {v : Option Value} (x : h.IsCell c v) : h'.IsCell c v := by
  obtain ⟨o, h2, h3⟩ := x
  exact ⟨o, k _ _ h2, h3⟩
theorem Sees.keeps {s s' : Shared} (S : Sees prog w X Γ s) (k : Keeps s s') : Sees prog w X Γ s' := fun x r e => by
  obtain ⟨v, i, f, g⟩ := S x r e
  exact ⟨v, i.mono (Kp.ks k), fun s'' pos Q k' => f s'' pos Q (Kp.trans k k'), fun hk => (g hk).imp fun c h => ⟨h.1, isCell_keeps (Kp.ks k) h.2⟩⟩
theorem Ev.weak {e : Expr} {b : Bool} {d : D} (x : Ev prog w X Γ e (true, d)) : Ev prog w X Γ e (false, d) := fun s Q hI hS hQ =>
  x s Q hI hS fun v s' k i => hQ v s' k (Vi.rt i.inr)

theorem Ev.name {x : Str} {pos : Pos} {r : Bool × D} (h : Γ x = some r) : Ev prog w X Γ (.Name x pos) r := fun s Q hI hS hQ => by
  obtain ⟨v, i, f, _⟩ := hS x r h
  exact f s pos Q (Kp.refl s) hI (hQ v s (Kp.refl s) i)
theorem Ev.int {i : Int} {n : Nat} {pos : Pos} : Ev prog w X Γ (.Constant (.int i) n pos) (true, .int i) := fun s Q hI hS hQ => by
  rw [arm_eval_Constant]
  exact wpAny_mkInt (hQ _ _ (Kp.tok s _) (Vi.of_int i _))
theorem Ev.none {n : Nat} {pos : Pos} : Ev prog w X Γ (.Constant .none n pos) (true, .none) := fun s Q hI hS hQ => by
  rw [arm_eval_Constant]
  exact wpAny_pure (hQ _ _ (Kp.refl s) Vi.of_none)
theorem Ev.bool {b : Bool} {n : Nat} {pos : Pos} : Ev prog w X Γ (.Constant (.bool b) n pos) (true, .bool b) := fun s Q hI hS hQ => by
  rw [arm_eval_Constant]
  exact wpAny_pure (hQ _ _ (Kp.refl s) (Vi.of_bool b))
theorem Ev.bin {l r : Expr} {op : Operator} {pos : Pos} {r₁ r₂ r₃ : Bool × D} (h₁ : Ev prog w X Γ l r₁) (h₂ : Ev prog w X Γ r r₂) (o : Op2 prog w X (binaryOp op) r₁ r₂ r₃) : Ev prog w X Γ (.BinOp l op r pos) r₃ := fun s Q hI hS hQ => by
  rw [arm_eval_BinOp]
  refine wpAny_bind (h₁ s _ hI hS fun v₁ s₁ k₁ i₁ => wpAny_bind (wpAny_holding (h₂ s₁ _ (X.mono _ _ hI k₁) (hS.keeps k₁) fun v₂ s₂ k₂ i₂ => wpAny_bind (wpAny_standAt (wpAny_operating ?_)))))
  exact o s₂ _ v₁ v₂ (X.mono _ _ (X.mono _ _ hI k₁) k₂) (i₁.mono (Kp.ks k₂)) i₂ fun v s' k i => hQ v s' (Kp.trans (Kp.trans k₁ k₂) k) i
theorem Ev.cmp {l r : Expr} {op : CmpOp} {pos : Pos} {r₁ r₂ r₃ : Bool × D} (h₁ : Ev prog w X Γ l r₁) (h₂ : Ev prog w X Γ r r₂) (o : Op2 prog w X (compareOp op) r₁ r₂ r₃) (hm : behindInMarks op r = false := by with_unfolding_all rfl) :
    Ev prog w X Γ (.Compare l [op] [r] pos) r₃ := fun s Q hI hS hQ => by
  refine wpAny_Compare1 (h₁ s _ hI hS fun v₁ s₁ k₁ i₁ => h₂ s₁ _ (X.mono _ _ hI k₁) (hS.keeps k₁) fun v₂ s₂ k₂ i₂ => ?_) hm
  exact o s₂ _ v₁ v₂ (X.mono _ _ (X.mono _ _ hI k₁) k₂) (i₁.mono (Kp.ks k₂)) i₂ fun v s' k i => hQ v s' (Kp.trans (Kp.trans k₁ k₂) k) i
theorem Tr.cmp {l r : Expr} {op : CmpOp} {pos : Pos} {r₁ r₂ : Bool × D} {b : Bool} (h₁ : Ev prog w X Γ l r₁) (h₂ : Ev prog w X Γ r r₂) (o : Op2 prog w X (compareOp op) r₁ r₂ (true, .bool b)) (hm : behindInMarks op r = false := by with_unfolding_all rfl) :
    Tr prog w X Γ (.Compare l [op] [r] pos) b := fun s Q hI hS hQ => by
  refine wpAny_isTrue_Compare1 (h₁ s _ hI hS fun v₁ s₁ k₁ i₁ => h₂ s₁ _ (X.mono _ _ hI k₁) (hS.keeps k₁) fun v₂ s₂ k₂ i₂ => ?_) hm
  exact o s₂ _ v₁ v₂ (X.mono _ _ (X.mono _ _ hI k₁) k₂) (i₁.mono (Kp.ks k₂)) i₂ fun v s' k i => by
    rw [i.bool]
    exact wpAny_truthy_bool (hQ s' (Kp.trans (Kp.trans k₁ k₂) k))
theorem Tr.not {e : Expr} {pos : Pos} {b : Bool} (h : Tr prog w X Γ e b) : Tr prog w X Γ (.UnaryOp .Not e pos) (!b) := fun s Q hI hS hQ =>
  isTrue_not (h s _ hI hS fun s' k => hQ s' k)
theorem Tr.plain {e : Expr} {r : Bool × D} {b : Bool} (h : Ev prog w X Γ e r) (t : Truthy prog w X r b)
    (he : isTrue e X.env (eval e X.env) = (do let v ← eval e X.env; standAt e.pos; holding [v] (truthy v)) := by rfl) : Tr prog w X Γ e b := fun s Q hI hS hQ =>
  isTrue_plain (h s _ hI hS fun v s' k i => t s' _ v (X.mono _ _ hI k) i fun s'' k' => hQ s'' (Kp.trans k k')) he
theorem Tr.andNil {pos : Pos} : Tr prog w X Γ (.BoolOp .And [] pos) true := fun s Q hI hS hQ => isTrue_and_nil (hQ s (Kp.refl s))
theorem Tr.orNil {pos : Pos} : Tr prog w X Γ (.BoolOp .Or [] pos) false := fun s Q hI hS hQ => isTrue_or_nil (hQ s (Kp.refl s))
theorem Tr.and {x : Expr} {rest : List Expr} {pos : Pos} {a b : Bool} (h : Tr prog w X Γ x a) (h' : a = true → Tr prog w X Γ (.BoolOp .And rest pos) b) : Tr prog w X Γ (.BoolOp .And (x :: rest) pos) (a && b) := fun s Q hI hS hQ => by
  refine isTrue_and (h s _ hI hS fun s' k => ?_)
  cases a with
  | false => simp only [Bool.false_eq_true, if_false]; exact hQ s' k
  | true => simp only [if_true]; exact h' rfl s' _ (X.mono _ _ hI k) (hS.keeps k) fun s'' k' => hQ s'' (Kp.trans k k')
theorem Tr.or {x : Expr} {rest : List Expr} {pos : Pos} {a b : Bool} (h : Tr prog w X Γ x a) (h' : a = false → Tr prog w X Γ (.BoolOp .Or rest pos) b) : Tr prog w X Γ (.BoolOp .Or (x :: rest) pos) (a || b) := fun s Q hI hS hQ => by
  refine isTrue_or (h s _ hI hS fun s' k => ?_)
  cases a with
  | true => simp only [if_true]; exact hQ s' k
  | false => simp only [Bool.false_eq_true, if_false]; exact h' rfl s' _ (X.mono _ _ hI k) (hS.keeps k) fun s'' k' => hQ s'' (Kp.trans k k')
theorem Ev.ife {t b e : Expr} {pos : Pos} {c : Bool} {r : Bool × D} (ht : Tr prog w X Γ t c) (hb : c = true → Ev prog w X Γ b r) (he : c = false → Ev prog w X Γ e r) : Ev prog w X Γ (.IfExp t b e pos) r := fun s Q hI hS hQ => by
  rw [arm_eval_IfExp]
  refine wpAny_bind (ht s _ hI hS fun s' k => ?_)
  cases c with
  | true => simp only [if_true]; exact hb rfl s' _ (X.mono _ _ hI k) (hS.keeps k) fun v s'' k' i => hQ v s'' (Kp.trans k k') i
  | false => simp only [Bool.false_eq_true, if_false]; exact he rfl s' _ (X.mono _ _ hI k) (hS.keeps k) fun v s'' k' i => hQ v s'' (Kp.trans k k') i
theorem EvL.nil : EvL prog w X Γ [] [] := fun s pos Q hI hS hQ => spliced_none (hQ [] s (Kp.refl s) InL.nil)
theorem EvL.cons {e : Expr} {es : List Expr} {d : D} {ds : List D} (h : Ev prog w X Γ e (true, d)) (h' : EvL prog w X Γ es ds)
    (he : starEach (e :: es) X.env = (false, eval e X.env) :: starEach es X.env := by rfl) : EvL prog w X Γ (e :: es) (d :: ds) := fun s pos Q hI hS hQ =>
  spliced_more (h s _ hI hS fun v s₁ k₁ i₁ => h' s₁ pos _ (X.mono _ _ hI k₁) (hS.keeps k₁) fun vs s₂ k₂ i₂ =>
    hQ (v :: vs) s₂ (Kp.trans k₁ k₂) (InL.cons (i₁.infz.mono (fz_ks (Kp.ks k₂))) i₂)) he
theorem Ev.tuple {es : List Expr} {n : Nat} {pos : Pos} {ds : List D} (h : EvL prog w X Γ es ds) (hn : ds.length ≤ sizeLine := by (simp only [List.length_cons, List.length_nil]; decide)) : Ev prog w X Γ (.Tuple es n pos) (true, .tup ds) := fun s Q hI hS hQ => by
  rw [arm_eval_Tuple]
  refine wpAny_bind (wpAny_standAt (wpAny_bind (h s _ _ hI hS fun vs s' k i => ?_)))
  refine wpAny_newObj_type (hQ _ _ (Kp.trans k (Kp.push s' _)) (Vi.fz (In.tup_iff.mpr ⟨_, vs, 0, rfl, ?_, i.mono (fz_ks (Kp.ks (Kp.push s' _)))⟩))) (by show vs.toArray.size ≤ sizeLine; rw [List.size_toArray, i.length]; exact hn)
  exact fz_push (X.low _ (X.mono _ _ hI k)) _ rfl
theorem Ev.list {es : List Expr} {pos : Pos} {ds : List D} (h : EvL prog w X Γ es ds) (hn : ds.length ≤ sizeLine := by (simp only [List.length_cons, List.length_nil]; decide)) : Ev prog w X Γ (.List es pos) (true, .lst ds) := fun s Q hI hS hQ => by
  rw [arm_eval_List]
  refine wpAny_bind (wpAny_standAt (wpAny_bind (h s _ _ hI hS fun vs s' k i => ?_)))
  refine wpAny_newObj_type (hQ _ _ (Kp.trans k (Kp.push s' _)) (Vi.fz (In.lst_iff.mpr ⟨_, vs, 0, rfl, ?_, i.mono (fz_ks (Kp.ks (Kp.push s' _)))⟩))) (by show vs.toArray.size ≤ sizeLine; rw [List.size_toArray, i.length]; exact hn)
  exact fz_push (X.low _ (X.mono _ _ hI k)) _ rfl
end
end Mine

namespace Mine

section
variable {prog : Program} {w : World} {X : Cx} {Γ : Gam} {b₁ b₂ : Bool}

theorem Op2.add {a b : Int} : Op2 prog w X (binaryOp .Add) (b₁, .int a) (b₂, .int b) (true, .int (a + b)) := fun s Q v₁ v₂ hI i₁ i₂ hQ => by
  obtain ⟨t, rfl⟩ := i₁.int; obtain ⟨u, rfl⟩ := i₂.int
  exact P.add_int (hQ _ _ (Kp.tok s _) (Vi.of_int _ _))
theorem Op2.sub {a b : Int} : Op2 prog w X (binaryOp .Sub) (b₁, .int a) (b₂, .int b) (true, .int (a - b)) := fun s Q v₁ v₂ hI i₁ i₂ hQ => by
  obtain ⟨t, rfl⟩ := i₁.int; obtain ⟨u, rfl⟩ := i₂.int
  exact P.sub_int (hQ _ _ (Kp.tok s _) (Vi.of_int _ _))
theorem Op2.fdiv {a b : Int} (hb : b ≠ 0) (hs : b.natAbs < 1073741824) : Op2 prog w X (binaryOp .FloorDiv) (b₁, .int a) (b₂, .int b) (true, .int (a.fdiv b)) := fun s Q v₁ v₂ hI i₁ i₂ hQ => by
  obtain ⟨t, rfl⟩ := i₁.int; obtain ⟨u, rfl⟩ := i₂.int
  exact floordiv_int hb (hQ _ _ (Kp.tok s _) (Vi.of_int _ _)) (Or.inl (PyProof.noPylong_small hs))
theorem Op2.mod {a b : Int} (hb : b ≠ 0) : Op2 prog w X (binaryOp .Mod) (b₁, .int a) (b₂, .int b) (true, .int (a.fmod b)) := fun s Q v₁ v₂ hI i₁ i₂ hQ => by
  obtain ⟨t, rfl⟩ := i₁.int; obtain ⟨u, rfl⟩ := i₂.int
  exact mod_int hb (hQ _ _ (Kp.tok s _) (Vi.of_int _ _))
theorem Op2.shr {a b : Int} (hb : 0 ≤ b) : Op2 prog w X (binaryOp .RShift) (b₁, .int a) (b₂, .int b) (true, .int (a.fdiv (2 ^ b.toNat))) := fun s Q v₁ v₂ hI i₁ i₂ hQ => by
  obtain ⟨t, rfl⟩ := i₁.int; obtain ⟨u, rfl⟩ := i₂.int
  exact rshift_int hb (hQ _ _ (Kp.tok s _) (Vi.of_int _ _))
theorem Op2.mul {a b : Int} (hm : IntMulOk a b) : Op2 prog w X (binaryOp .Mult) (b₁, .int a) (b₂, .int b) (true, .int (a * b)) := fun s Q v₁ v₂ hI i₁ i₂ hQ => by
  obtain ⟨t, rfl⟩ := i₁.int; obtain ⟨u, rfl⟩ := i₂.int
  exact P.mul_int (hQ _ _ (Kp.tok s _) (Vi.of_int _ _)) hm
theorem Op2.lt {a b : Int} : Op2 prog w X (compareOp .Lt) (b₁, .int a) (b₂, .int b) (true, .bool (decide (a < b))) := fun s Q v₁ v₂ hI i₁ i₂ hQ => by
  obtain ⟨t, rfl⟩ := i₁.int; obtain ⟨u, rfl⟩ := i₂.int
  exact P.lt_int (hQ _ _ (Kp.refl s) (Vi.of_bool _))
theorem Op2.gt {a b : Int} : Op2 prog w X (compareOp .Gt) (b₁, .int a) (b₂, .int b) (true, .bool (decide (b < a))) := fun s Q v₁ v₂ hI i₁ i₂ hQ => by
  obtain ⟨t, rfl⟩ := i₁.int; obtain ⟨u, rfl⟩ := i₂.int
  exact P.gt_int (hQ _ _ (Kp.refl s) (Vi.of_bool _))
theorem Op2.eq {a b : Int} : Op2 prog w X (compareOp .Eq) (b₁, .int a) (b₂, .int b) (true, .bool (decide (a = b))) := fun s Q v₁ v₂ hI i₁ i₂ hQ => by
  obtain ⟨t, rfl⟩ := i₁.int; obtain ⟨u, rfl⟩ := i₂.int
  exact P.eq_int (hQ _ _ (Kp.refl s) (by rw [show (a == b) = decide (a = b) from rfl]; exact Vi.of_bool _))
theorem Op2.ne {a b : Int} : Op2 prog w X (compareOp .NotEq) (b₁, .int a) (b₂, .int b) (true, .bool (!decide (a = b))) := fun s Q v₁ v₂ hI i₁ i₂ hQ => by
  obtain ⟨t, rfl⟩ := i₁.int; obtain ⟨u, rfl⟩ := i₂.int
  exact P.ne_int (hQ _ _ (Kp.refl s) (by rw [show (a != b) = !decide (a = b) from rfl]; exact Vi.of_bool _))
theorem Op2.isNone : Op2 prog w X (compareOp .Is) (b₁, .none) (b₂, .none) (true, .bool true) := fun s Q v₁ v₂ hI i₁ i₂ hQ => by
  rw [i₁.none, i₂.none]
  exact is_none (hQ _ _ (Kp.refl s) (Vi.of_bool _))
theorem Op2.isNotNone {a : Addr} : Op2 prog w X (compareOp .Is) (b₁, .val (.ref a)) (b₂, .none) (true, .bool false) := fun s Q v₁ v₂ hI i₁ i₂ hQ => by
  rw [i₁.val, i₂.none]
  exact is_none (hQ _ _ (Kp.refl s) (Vi.of_bool _))
theorem Truthy.bool {b : Bool} : Truthy prog w X (b₁, .bool b) b := fun s Q v hI i hQ => by
  rw [i.bool]; exact wpAny_truthy_bool (hQ s (Kp.refl s))
theorem Truthy.int {a : Int} : Truthy prog w X (b₁, .int a) (decide (a ≠ 0)) := fun s Q v hI i hQ => by
  obtain ⟨t, rfl⟩ := i.int
  refine P.truthy_int ?_
  have e : (a != 0) = decide (a ≠ 0) := by simp [bne, BEq.beq]
  rw [e]; exact hQ s (Kp.refl s)
theorem Truthy.lst {ds : List D} (hl : ds.length < 2 ^ 60) : Truthy prog w X (b₁, .lst ds) (!ds.isEmpty) := fun s Q v hI i hQ => by
  obtain ⟨a, vs, n, rfl, g, r⟩ := i.lst
  have e : (!vs.toArray.isEmpty) = !ds.isEmpty := by
    have := r.length
    cases vs <;> cases ds <;> simp_all
  refine wpAny_truthy_list (items := vs.toArray) ⟨_, g, rfl, _, rfl⟩ (by rw [List.size_toArray, r.length]; omega) ?_
  rw [e]
  exact hQ _ (Kp.tok s _)

theorem isList_of {h : Heap} {a : Addr} {vs : List Value} {n : Nat} (g : h.get? a = some (lobj vs n)) : h.IsList a vs.toArray := ⟨_, g, rfl, _, rfl⟩
theorem isTup_of {h : Heap} {a : Addr} {vs : List Value} {n : Nat} (g : h.get? a = some (tupO vs n)) : IsTup h a vs.toArray := ⟨_, g, rfl, _, rfl⟩

/-- an item of a list -/
theorem Ev.item {o i : Expr} {pos : Pos} {ds : List D} {k : Int} {d : D} (ho : Ev prog w X Γ o (b₁, .lst ds)) (hi : Ev prog w X Γ i (b₂, .int k)) (h0 : 0 ≤ k) (hf : k < 2 ^ 60) (hd : ds[k.toNat]? = some d)
    (hs : ∀ a u, subscripted i false (.ref a) (.int k u) = operate [.ref a, .int k u] (getItem (.ref a) (.int k u)) := by intro _ _; rfl) :
    Ev prog w X Γ (.Subscript o i pos) (true, d) := fun s Q hI hS hQ => by
  refine Subscript_ (ho s _ hI hS fun v₁ s₁ k₁ i₁ => hi s₁ _ (X.mono _ _ hI k₁) (hS.keeps k₁) fun v₂ s₂ k₂ i₂ => ?_)
  obtain ⟨a, vs, n, rfl, g, r⟩ := (i₁.mono (Kp.ks k₂)).lst
  obtain ⟨t, rfl⟩ := i₂.int
  obtain ⟨v, hv, iv⟩ := r.get hd
  exact tail_any (isList_of g).typeIs slot_list_getitem.lookup (wpAny_getItem_list (isList_of g) h0 (by omega) (by simpa using hv) (hQ v s₂ (Kp.trans k₁ k₂) (Vi.fz iv))) (hs _ _)
/-- the last item of a list -/
theorem Ev.itemNeg {o i : Expr} {pos : Pos} {ds : List D} {k : Int} {d : D} (ho : Ev prog w X Γ o (b₁, .lst ds)) (hi : Ev prog w X Γ i (b₂, .int k)) (h0 : k < 0) (hk : -(ds.length : Int) ≤ k) (hf : -2 ^ 60 ≤ k) (hd : ds[(k + ds.length).toNat]? = some d)
    (hs : ∀ a u, subscripted i false (.ref a) (.int k u) = operate [.ref a, .int k u] (getItem (.ref a) (.int k u)) := by intro _ _; rfl) :
    Ev prog w X Γ (.Subscript o i pos) (true, d) := fun s Q hI hS hQ => by
  refine Subscript_ (ho s _ hI hS fun v₁ s₁ k₁ i₁ => hi s₁ _ (X.mono _ _ hI k₁) (hS.keeps k₁) fun v₂ s₂ k₂ i₂ => ?_)
  obtain ⟨a, vs, n, rfl, g, r⟩ := (i₁.mono (Kp.ks k₂)).lst
  obtain ⟨t, rfl⟩ := i₂.int
  have hl := r.length
  rw [← hl] at hd
  obtain ⟨v, hv, iv⟩ := r.get hd
  exact tail_any (isList_of g).typeIs slot_list_getitem.lookup (wpAny_getItem_list_neg (isList_of g) h0 (by rw [List.size_toArray, hl]; exact hk) (by omega) (by simpa using hv) (hQ v s₂ (Kp.trans k₁ k₂) (Vi.fz iv))) (hs _ _)
/-- an item of a tuple -/
theorem Ev.place {o i : Expr} {pos : Pos} {ds : List D} {k : Int} {d : D} (ho : Ev prog w X Γ o (b₁, .tup ds)) (hi : Ev prog w X Γ i (b₂, .int k)) (h0 : 0 ≤ k) (hf : k < 2 ^ 60) (hd : ds[k.toNat]? = some d)
    (hs : ∀ a u, subscripted i false (.ref a) (.int k u) = operate [.ref a, .int k u] (getItem (.ref a) (.int k u)) := by intro _ _; rfl) :
    Ev prog w X Γ (.Subscript o i pos) (true, d) := fun s Q hI hS hQ => by
  refine Subscript_ (ho s _ hI hS fun v₁ s₁ k₁ i₁ => hi s₁ _ (X.mono _ _ hI k₁) (hS.keeps k₁) fun v₂ s₂ k₂ i₂ => ?_)
  obtain ⟨a, vs, n, rfl, g, r⟩ := (i₁.mono (Kp.ks k₂)).tup
  obtain ⟨t, rfl⟩ := i₂.int
  obtain ⟨v, hv, iv⟩ := r.get hd
  have hlt : k.toNat < vs.length := (List.getElem?_eq_some_iff.mp hv).1
  refine tail_any (isTup_of g).typeIs slot_tuple_getitem.lookup (getItem_tuple (isTup_of g) (by omega) (by omega) (j := k.toNat) ?_ (by simpa using hv) (hQ v s₂ (Kp.trans k₁ k₂) (Vi.fz iv))) (hs _ _)
  unfold seqIndex?
  rw [List.size_toArray]
  have h1 : ¬ k < 0 := by omega
  have h2 : k < vs.length := by omega
  simp [h1, h2, h0]

noncomputable def look (kvs : List (Int × D)) (k : Int) : Option D := (kvs.find? fun e => e.1 = k).map (·.2)
theorem InK.look {h : Heap} : ∀ {ds : List (Int × D)} {kv : List (Int × Value)} {k : Int} {d : D}, InK prog w h ds kv → look ds k = some d → ∃ v, valueAt kv k = some v ∧ In prog w h d v
  | [], kv, k, d, x, e => by simp [Mine.look] at e
  | (j, c) :: ds, kv, k, d, x, e => by
    obtain ⟨v, r, rfl, i, l⟩ := InK.cons_iff.mp x
    by_cases hj : j = k
    · simp only [Mine.look, List.find?_cons, hj, decide_true, Option.map_some, Option.some.injEq] at e
      subst e
      exact ⟨v, by simp [valueAt, hj], i⟩
    · have e' : Mine.look ds k = some d := by simpa [Mine.look, List.find?_cons, hj] using e
      obtain ⟨u, hu, iu⟩ := InK.look l e'
      exact ⟨u, by simpa [valueAt, List.find?_cons, hj] using hu, iu⟩
theorem InK.noLook {h : Heap} : ∀ {ds : List (Int × D)} {kv : List (Int × Value)} {k : Int}, InK prog w h ds kv → (valueAt kv k).isSome = (Mine.look ds k).isSome
  | [], kv, k, x => by rw [InK.nil_iff.mp x]; rfl
  | (j, c) :: ds, kv, k, x => by
    obtain ⟨v, r, rfl, i, l⟩ := InK.cons_iff.mp x
    have ih := InK.noLook (k := k) l
    by_cases hj : j = k
    · simp [Mine.look, valueAt, hj]
    · simpa [Mine.look, valueAt, List.find?_cons, hj] using ih
theorem dictOf_of {h : Heap} {a : Addr} {o : Obj} {kv : List (Int × Value)} (g : h.get? a = some o) (hd : o.IsDictOf (intKind prog w) kv) : h.DictOf (intKind prog w) a kv := Heap.dictOf_iff.mpr ⟨o, g, hd⟩
/-- a dict's value -/
theorem Ev.at {o i : Expr} {pos : Pos} {kvs : List (Int × D)} {k : Int} {d : D} (ho : Ev prog w X Γ o (b₁, .dct kvs)) (hi : Ev prog w X Γ i (b₂, .int k)) (hd : look kvs k = some d)
    (hs : ∀ a u, subscripted i false (.ref a) (.int k u) = operate [.ref a, .int k u] (getItem (.ref a) (.int k u)) := by intro _ _; rfl) :
    Ev prog w X Γ (.Subscript o i pos) (true, d) := fun s Q hI hS hQ => by
  refine Subscript_ (ho s _ hI hS fun v₁ s₁ k₁ i₁ => hi s₁ _ (X.mono _ _ hI k₁) (hS.keeps k₁) fun v₂ s₂ k₂ i₂ => ?_)
  obtain ⟨a, o, kv, rfl, g, q, hsy, r⟩ := (i₁.mono (Kp.ks k₂)).dct
  obtain ⟨t, rfl⟩ := i₂.int
  obtain ⟨v, hv, iv⟩ := r.look hd
  have hD := dictOf_of g q
  exact tail_any hD.typeIs slot_dict_getitem.lookup (wpAny_getItem_of (intKind_is _ _ k t) hD.mapOf hv (hQ v _ (Kp.trans (Kp.trans k₁ k₂) (Kp.tok s₂ _)) (Vi.fz iv))) (hs _ _)

theorem intsAre_of {h : Heap} : ∀ {ns : List Int} {vs : List Value}, InL prog w h (ns.map .int) vs → IntsAre vs ns
  | [], vs, x => by rw [InL.nil_iff.mp x]; exact .nil
  | n :: ns, vs, x => by
    obtain ⟨v, r, rfl, i, l⟩ := InL.cons_iff.mp x
    obtain ⟨t, rfl⟩ := In.int_iff.mp i
    exact .cons _ _ (intsAre_of l)
/-- not in a list of ints -/
theorem Op2.notInInts {k : Int} {ns : List Int} : Op2 prog w X (compareOp .NotIn) (b₁, .int k) (b₂, .lst (ns.map .int)) (true, .bool (!ns.contains k)) := fun s Q v₁ v₂ hI i₁ i₂ hQ => by
  obtain ⟨t, rfl⟩ := i₁.int
  obtain ⟨a, vs, n, rfl, g, r⟩ := i₂.lst
  refine notin_list_ints (isList_of g) (intsAre_of r) ?_
  have e : (ns.any fun x => x == k) = ns.contains k := by
    rw [List.contains_eq_any_beq]; congr 1; funext x; exact Bool.beq_comm
  rw [e]
  exact hQ _ _ (Kp.refl s) (Vi.of_bool _)
theorem Op2.inDict {k : Int} {kvs : List (Int × D)} : Op2 prog w X (compareOp .In) (b₁, .int k) (b₂, .dct kvs) (true, .bool (look kvs k).isSome) := fun s Q v₁ v₂ hI i₁ i₂ hQ => by
  obtain ⟨t, rfl⟩ := i₁.int
  obtain ⟨a, o, kv, rfl, g, q, hsy, r⟩ := i₂.dct
  refine wpAny_in_of (intKind_is _ _ k t) hsy (dictOf_of g q).mapOf ?_
  rw [r.noLook]
  exact hQ _ _ (Kp.tok s _) (Vi.of_bool _)
end
end Mine

namespace Mine

/-- what the whole file is over: the program, the world, the written part, the top's facts, the globals that are read -/
structure Amb where
  prog : Program
  w : World
  K : Frag
  p : Program
  loose : List Str
  mean : ExcName → Option Value
  mg : Str → Option Value
  mb : Str → Option Value
  G : Str → Option Value
  hG : ∀ x v, G x = some v → (x == ("__debug__" : Str)) = false ∧ (nsIn K mainGlobals x = some (some v) ∨ (nsIn K mainGlobals x = some none ∧ bootBuiltins x = some v ∧ x ≠ "__name__"))

/-- a frame of a def -/
structure Act (M : Amb) (sc : Scope) where
  A : Around
  env : Env
  outer : List Env
  A₀ : Around
  base : Heap
  h₀ : Heap
  W₀ : List Addr
  lent : List (Str × Addr)
  lv : Nat
  B : Below A₀ base outer h₀
  X : M.K.In h₀
  T : Top M.p M.loose M.mean M.mg M.mb h₀
  hA : A.frames = some (env :: outer)
  hf : env.frame = some env.locals
  hsc : env.scope = sc
  hke : sc.kind = .function
  hg : env.globals = mainGlobals
  hb : env.builtins = builtinsNs
  hh : A.handled = none
  room : A.units + 20 * lv + 150 < cLine
  deep : A.depth + lv < recursionLimit
  cls : ∀ c ∈ env.cells.map (·.2), h₀.get? c = none ∧ c ≠ env.locals

variable {M : Amb} {sc : Scope}
noncomputable def Act.ca (α : Act M sc) : List Addr := α.env.locals :: α.env.cells.map (·.2)

structure FrX (α : Act M sc) (μ : Str → Option Value) (h : Heap) : Prop where
  m : ∃ m, Fr α.h₀ α.env.locals h m ∧ ∀ x, sc.names.lookup x = some .local → m x = μ x
  c : ∀ x, sc.names.lookup x = some .cell → ∃ c, α.env.cells.lookup x = some c ∧ h.IsCell c (μ x)

theorem FrX.keeps {α : Act M sc} {μ : Str → Option Value} {h h' : Heap} (F : FrX α μ h) (k : Ks h h') : FrX α μ h' := by
  obtain ⟨⟨m, f, e⟩, c⟩ := F
  refine ⟨⟨m, f.keeps k, e⟩, fun x hx => ?_⟩
  obtain ⟨c', h1, o, h2, h3⟩ := c x hx
  exact ⟨c', h1, o, k _ _ h2, h3⟩

/-- what a name's value is: frozen, own, or borrowed from the ground -/
noncomputable def VarOk (α : Act M sc) (Ω : List Str) (own : List (Str × Addr)) (h : Heap) (x : Str) (r : Bool × D) (v : Value) : Prop :=
  if r.1 = true then In M.prog M.w (Fz (own.map (·.2) ++ (α.ca ++ α.W₀)) h) r.2 v
  else if x ∈ Ω then ∃ a, v = .ref a ∧ (x, a) ∈ own ∧ InR M.prog M.w h (Fz (own.map (·.2) ++ (α.ca ++ α.W₀)) h) r.2 v
  else InR M.prog M.w α.h₀ (Fz (own.map (·.2) ++ (α.ca ++ α.W₀)) h) r.2 v

/-- the state of a frame: Γ's data stand at its names; the names of Ω own what they bear -/
structure St (α : Act M sc) (Γ : Gam) (Ω : List Str) (μ : Str → Option Value) (own : List (Str × Addr)) (s : Shared) : Prop where
  names : own.map (·.1) = Ω
  nd : (own.map (·.2) ++ (α.ca ++ α.W₀)).Nodup
  fr : FrX α μ s.heap
  ownN : ∀ p ∈ own, α.h₀.get? p.2 = none
  lent : ∃ more, own = more ++ α.lent
  low : ∀ a ∈ own.map (·.2) ++ (α.ca ++ α.W₀), ∃ o, s.heap.get? a = some o
  vars : ∀ x r, Γ x = some r → ((x == ("__debug__" : Str)) = false ∧ (sc.names.lookup x = some .local ∨ sc.names.lookup x = some .cell)) ∧ ∃ v, μ x = some v ∧ VarOk α Ω own s.heap x r v

noncomputable def Act.cx (α : Act M sc) (own : List (Str × Addr)) : Cx where
  A := α.A
  env := α.env
  W := own.map (·.2) ++ (α.ca ++ α.W₀)
  I := fun s => ((∃ μ, FrX α μ s.heap) ∧ (own.map (·.2) ++ (α.ca ++ α.W₀)).Nodup ∧ ∀ p ∈ own, α.h₀.get? p.2 = none) ∧ ∀ a ∈ own.map (·.2) ++ (α.ca ++ α.W₀), ∃ o, s.heap.get? a = some o
  mono := fun s s' h k => by
    obtain ⟨h1, t1, rfl, k1⟩ := id k
    exact ⟨⟨h.1.1.imp fun μ F => F.keeps k1, h.1.2⟩, fun a ha => (h.2 a ha).imp fun o e => k1 _ _ e⟩
  hh := α.hh
  room := by have := α.room; omega
  low := fun s h => h.2
  gl := M.G
  scp := sc
  hscp := α.hsc
  hfun := α.hke
  hglo := α.hg
  hblt := α.hb
  big := fun s hI => by
    obtain ⟨⟨⟨μ, F⟩, _⟩, _⟩ := hI
    have kp : Ks α.h₀ s.heap := by
      obtain ⟨⟨m, f, e⟩, c⟩ := F
      exact f.keep
    have h := ((topRead_of α.T).g.keeps kp).lt
    exact Nat.lt_of_le_of_lt (by decide) h
  hgl := fun x v hG' Mo env' s pos Q hI hkf hkk hgl' hbl' hQ => by
    obtain ⟨⟨⟨μ, F⟩, _⟩, _⟩ := hI
    obtain ⟨hdb, hG⟩ := M.hG x v hG'
    have TR := topRead_of α.T
    have kp : Ks α.h₀ s.heap := by
      obtain ⟨⟨m, f, e⟩, c⟩ := F
      exact f.keep
    refine Name_function_global hkf hkk ?_ hdb
    rcases hG with hG | ⟨hG, hv, hn⟩
    · exact loadGlobal_global (by show s.heap.Ns env'.globals M.mg; rw [hgl']; exact TR.g.keeps kp) (mg_of α.X TR.g hG) hQ
    · exact loadGlobal_builtin (by show s.heap.Ns env'.globals M.mg; rw [hgl']; exact TR.g.keeps kp) (mg_none_of α.X TR.g hG) (by show s.heap.Ns env'.builtins M.mb; rw [hbl']; exact TR.b.keeps kp) ((TR.builtins x hn).trans hv) hQ
end Mine
namespace Mine
variable {M : Amb} {sc : Scope} {α : Act M sc} {Γ : Gam} {Ω : List Str} {μ : Str → Option Value} {own : List (Str × Addr)} {s s' : Shared}

noncomputable abbrev Act.W (α : Act M sc) (own : List (Str × Addr)) : List Addr := own.map (·.2) ++ (α.ca ++ α.W₀)

theorem FrX.keep {α : Act M sc} {μ : Str → Option Value} {h : Heap} (F : FrX α μ h) : Ks α.h₀ h := by
  obtain ⟨⟨m, f, e⟩, c⟩ := F
  exact f.keep

theorem VarOk.grow {h h' : Heap} (k : Ks h h') {x : Str} {r : Bool × D} {v : Value} (h3 : VarOk α Ω own h x r v) : VarOk α Ω own h' x r v := by
  unfold VarOk at h3 ⊢
  split at h3
  · rename_i q; rw [if_pos q]; exact h3.mono (fz_ks k)
  · rename_i q
    rw [if_neg q]
    split at h3
    · rename_i q2
      rw [if_pos q2]
      obtain ⟨a, h4, h5, h6⟩ := h3
      exact ⟨a, h4, h5, h6.mono k (fz_ks k)⟩
    · rename_i q2
      rw [if_neg q2]
      exact h3.mono (fun _ _ e => e) (fz_ks k)
theorem VarOk.vi {h : Heap} (k : Ks α.h₀ h) {x : Str} {r : Bool × D} {v : Value} (h3 : VarOk α Ω own h x r v) : Vi M.prog M.w (α.W own) h r v := by
  obtain ⟨b, d⟩ := r
  unfold VarOk at h3
  cases b with
  | true => rw [if_pos rfl] at h3; exact Vi.fz h3
  | false =>
    rw [if_neg (by simp)] at h3
    split at h3
    · obtain ⟨a, h4, h5, h6⟩ := h3; exact Vi.rt h6
    · exact Vi.rt (h3.mono k (fun _ _ e => e))

theorem St.keeps (S : St α Γ Ω μ own s) (k : Keeps s s') : St α Γ Ω μ own s' where
  names := S.names
  nd := S.nd
  fr := S.fr.keeps (Kp.ks k)
  ownN := S.ownN
  lent := S.lent
  low := fun a ha => (S.low a ha).imp fun o e => Kp.ks k _ _ e
  vars := fun x r e => by
    obtain ⟨h1, v, h2, h3⟩ := S.vars x r e
    exact ⟨h1, v, h2, h3.grow (Kp.ks k)⟩

theorem St.cxI (S : St α Γ Ω μ own s) : (α.cx own).I s := ⟨⟨⟨μ, S.fr⟩, S.nd, S.ownN⟩, S.low⟩

theorem St.sees (S : St α Γ Ω μ own s) : Sees M.prog M.w (α.cx own) Γ s := fun x r e => by
  obtain ⟨⟨hdb, hk⟩, v, hv, hi⟩ := S.vars x r e
  refine ⟨v, ?_, fun s' pos Q k _ hQ => ?_, fun hkc => ?_⟩
  · exact hi.vi S.fr.keep
  · have F := S.fr.keeps (Kp.ks k)
    refine wpAny_Name ?_ hdb
    have hkf : (α.cx own).env.scope.kind = .function := by show α.env.scope.kind = _; rw [α.hsc]; exact α.hke
    rcases hk with hk | hk
    · obtain ⟨m, f, e⟩ := F.m
      exact wpAny_loadName_local hkf (by show α.env.scope.names.lookup x = _; rw [α.hsc]; exact hk) f.ns ((e x hk).trans hv) hQ
    · obtain ⟨c, h1, h2⟩ := F.c x hk
      rw [hv] at h2
      exact wpAny_loadName_cell hkf (by show α.env.scope.names.lookup x = _; rw [α.hsc]; exact hk) h1 h2 hQ
  · obtain ⟨c, h1, h2⟩ := S.fr.c x hkc
    rw [hv] at h2
    exact ⟨c, h1, h2⟩

/-- a global of the text, or a built-in -/
noncomputable def Glob1 (M : Amb) (X : Cx) (x : Str) (v : Value) : Prop := ∀ s pos Q, X.I s → Q v s → wpAny (model M.prog M.w) X.A (eval (.Name x pos) X.env) Q NoE s
theorem Glob1.act {X : Cx} {x : Str} {v : Value} (hG : X.gl x = some v) (hk : X.scp.names.lookup x = some .globalImplicit) : Glob1 M X x v := fun s pos Q hI hQ =>
  X.hgl x v hG (model M.prog M.w) X.env s pos Q hI (by rw [X.hscp]; exact X.hfun) (by show X.env.scope.names.lookup x = _; rw [X.hscp]; exact hk) X.hglo X.hblt hQ
theorem Ev.glob {X : Cx} {x : Str} {v : Value} {pos : Pos} (g : Glob1 M X x v) : Ev M.prog M.w X Γ (.Name x pos) (true, .val v) := fun s Q hI hS hQ =>
  g s pos Q hI (hQ v s (Kp.refl s) (Vi.of_val v))

/-- what a run may turn: the frame's names, its cells, the own objects of mods -/
structure Tn (α : Act M sc) (mods : List Str) (own own' : List (Str × Addr)) (s s' : Shared) : Prop where
  rest : ∃ h tk, s' = { s with heap := h, toks := tk }
  kf : ∀ b o, b ∉ own.map (·.2) ++ α.ca → s.heap.get? b = some o → s'.heap.get? b = some o
  km : ∀ p ∈ own, p.1 ∉ mods → ∀ o, s.heap.get? p.2 = some o → s'.heap.get? p.2 = some o
  al : ∀ b o, s.heap.get? b = some o → ∃ o', s'.heap.get? b = some o'
  new : ∀ p ∈ own', p ∈ own ∨ s.heap.get? p.2 = none

theorem Tn.of_keeps {mods : List Str} (k : Keeps s s') : Tn α mods own own s s' where
  rest := by obtain ⟨h, tk, e, _⟩ := k; exact ⟨h, tk, e⟩
  kf := fun b o _ e => Kp.ks k _ _ e
  km := fun p _ _ o e => Kp.ks k _ _ e
  al := fun b o e => ⟨o, Kp.ks k _ _ e⟩
  new := fun p hp => .inl hp

theorem inj_of_nodup {β γ : Type} (f : β → γ) : ∀ {l : List β} {p q : β}, (l.map f).Nodup → p ∈ l → q ∈ l → f p = f q → p = q
  | [], _, _, _, h, _, _ => nomatch h
  | x :: l, p, q, nd, hp, hq, e => by
    rw [List.map_cons, List.nodup_cons] at nd
    rcases List.mem_cons.mp hp with h1 | h1
    · rcases List.mem_cons.mp hq with h2 | h2
      · rw [h1, h2]
      · subst h1; exact absurd (e ▸ List.mem_map_of_mem h2) nd.1
    · rcases List.mem_cons.mp hq with h2 | h2
      · subst h2; exact absurd (e ▸ List.mem_map_of_mem h1) nd.1
      · exact inj_of_nodup f nd.2 h1 h2 e

theorem Tn.trans {mods : List Str} {own₁ own₂ own₃ : List (Str × Addr)} {s₁ s₂ s₃ : Shared} (S : St α Γ Ω μ own₁ s₁) (x : Tn α mods own₁ own₂ s₁ s₂) (y : Tn α mods own₂ own₃ s₂ s₃) : Tn α mods own₁ own₃ s₁ s₃ where
  rest := by
    obtain ⟨h, t, rfl⟩ := x.rest
    obtain ⟨h', t', rfl⟩ := y.rest
    exact ⟨h', t', rfl⟩
  kf := fun b o hb e => by
    refine y.kf b o (fun hm => ?_) (x.kf b o hb e)
    rcases List.mem_append.mp hm with hm | hm
    · obtain ⟨p, hp, rfl⟩ := List.mem_map.mp hm
      rcases x.new p hp with h | h
      · exact hb (List.mem_append_left _ (List.mem_map_of_mem h))
      · rw [e] at h; cases h
    · exact hb (List.mem_append_right _ hm)
  km := fun p hp hn o e => by
    have nd1 : (own₁.map (·.2)).Nodup := (List.nodup_append.mp S.nd).1
    have e2 := x.km p hp hn o e
    by_cases h2 : p ∈ own₂
    · exact y.km p h2 hn o e2
    · by_cases h3 : p.2 ∈ own₂.map (·.2)
      · obtain ⟨q, hq, hqe⟩ := List.mem_map.mp h3
        rcases x.new q hq with h | h
        · have : q = p := inj_of_nodup (·.2) nd1 h hp hqe
          exact absurd (this ▸ hq) h2
        · rw [hqe, e] at h; cases h
      · refine y.kf _ o (fun hm => ?_) e2
        rcases List.mem_append.mp hm with hm | hm
        · exact h3 hm
        · exact (List.nodup_append.mp S.nd).2.2 _ (List.mem_map_of_mem hp) _ (List.mem_append_left _ hm) rfl
  al := fun b o e => by
    obtain ⟨o', e'⟩ := x.al b o e
    exact y.al b o' e'
  new := fun p hp => by
    rcases y.new p hp with h | h
    · exact x.new p h
    · by_cases hq : p ∈ own₁
      · exact .inl hq
      · right
        cases e : s₁.heap.get? p.2 with
        | none => rfl
        | some o => obtain ⟨o', e'⟩ := x.al _ _ e; rw [h] at e'; cases e'
end Mine

namespace Mine

inductive Fl where
  | next | brk | cont
  | ret (d : D)

variable {M : Amb} {sc : Scope} {α : Act M sc} {Γ : Gam} {Ω : List Str} {μ : Str → Option Value} {own : List (Str × Addr)} {s s' : Shared} {mods : List Str}

noncomputable def FlIs (α : Act M sc) (h : Heap) : Flow → Fl → Prop
  | .next, .next => True
  | .brk, .brk => True
  | .cont, .cont => True
  | .ret v, .ret d => In M.prog M.w (Fz (α.lent.map (·.2) ++ α.W₀) h) d v
  | _, _ => False

noncomputable abbrev Pst := Fl → Gam → List Str → Prop

noncomputable def Sp (α : Act M sc) (mods : List Str) (Γ : Gam) (Ω : List Str) (ss : List Stmt) (P : Pst) : Prop :=
  ∀ μ own s Q, St α Γ Ω μ own s → (∀ f fl Γ' Ω' μ' own' s', St α Γ' Ω' μ' own' s' → Tn α mods own own' s s' → FlIs α s'.heap f fl → P fl Γ' Ω' → Q f s') →
    wpAny (model M.prog M.w) α.A (execs ss α.env) Q NoE s
noncomputable def S1 (α : Act M sc) (mods : List Str) (Γ : Gam) (Ω : List Str) (st : Stmt) (P : Pst) : Prop :=
  ∀ μ own s Q, St α Γ Ω μ own s → (∀ f fl Γ' Ω' μ' own' s', St α Γ' Ω' μ' own' s' → Tn α mods own own' s s' → FlIs α s'.heap f fl → P fl Γ' Ω' → Q f s') →
    wpAny (model M.prog M.w) α.A (exec st α.env) Q NoE s
noncomputable def EvA (α : Act M sc) (Γ : Gam) (e : Expr) (r : Bool × D) : Prop := ∀ own, Ev M.prog M.w (α.cx own) Γ e r
noncomputable def TrA (α : Act M sc) (Γ : Gam) (e : Expr) (b : Bool) : Prop := ∀ own, Tr M.prog M.w (α.cx own) Γ e b

noncomputable def Gam.set (Γ : Gam) (x : Str) (r : Bool × D) : Gam := fun y => if y = x then some r else Γ y
noncomputable def Mst (μ : Str → Option Value) (x : Str) (v : Value) : Str → Option Value := fun y => if y = x then some v else μ y

noncomputable abbrev PThen (α : Act M sc) (mods : List Str) (rest : List Stmt) (P : Pst) : Pst := fun fl Γ' Ω' => match fl with | .next => Sp α mods Γ' Ω' rest P | fl => P fl Γ' Ω'
noncomputable abbrev PFin (Fin : Gam → List Str → Prop) (P : Pst) : Pst := fun fl Γ' Ω' => match fl with | .next => Fin Γ' Ω' | fl => P fl Γ' Ω'
noncomputable abbrev PLoop (J : Nat → Gam → List Str → Prop) (n : Nat) (P : Pst) : Pst := fun fl Γ'' Ω'' => match fl with | .next => ∃ m, m < n ∧ J m Γ'' Ω'' | .cont => ∃ m, m < n ∧ J m Γ'' Ω'' | .brk => P .next Γ'' Ω'' | .ret d => P (.ret d) Γ'' Ω''
noncomputable abbrev PTurn (J : Nat → Gam → List Str → Prop) (i : Nat) (P : Pst) : Pst := fun fl Γ₃ Ω₃ => match fl with | .next => J (i + 1) Γ₃ Ω₃ | .cont => J (i + 1) Γ₃ Ω₃ | .brk => P .next Γ₃ Ω₃ | .ret d => P (.ret d) Γ₃ Ω₃
theorem Sp.nil {P : Pst} (h : P .next Γ Ω) : Sp α mods Γ Ω [] P := fun μ own s Q S hQ =>
  wpAny_execs_nil (hQ .next .next Γ Ω μ own s S (Tn.of_keeps (Kp.refl s)) trivial h)
theorem Sp.cons {st : Stmt} {rest : List Stmt} {P : Pst} (h : S1 α mods Γ Ω st (PThen α mods rest P)) : Sp α mods Γ Ω (st :: rest) P := fun μ own s Q S hQ => by
  refine wpAny_execs_cons (h μ own s _ S fun f fl Γ' Ω' μ' own' s' S' T' hf hP => ?_)
  cases fl with
  | next =>
    cases f <;> first | exact hf.elim | skip
    exact hP μ' own' s' Q S' fun f2 fl2 Γ2 Ω2 μ2 own2 s2 S2 T2 hf2 hP2 => hQ f2 fl2 Γ2 Ω2 μ2 own2 s2 S2 (Tn.trans S T' T2) hf2 hP2
  | brk => cases f <;> first | exact hf.elim | exact hQ _ _ _ _ _ _ _ S' T' hf hP
  | cont => cases f <;> first | exact hf.elim | exact hQ _ _ _ _ _ _ _ S' T' hf hP
  | ret d => cases f <;> first | exact hf.elim | exact hQ _ _ _ _ _ _ _ S' T' hf hP
theorem Sp.mono {ss : List Stmt} {P P' : Pst} (h : Sp α mods Γ Ω ss P) (hp : ∀ fl Γ' Ω', P fl Γ' Ω' → P' fl Γ' Ω') : Sp α mods Γ Ω ss P' := fun μ own s Q S hQ =>
  h μ own s Q S fun f fl Γ' Ω' μ' own' s' S' T' hf hP => hQ f fl Γ' Ω' μ' own' s' S' T' hf (hp _ _ _ hP)
theorem S1.mono {st : Stmt} {P P' : Pst} (h : S1 α mods Γ Ω st P) (hp : ∀ fl Γ' Ω', P fl Γ' Ω' → P' fl Γ' Ω') : S1 α mods Γ Ω st P' := fun μ own s Q S hQ =>
  h μ own s Q S fun f fl Γ' Ω' μ' own' s' S' T' hf hP => hQ f fl Γ' Ω' μ' own' s' S' T' hf (hp _ _ _ hP)

theorem lookup_mem {β : Type} {x : Str} {c : β} : ∀ {l : List (Str × β)}, l.lookup x = some c → (x, c) ∈ l
  | [], h => by simp at h
  | (y, d) :: l, h => by
    rw [List.lookup_cons] at h
    cases hxy : x == y with
    | true => rw [hxy] at h; cases h; rw [beq_iff_eq.mp hxy]; exact .head _
    | false => rw [hxy] at h; exact .tail _ (lookup_mem h)

/-- objects of the frozen part lie off what is written -/
theorem fz_ext {W : List Addr} {h h' : Heap} {a : Addr} (ha : a ∈ W) (hs : ∀ b o, b ≠ a → h.get? b = some o → h'.get? b = some o) : Ks (Fz W h) (Fz W h') := fun b o e => by
  have hb : b ∉ W := fun hb => by have := hideAll_none W (h := h) hb; rw [e] at this; cases this
  exact hideAll_get W (hs b o (fun q => hb (q ▸ ha)) (of_hideAll W e)) hb
theorem fz_but {W : List Addr} {h h' : Heap} {a : Addr} (ha : a ∈ W) (hs : Heap.SameBut a h h') : Ks (Fz W h) (Fz W h') := fz_ext ha hs.extBut

theorem Tn.of_but {a : Addr} {h' : Heap} {t : Nat} (ha : a ∈ own.map (·.2) ++ α.ca) (hal : ∃ o, h'.get? a = some o) (hs : ∀ b o, b ≠ a → s.heap.get? b = some o → h'.get? b = some o) (hk : ∀ p ∈ own, p.1 ∉ mods → p.2 ≠ a) : Tn α mods own own s { s with heap := h', toks := t } where
  rest := ⟨h', t, rfl⟩
  kf := fun b o hb e => hs b o (fun q => hb (q ▸ ha)) e
  km := fun p hp hn o e => hs _ o (hk p hp hn) e
  al := fun b o e => by
    by_cases hb : b = a
    · rw [hb]; exact hal
    · exact ⟨o, hs b o hb e⟩
  new := fun p hp => .inl hp

theorem St.disj (S : St α Γ Ω μ own s) {a b : Addr} (ha : a ∈ own.map (·.2)) (hb : b ∈ α.ca ++ α.W₀) : a ≠ b := (List.nodup_append.mp S.nd).2.2 _ ha _ hb

theorem Act.L_mem (α : Act M sc) : α.env.locals ∈ α.ca := List.mem_cons_self ..
theorem Act.c_mem {α : Act M sc} {x : Str} {c : Addr} (h : α.env.cells.lookup x = some c) : c ∈ α.ca := List.mem_cons_of_mem _ (List.mem_map.mpr ⟨_, lookup_mem h, rfl⟩)
theorem St.cell_ne_L (S : St α Γ Ω μ own s) {x : Str} {c : Addr} (h : α.env.cells.lookup x = some c) : c ≠ α.env.locals := fun q => by
  have h1 := (List.nodup_append.mp (List.nodup_append.mp S.nd).2.1).1
  unfold Act.ca at h1
  rw [List.nodup_cons] at h1
  exact h1.1 (q ▸ List.mem_map.mpr ⟨_, lookup_mem h, rfl⟩)
theorem St.cell_inj (S : St α Γ Ω μ own s) {x y : Str} {c : Addr} (h : α.env.cells.lookup x = some c) (h' : α.env.cells.lookup y = some c) : x = y := by
  have h1 := (List.nodup_append.mp (List.nodup_append.mp S.nd).2.1).1
  unfold Act.ca at h1
  rw [List.nodup_cons] at h1
  have := inj_of_nodup (·.2) h1.2 (lookup_mem h) (lookup_mem h') rfl
  exact congrArg Prod.fst this

/-- after a store into what is hidden, the vars stand as they stood -/
theorem St.vars_but (S : St α Γ Ω μ own s) {a : Addr} {h' : Heap} (ha : a ∈ α.ca) (hs : Heap.SameBut a s.heap h') {x : Str} {r : Bool × D} {v : Value}
    (h3 : VarOk α Ω own s.heap x r v) : VarOk α Ω own h' x r v := by
  have haW : a ∈ α.W own := List.mem_append_right _ (List.mem_append_left _ ha)
  have kF := fz_but haW hs
  unfold VarOk at h3 ⊢
  split at h3
  · rename_i q; rw [if_pos q]; exact h3.mono kF
  · rename_i q
    rw [if_neg q]
    split at h3
    · rename_i q2
      rw [if_pos q2]
      obtain ⟨b, rfl, h5, h6⟩ := h3
      refine ⟨b, rfl, h5, ?_⟩
      have hne : b ≠ a := S.disj (List.mem_map_of_mem h5) (List.mem_append_left _ ha)
      obtain ⟨rb, d⟩ := r
      dsimp only at h6 ⊢
      cases d with
      | lst ds => obtain ⟨a', vs, n, e, g, rr⟩ := h6; cases e; exact ⟨_, vs, n, rfl, hs.extBut _ _ hne g, rr.mono kF⟩
      | dct kvs => obtain ⟨a', o, kv, e, g, q1, q2, rr⟩ := h6; cases e; exact ⟨_, o, kv, rfl, hs.extBut _ _ hne g, q1, q2, rr.mono kF⟩
      | none => exact In.mono kF h6
      | bool b => exact In.mono kF h6
      | int i => exact In.mono kF h6
      | tup ds => exact In.mono kF h6
      | val u => exact In.mono kF h6
      | obj u os => exact In.mono kF h6
    · rename_i q2
      rw [if_neg q2]
      exact h3.mono (fun _ _ e => e) kF

theorem St.storeV {x : Str} {v : Value} {r : Bool × D} {Q : Unit → Shared → Prop} (S : St α Γ Ω μ own s) (hi : VarOk α Ω own s.heap x r v) (hdb : (x == ("__debug__" : Str)) = false)
    (hk : sc.names.lookup x = some .local ∨ sc.names.lookup x = some .cell)
    (hQ : ∀ s', St α (Γ.set x r) Ω (Mst μ x v) own s' → Tn α mods own own s s' → Q () s') : wpAny (model M.prog M.w) α.A (storeName α.env x v) Q NoE s := by
  have hkf : α.env.scope.kind = .function := by rw [α.hsc]; exact α.hke
  have varsOk : ∀ {a : Addr} {h' : Heap} (t : Nat), a ∈ α.ca → Heap.SameBut a s.heap h' → (∃ o, h'.get? a = some o) → FrX α (Mst μ x v) h' → St α (Γ.set x r) Ω (Mst μ x v) own { s with heap := h', toks := t } := by
    intro a h' t ha hs hal F'
    have haW : a ∈ α.W own := List.mem_append_right _ (List.mem_append_left _ ha)
    refine ⟨S.names, S.nd, F', S.ownN, S.lent, fun b hb => ?_, fun y r' e => ?_⟩
    · by_cases hba : b = a
      · rw [hba]; exact hal
      · exact (S.low b hb).imp fun o e => hs.extBut b o hba e
    · by_cases hy : y = x
      · subst hy
        rw [Gam.set, if_pos rfl] at e
        cases e
        exact ⟨⟨hdb, hk⟩, v, by rw [Mst, if_pos rfl], S.vars_but ha hs hi⟩
      · rw [Gam.set, if_neg hy] at e
        obtain ⟨h1, u, h2, h3⟩ := S.vars y r' e
        exact ⟨h1, u, by rw [Mst, if_neg hy]; exact h2, S.vars_but ha hs h3⟩
  rcases hk with hk | hk
  · obtain ⟨m, f, e⟩ := S.fr.m
    refine wpAny_storeName_local (by show α.env.scope.names.lookup x = _; rw [α.hsc]; exact hk) f.ns (fun h' hn hs => ?_) (by rw [hkf]; rfl)
    have F' : FrX α (Mst μ x v) h' := by
      refine ⟨⟨_, f.set hn hs, fun y hy => ?_⟩, fun y hy => ?_⟩
      · unfold Mst; split
        · rfl
        · exact e y hy
      · obtain ⟨c, h1, o, h2, h3⟩ := S.fr.c y hy
        have hyx : y ≠ x := fun q => by rw [q, hk] at hy; cases hy
        exact ⟨c, h1, o, hs.extBut _ _ (S.cell_ne_L h1) h2, by rw [Mst, if_neg hyx]; exact h3⟩
    have hal : ∃ o, h'.get? α.env.locals = some o := by obtain ⟨o, _, _, ho, _⟩ := hn; exact ⟨o, ho⟩
    exact hQ _ (varsOk _ α.L_mem hs hal F') (Tn.of_but (List.mem_append_right _ α.L_mem) hal hs.extBut fun p hp _ => S.disj (List.mem_map_of_mem hp) (List.mem_append_left _ α.L_mem))
  · obtain ⟨c, h1, h2⟩ := S.fr.c x hk
    refine wpAny_storeName_cell hkf (by show α.env.scope.names.lookup x = _; rw [α.hsc]; exact hk) h1 h2 (fun h' hv hs => ?_)
    obtain ⟨m, f, e⟩ := S.fr.m
    have hcL := S.cell_ne_L h1
    have hc0 : α.h₀.get? c = none := (α.cls c (List.mem_map.mpr ⟨_, lookup_mem h1, rfl⟩)).1
    have F' : FrX α (Mst μ x v) h' := by
      refine ⟨⟨m, f.change hs hcL hc0, fun y hy => ?_⟩, fun y hy => ?_⟩
      · have hyx : y ≠ x := fun q => by rw [q, hk] at hy; cases hy
        rw [Mst, if_neg hyx]; exact e y hy
      · by_cases hyx : y = x
        · subst hyx; exact ⟨c, h1, by rw [Mst, if_pos rfl]; exact hv⟩
        · obtain ⟨c', h1', o, h2', h3'⟩ := S.fr.c y hy
          have hne : c' ≠ c := fun q => hyx (S.cell_inj (q ▸ h1') h1)
          exact ⟨c', h1', o, hs.extBut _ _ hne h2', by rw [Mst, if_neg hyx]; exact h3'⟩
    have hal : ∃ o, h'.get? c = some o := by obtain ⟨o, ho, _⟩ := hv; exact ⟨o, ho⟩
    exact hQ _ (varsOk _ (Act.c_mem h1) hs hal F') (Tn.of_but (List.mem_append_right _ (Act.c_mem h1)) hal hs.extBut fun p hp _ => S.disj (List.mem_map_of_mem hp) (List.mem_append_left _ (Act.c_mem h1)))
theorem St.store {x : Str} {v : Value} {d : D} {Q : Unit → Shared → Prop} (S : St α Γ Ω μ own s) (hi : In M.prog M.w (Fz (α.W own) s.heap) d v) (hx : x ∉ Ω) (hdb : (x == ("__debug__" : Str)) = false)
    (hk : sc.names.lookup x = some .local ∨ sc.names.lookup x = some .cell)
    (hQ : ∀ s', St α (Γ.set x (true, d)) Ω (Mst μ x v) own s' → Tn α mods own own s s' → Q () s') : wpAny (model M.prog M.w) α.A (storeName α.env x v) Q NoE s :=
  S.storeV (by unfold VarOk; rw [if_pos rfl]; exact hi) hdb hk hQ
section
variable {tn : List (Str × Addr)} {J : List Addr → Heap → Prop} {P : Pst}
/-- what is said of the tables of code stays where they and what is seen stay -/
noncomputable def JOk (tn : List (Str × Addr)) (J : List Addr → Heap → Prop) : Prop :=
  ∀ W W' h h', J W h → (∀ b o, (b ∉ W ∨ b ∈ tn.map (·.2)) → h.get? b = some o → h'.get? b = some o) → (∀ b ∈ W', b ∈ W ∨ h.get? b = none) → J W' h'
structure TJ (tn : List (Str × Addr)) (J : List Addr → Heap → Prop) (α : Act M sc) : Prop where
  ok : JOk tn J
  lent : ∀ p ∈ tn, p ∈ α.lent
theorem TJ.inOwn (t : TJ tn J α) (S : St α Γ Ω μ own s) {p : Str × Addr} (hp : p ∈ tn) : p ∈ own := by
  obtain ⟨more, e⟩ := S.lent
  rw [e]; exact List.mem_append_right _ (t.lent p hp)
theorem TJ.keeps (t : TJ tn J α) (k : Keeps s s') {W : List Addr} (h : J W s.heap) : J W s'.heap :=
  t.ok W W _ _ h (fun b o _ e => Kp.ks k _ _ e) fun b hb => .inl hb
noncomputable def SpT (tn : List (Str × Addr)) (J : List Addr → Heap → Prop) (α : Act M sc) (mods : List Str) (Γ : Gam) (Ω : List Str) (ss : List Stmt) (P : Pst) : Prop :=
  ∀ μ own s Q, St α Γ Ω μ own s → J (α.W own) s.heap → (∀ f fl Γ' Ω' μ' own' s', St α Γ' Ω' μ' own' s' → Tn α (tn.map (·.1) ++ mods) own own' s s' → J (α.W own') s'.heap → FlIs α s'.heap f fl → P fl Γ' Ω' → Q f s') →
    wpAny (model M.prog M.w) α.A (execs ss α.env) Q NoE s
noncomputable def S1T (tn : List (Str × Addr)) (J : List Addr → Heap → Prop) (α : Act M sc) (mods : List Str) (Γ : Gam) (Ω : List Str) (st : Stmt) (P : Pst) : Prop :=
  ∀ μ own s Q, St α Γ Ω μ own s → J (α.W own) s.heap → (∀ f fl Γ' Ω' μ' own' s', St α Γ' Ω' μ' own' s' → Tn α (tn.map (·.1) ++ mods) own own' s s' → J (α.W own') s'.heap → FlIs α s'.heap f fl → P fl Γ' Ω' → Q f s') →
    wpAny (model M.prog M.w) α.A (exec st α.env) Q NoE s
theorem Tn.wide {own' : List (Str × Addr)} {mods₂ : List Str} (T : Tn α mods own own' s s') (hm : ∀ x ∈ mods, x ∈ mods₂) : Tn α mods₂ own own' s s' := ⟨T.rest, T.kf, fun p hp hn => T.km p hp fun h => hn (hm _ h), T.al, T.new⟩
theorem TJ.turn {own' : List (Str × Addr)} (t : TJ tn J α) (S : St α Γ Ω μ own s) (T : Tn α mods own own' s s') (hm : ∀ p ∈ tn, p.1 ∉ mods) (h : J (α.W own) s.heap) : J (α.W own') s'.heap := by
  refine t.ok _ _ _ _ h (fun b o hb e => ?_) fun b hb => ?_
  · rcases hb with hb | hb
    · refine T.kf b o (fun hm' => hb ?_) e
      rcases List.mem_append.mp hm' with hm' | hm'
      · exact List.mem_append_left _ hm'
      · exact List.mem_append_right _ (List.mem_append_left _ hm')
    · obtain ⟨p, hp, rfl⟩ := List.mem_map.mp hb
      exact T.km p (t.inOwn S hp) (hm p hp) o e
  · rcases List.mem_append.mp hb with hb | hb
    · obtain ⟨p, hp, rfl⟩ := List.mem_map.mp hb
      rcases T.new p hp with h | h
      · exact .inl (List.mem_append_left _ (List.mem_map_of_mem h))
      · exact .inr h
    · exact .inl (List.mem_append_right _ hb)
theorem S1T.of (t : TJ tn J α) (hm : ∀ p ∈ tn, p.1 ∉ mods) {st : Stmt} (h : S1 α mods Γ Ω st P) : S1T tn J α mods Γ Ω st P := fun μ own s Q S hJ hQ =>
  h μ own s Q S fun f fl Γ' Ω' μ' own' s' S' T hf hP => hQ f fl Γ' Ω' μ' own' s' S' (T.wide fun x hx => List.mem_append_right _ hx) (t.turn S T hm hJ) hf hP
theorem SpT.of (t : TJ tn J α) (hm : ∀ p ∈ tn, p.1 ∉ mods) {ss : List Stmt} (h : Sp α mods Γ Ω ss P) : SpT tn J α mods Γ Ω ss P := fun μ own s Q S hJ hQ =>
  h μ own s Q S fun f fl Γ' Ω' μ' own' s' S' T hf hP => hQ f fl Γ' Ω' μ' own' s' S' (T.wide fun x hx => List.mem_append_right _ hx) (t.turn S T hm hJ) hf hP
noncomputable abbrev PThenT (tn : List (Str × Addr)) (J : List Addr → Heap → Prop) (α : Act M sc) (mods : List Str) (rest : List Stmt) (P : Pst) : Pst := fun fl Γ' Ω' => match fl with | .next => SpT tn J α mods Γ' Ω' rest P | fl => P fl Γ' Ω'
theorem SpT.nil {P : Pst} (h : P .next Γ Ω) : SpT tn J α mods Γ Ω [] P := fun μ own s Q S hJ hQ => wpAny_execs_nil (hQ .next .next _ _ _ _ s S (Tn.of_keeps (Kp.refl s)) hJ trivial h)
theorem SpT.cons {st : Stmt} {rest : List Stmt} {P : Pst} (h : S1T tn J α mods Γ Ω st (PThenT tn J α mods rest P)) : SpT tn J α mods Γ Ω (st :: rest) P := fun μ own s Q S hJ hQ => by
  refine wpAny_execs_cons (h μ own s _ S hJ fun f fl Γ' Ω' μ' own' s' S' T' hJ' hf hP => ?_)
  cases fl with
  | next =>
    cases f <;> first | exact hf.elim | skip
    exact hP μ' own' s' Q S' hJ' fun f2 fl2 Γ2 Ω2 μ2 own2 s2 S2 T2 hJ2 hf2 hP2 => hQ f2 fl2 Γ2 Ω2 μ2 own2 s2 S2 (Tn.trans S T' T2) hJ2 hf2 hP2
  | brk => cases f <;> first | exact hf.elim | exact hQ _ _ _ _ _ _ _ S' T' hJ' hf hP
  | cont => cases f <;> first | exact hf.elim | exact hQ _ _ _ _ _ _ _ S' T' hJ' hf hP
  | ret d => cases f <;> first | exact hf.elim | exact hQ _ _ _ _ _ _ _ S' T' hJ' hf hP
theorem SpT.consS (t : TJ tn J α) (hm : ∀ p ∈ tn, p.1 ∉ mods) {st : Stmt} {rest : List Stmt} {P : Pst} (h : S1 α mods Γ Ω st (PThenT tn J α mods rest P)) : SpT tn J α mods Γ Ω (st :: rest) P :=
  SpT.cons (S1T.of t hm h)
theorem S1T.mono {st : Stmt} {P P' : Pst} (h : S1T tn J α mods Γ Ω st P) (hp : ∀ fl Γ' Ω', P fl Γ' Ω' → P' fl Γ' Ω') : S1T tn J α mods Γ Ω st P' := fun μ own s Q S hJ hQ =>
  h μ own s Q S hJ fun f fl Γ' Ω' μ' own' s' S' T hJ' hf hP => hQ f fl Γ' Ω' μ' own' s' S' T hJ' hf (hp _ _ _ hP)
/-- a statement, then the rest by what holds behind it -/
theorem SpT.step {st : Stmt} {rest : List Stmt} (Fin : Gam → List Str → Prop) (h : S1T tn J α mods Γ Ω st (PFin Fin P)) (h' : ∀ Γ' Ω', Fin Γ' Ω' → SpT tn J α mods Γ' Ω' rest P) : SpT tn J α mods Γ Ω (st :: rest) P :=
  SpT.cons (S1T.mono h fun fl Γ' Ω' hP => by cases fl <;> first | exact h' _ _ hP | exact hP)
theorem tj0 : TJ [] (fun _ _ => True) α := ⟨fun _ _ _ _ _ _ _ => trivial, fun _ h => nomatch h⟩
theorem S1.ofT {st : Stmt} (h : S1T [] (fun _ _ => True) α mods Γ Ω st P) : S1 α mods Γ Ω st P := fun μ own s Q S hQ => h μ own s Q S trivial fun f fl Γ' Ω' μ' own' s' S' T _ hf hP => hQ f fl Γ' Ω' μ' own' s' S' T hf hP
theorem SpT.of0 {ss : List Stmt} (h : Sp α mods Γ Ω ss P) : SpT [] (fun _ _ => True) α mods Γ Ω ss P := SpT.of tj0 (fun _ h => nomatch h) h
end
end Mine

namespace Mine
variable {M : Amb} {sc : Scope} {α : Act M sc} {Γ : Gam} {Ω : List Str} {μ : Str → Option Value} {own : List (Str × Addr)} {s s' : Shared} {mods : List Str} {P : Pst} {tn : List (Str × Addr)} {J : List Addr → Heap → Prop}

noncomputable abbrev isVar (sc : Scope) (x : Str) : Prop := sc.names.lookup x = some .local ∨ sc.names.lookup x = some .cell

theorem S1.assign {x : Str} {px pos : Pos} {e : Expr} {d : D} (he : EvA α Γ e (true, d)) (hk : isVar sc x) (hx : x ∉ Ω) (h : P .next (Γ.set x (true, d)) Ω) (hdb : (x == ("__debug__" : Str)) = false := by decide)
    (hs : swapsWith e (some (.Name x px)) pos.line α.env = pure false := by rfl) : S1 α mods Γ Ω (.Assign [.Name x px] e pos) P := fun μ own s Q S hQ =>
  wpAny_Assign_Name (he own s _ S.cxI S.sees fun v s₁ k i => (S.keeps k).store i.infz hx hdb hk fun s₂ S₂ T₂ =>
    hQ .next .next _ _ _ _ s₂ S₂ (Tn.trans S (Tn.of_keeps k) T₂) trivial h) hs

theorem S1.ret {e : Expr} {pos : Pos} {d : D} (he : EvA α Γ e (true, d)) (h : P (.ret d) Γ Ω) : S1 α mods Γ Ω (.Return (some e) pos) P := fun μ own s Q S hQ =>
  wpAny_Return_some (he own s _ S.cxI S.sees fun v s₁ k i => hQ (.ret v) (.ret d) _ _ _ _ s₁ (S.keeps k) (Tn.of_keeps k) (by
    show In M.prog M.w _ d v
    refine i.infz.mono fun b o e => ?_
    have hb : b ∉ α.W own := fun hb => by have := hideAll_none _ (h := s₁.heap) hb; rw [show (α.cx own).W = α.W own from rfl] at e; rw [e] at this; cases this
    refine hideAll_get _ (of_hideAll _ e) fun hm => hb ?_
    rcases List.mem_append.mp hm with hm | hm
    · obtain ⟨more, hmore⟩ := S.lent
      rw [hmore, Act.W, List.map_append]
      exact List.mem_append_left _ (List.mem_append_right _ hm)
    · exact List.mem_append_right _ (List.mem_append_right _ hm)) h)

theorem S1.ife {t : Expr} {body els : List Stmt} {pos : Pos} {b : Bool} (ht : TrA α Γ t b) (h1 : b = true → Sp α mods Γ Ω body P) (h2 : b = false → Sp α mods Γ Ω els P) : S1 α mods Γ Ω (.If t body els pos) P := fun μ own s Q S hQ => by
  refine wpAny_If (ht own s _ S.cxI S.sees fun s₁ k => ?_)
  have T := Tn.of_keeps (α := α) (mods := mods) (own := own) k
  cases b with
  | true =>
    simp only [if_true]
    exact h1 rfl μ own s₁ Q (S.keeps k) fun f fl Γ' Ω' μ' own' s' S' T' hf hP => hQ f fl Γ' Ω' μ' own' s' S' (Tn.trans S T T') hf hP
  | false =>
    simp only [Bool.false_eq_true, if_false]
    exact h2 rfl μ own s₁ Q (S.keeps k) fun f fl Γ' Ω' μ' own' s' S' T' hf hP => hQ f fl Γ' Ω' μ' own' s' S' (Tn.trans S T T') hf hP

theorem S1.brk {pos : Pos} (h : P .brk Γ Ω) : S1 α mods Γ Ω (.Break pos) P := fun μ own s Q S hQ => by
  rw [arm_exec_Break]
  exact wpAny_bind (wpAny_standAt (wpAny_pure (hQ .brk .brk _ _ _ _ s S (Tn.of_keeps (Kp.refl s)) trivial h)))
theorem S1.cont {pos : Pos} (h : P .cont Γ Ω) : S1 α mods Γ Ω (.Continue pos) P := fun μ own s Q S hQ => by
  rw [arm_exec_Continue]
  exact wpAny_bind (wpAny_standAt (wpAny_pure (hQ .cont .cont _ _ _ _ s S (Tn.of_keeps (Kp.refl s)) trivial h)))

theorem S1T.while {tt : Expr} {body : List Stmt} {pos : Pos} (t : TJ tn J α) (JJ : Nat → Gam → List Str → Prop) (n : Nat) (h0 : JJ n Γ Ω)
    (turn : ∀ n Γ' Ω', JJ n Γ' Ω' → ∃ b, TrA α Γ' tt b ∧ (b = true → SpT tn J α mods Γ' Ω' body (PLoop JJ n P)) ∧ (b = false → P .next Γ' Ω')) :
    S1T tn J α mods Γ Ω (.While tt body [] pos) P := fun μ own s Q S hJ₀ hQ => by
  refine wpAny_While (codeAny_whileLoop (fun n s' => ∃ Γ' Ω' μ' own', St α Γ' Ω' μ' own' s' ∧ Tn α (tn.map (·.1) ++ mods) own own' s s' ∧ J (α.W own') s'.heap ∧ JJ n Γ' Ω') ?_ n ⟨Γ, Ω, μ, own, S, Tn.of_keeps (Kp.refl s), hJ₀, h0⟩)
  rintro n s' ⟨Γ', Ω', μ', own', S', T', hJt, hJ⟩
  obtain ⟨b, ht, h1, h2⟩ := turn n Γ' Ω' hJ
  refine wpAny_mono (ht own' s' _ S'.cxI S'.sees fun s₁ k => ?_) (fun _ _ x => x) fun _ _ x => x.elim
  have T₁ := Tn.trans S T' (Tn.of_keeps (α := α) (mods := tn.map (·.1) ++ mods) (own := own') k)
  have hJk := t.keeps k hJt
  cases b with
  | false =>
    simp only [Bool.false_eq_true, if_false]
    exact wpAny_execs_nil (hQ .next .next _ _ _ _ s₁ (S'.keeps k) T₁ hJk trivial (h2 rfl))
  | true =>
    simp only [if_true]
    refine wpAny_mono (h1 rfl μ' own' s₁ _ (S'.keeps k) hJk fun f fl Γ'' Ω'' μ'' own'' s'' S'' T'' hJ'' hf hP => ?_) (fun _ _ x => x) fun _ _ x => x.elim
    have T₂ := Tn.trans S T₁ T''
    cases fl with
    | next => cases f <;> first | exact hf.elim | (obtain ⟨m, hm, hJ'⟩ := hP; exact ⟨m, hm, Γ'', Ω'', μ'', own'', S'', T₂, hJ'', hJ'⟩)
    | cont => cases f <;> first | exact hf.elim | (obtain ⟨m, hm, hJ'⟩ := hP; exact ⟨m, hm, Γ'', Ω'', μ'', own'', S'', T₂, hJ'', hJ'⟩)
    | brk => cases f <;> first | exact hf.elim | exact hQ .next .next _ _ _ _ _ S'' T₂ hJ'' trivial hP
    | ret d => cases f <;> first | exact hf.elim | exact hQ _ (.ret d) _ _ _ _ _ S'' T₂ hJ'' hf hP
theorem S1.while {t : Expr} {body : List Stmt} {pos : Pos} (J : Nat → Gam → List Str → Prop) (n : Nat) (h0 : J n Γ Ω)
    (turn : ∀ n Γ' Ω', J n Γ' Ω' → ∃ b, TrA α Γ' t b ∧ (b = true → Sp α mods Γ' Ω' body (PLoop J n P)) ∧ (b = false → P .next Γ' Ω')) :
    S1 α mods Γ Ω (.While t body [] pos) P := S1.ofT (S1T.while tj0 J n h0 fun n Γ' Ω' h =>
  let ⟨b, h1, h2, h3⟩ := turn n Γ' Ω' h
  ⟨b, h1, fun hb => SpT.of0 (h2 hb), h3⟩)

end Mine

namespace Mine
variable {M : Amb} {sc : Scope} {α : Act M sc} {Γ : Gam} {Ω : List Str} {μ : Str → Option Value} {own : List (Str × Addr)} {s s' : Shared} {mods : List Str} {P : Pst}

theorem St.nameAt (S : St α Γ Ω μ own s) {x : Str} {r : Bool × D} {v : Value} {pos : Pos} {Q : Value → Shared → Prop} (hx : Γ x = some r) (hv : μ x = some v) (hQ : Q v s) : wpAny (model M.prog M.w) α.A (eval (.Name x pos) α.env) Q NoE s := by
  obtain ⟨⟨hdb, hk⟩, v', hv', hi⟩ := S.vars x r hx
  rw [hv] at hv'; cases hv'
  have F := S.fr
  refine wpAny_Name ?_ hdb
  have hkf : α.env.scope.kind = .function := by rw [α.hsc]; exact α.hke
  rcases hk with hk | hk
  · obtain ⟨m, f, e⟩ := F.m
    exact wpAny_loadName_local hkf (by show α.env.scope.names.lookup x = _; rw [α.hsc]; exact hk) f.ns ((e x hk).trans hv) hQ
  · obtain ⟨c, h1, h2⟩ := F.c x hk
    rw [hv] at h2
    exact wpAny_loadName_cell hkf (by show α.env.scope.names.lookup x = _; rw [α.hsc]; exact hk) h1 h2 hQ

theorem St.ownAt (S : St α Γ Ω μ own s) {x : Str} {d : D} (hx : Γ x = some (false, d)) (ho : x ∈ Ω) : ∃ a, μ x = some (.ref a) ∧ (x, a) ∈ own ∧ InR M.prog M.w s.heap (Fz (α.W own) s.heap) d (.ref a) := by
  obtain ⟨_, v, hv, hi⟩ := S.vars x _ hx
  unfold VarOk at hi
  rw [if_neg (by simp), if_pos ho] at hi
  obtain ⟨a, rfl, h2, h3⟩ := hi
  exact ⟨a, hv, h2, h3⟩

/-- an own object is turned -/
theorem St.turnE (S : St α Γ Ω μ own s) {x : Str} {d d' : D} {a : Addr} {h' : Heap} (t : Nat) (hx : Γ x = some (false, d)) (ho : x ∈ Ω) (hv : μ x = some (.ref a)) (ha : (x, a) ∈ own) (hs : ∀ b o, b ≠ a → s.heap.get? b = some o → h'.get? b = some o) (hi : InR M.prog M.w h' (Fz (α.W own) h') d' (.ref a)) (hal : ∃ o, h'.get? a = some o) (hm : x ∈ mods) :
    St α (Γ.set x (false, d')) Ω μ own { s with heap := h', toks := t } ∧ Tn α mods own own s { s with heap := h', toks := t } := by
  have haO : a ∈ own.map (·.2) := List.mem_map_of_mem ha
  have haW : a ∈ α.W own := List.mem_append_left _ haO
  have kF := fz_ext haW hs
  have nd1 : (own.map (·.2)).Nodup := (List.nodup_append.mp S.nd).1
  have ha0 := S.ownN _ ha
  have haL : a ≠ α.env.locals := S.disj haO (List.mem_append_left _ α.L_mem)
  refine ⟨⟨S.names, S.nd, ⟨?_, fun y hy => ?_⟩, S.ownN, S.lent, fun b hb => ?_, fun y r e => ?_⟩, Tn.of_but (List.mem_append_left _ haO) hal hs fun p hp hn q => ?_⟩
  · obtain ⟨m, f, e⟩ := S.fr.m
    exact ⟨m, ⟨f.ns.extBut hs haL.symm, fun b o eb => hs b o (fun q => by rw [q, ha0] at eb; cases eb) (f.keep b o eb), f.above⟩, e⟩
  · obtain ⟨c, h1, o, h2, h3⟩ := S.fr.c y hy
    have hne : c ≠ a := fun q => S.disj haO (List.mem_append_left _ (Act.c_mem h1)) q.symm
    exact ⟨c, h1, o, hs _ _ hne h2, h3⟩
  · by_cases hba : b = a
    · rw [hba]; exact hal
    · exact (S.low b hb).imp fun o e => hs b o hba e
  · by_cases hy : y = x
    · subst hy
      rw [Gam.set, if_pos rfl] at e
      cases e
      obtain ⟨h1, _⟩ := S.vars y _ hx
      exact ⟨h1, _, hv, by unfold VarOk; rw [if_neg (by simp), if_pos ho]; exact ⟨a, rfl, ha, hi⟩⟩
    · rw [Gam.set, if_neg hy] at e
      obtain ⟨h1, u, h2, h3⟩ := S.vars y r e
      refine ⟨h1, u, h2, ?_⟩
      unfold VarOk at h3 ⊢
      split at h3
      · rename_i q; rw [if_pos q]; exact h3.mono kF
      · rename_i q
        rw [if_neg q]
        split at h3
        · rename_i q2
          rw [if_pos q2]
          obtain ⟨b, rfl, h5, h6⟩ := h3
          refine ⟨b, rfl, h5, ?_⟩
          have hne : b ≠ a := fun q => hy (congrArg Prod.fst (inj_of_nodup (·.2) nd1 h5 ha q))
          obtain ⟨rb, d⟩ := r
          dsimp only at h6 ⊢
          cases d with
          | lst ds => obtain ⟨a', vs, n, e, g, rr⟩ := h6; cases e; exact ⟨_, vs, n, rfl, hs _ _ hne g, rr.mono kF⟩
          | dct kvs => obtain ⟨a', o, kv, e, g, q1, q2, rr⟩ := h6; cases e; exact ⟨_, o, kv, rfl, hs _ _ hne g, q1, q2, rr.mono kF⟩
          | none => exact In.mono kF h6
          | bool b => exact In.mono kF h6
          | int i => exact In.mono kF h6
          | tup ds => exact In.mono kF h6
          | val u => exact In.mono kF h6
          | obj u os => exact In.mono kF h6
        · rename_i q2
          rw [if_neg q2]
          exact h3.mono (fun _ _ e => e) kF
  · exact hn ((congrArg Prod.fst (inj_of_nodup (·.2) nd1 hp ha q)).symm ▸ hm)

theorem St.turn (S : St α Γ Ω μ own s) {x : Str} {d d' : D} {a : Addr} {h' : Heap} (t : Nat) (hx : Γ x = some (false, d)) (ho : x ∈ Ω) (hv : μ x = some (.ref a)) (ha : (x, a) ∈ own) (hs : Heap.SameBut a s.heap h') (hi : InR M.prog M.w h' (Fz (α.W own) h') d' (.ref a)) (hal : ∃ o, h'.get? a = some o) (hm : x ∈ mods) :
    St α (Γ.set x (false, d')) Ω μ own { s with heap := h', toks := t } ∧ Tn α mods own own s { s with heap := h', toks := t } := S.turnE t hx ho hv ha hs.extBut hi hal hm

theorem act_quiet : interactive α.env = false := by
  unfold interactive
  rw [α.hsc, α.hke]; rfl

theorem lobj_push (vs : List Value) (v : Value) (n : Nat) : ({ cls := .type "list", data := .seq (vs.toArray.push v) n } : Obj) = lobj (vs ++ [v]) n := by
  show _ = ({ cls := .type "list", data := .seq (vs ++ [v]).toArray n } : Obj)
  rw [List.push_toArray]

theorem InR.lst {h F : Heap} {a : Addr} {vs : List Value} {n : Nat} {ds : List D} (g : h.get? a = some (lobj vs n)) (r : InL M.prog M.w F ds vs) : InR M.prog M.w h F (.lst ds) (.ref a) := ⟨a, vs, n, rfl, g, r⟩

/-- x.append(e) -/
theorem S1.append {x : Str} {px apos cpos pos : Pos} {e : Expr} {ds : List D} {d : D} (hx : Γ x = some (false, .lst ds)) (ho : x ∈ Ω) (hm : x ∈ mods) (he : EvA α Γ e (true, d)) (hz : ds.length ≤ sizeLine) (h : P .next (Γ.set x (false, .lst (ds ++ [d]))) Ω)
    (hline : (apos.endLine == cpos.line) = true := by rfl) (htrees : backTo cpos (starEach [e] α.env) = [(false, eval e α.env)] := by rfl) (hsw : swapsWith (.Call (.Attribute (.Name x px) (Str.ofString "append") apos) [e] [] cpos) none pos.line α.env = pure false := by rfl) :
    S1 α mods Γ Ω (.Expr (.Call (.Attribute (.Name x px) (Str.ofString "append") apos) [e] [] cpos) pos) P := fun μ own s Q S hQ => by
  obtain ⟨a, hv, ha, hi⟩ := S.ownAt hx ho
  obtain ⟨a', vs, n, ea, g, r⟩ := hi
  cases ea
  refine wpAny_Expr_any (wpAny_Call_method1_late rfl hline htrees (S.nameAt hx hv ?_)) act_quiet hsw
  refine ⟨"list", "list.append", PySem.F.plainAttrs_list, PySem.F.slot_list_append, PySem.F.type_list_append, ⟨_, g, rfl⟩, (fun b e => by cases e; exact ⟨_, g, rfl⟩), _root_.PySem.P.append_list (he own s _ S.cxI S.sees fun v s₁ k i => ?_)⟩
  have S₁ := S.keeps k
  have g₁ := Kp.ks k _ _ g
  refine ⟨vs.toArray, n, by rw [List.size_toArray, r.length]; exact hz, g₁, ?_⟩
  have g₂ := PySem.IsL.update (show PySem.IsL s₁.heap a vs.toArray n from g₁) (fun xs => xs.push v)
  rw [if_neg (by simp)] at g₂
  have hs : Heap.SameBut a s₁.heap (s₁.heap.update a (Obj.mapSeq fun xs => xs.push v)) := Heap.SameBut.update ..
  have haW : a ∈ α.W own := List.mem_append_left _ (List.mem_map_of_mem ha)
  have kF := fz_but haW hs
  obtain ⟨S₂, T₂⟩ := S₁.turn (mods := mods) (d' := .lst (ds ++ [d])) s₁.toks hx ho hv ha hs (InR.lst (g₂.trans (congrArg some (lobj_push vs v (n + 1)))) (((r.mono (fz_ks (Kp.ks k))).mono kF).append (InL.cons (i.infz.mono kF) InL.nil))) ⟨_, g₂⟩ hm
  exact hQ .next .next _ _ _ _ _ S₂ (Tn.trans S (Tn.of_keeps k) T₂) trivial h

theorem lobj_update {h : Heap} {a : Addr} {vs us : List Value} {n : Nat} (g : h.get? a = some (lobj vs n)) (f : Array Value → Array Value) (e : f vs.toArray = us.toArray) : ∃ n', (h.update a (Obj.mapSeq f)).get? a = some (lobj us n') := by
  have g₂ := PySem.IsL.update (show PySem.IsL h a vs.toArray n from g) f
  exact ⟨_, g₂.trans (congrArg some (by rw [e]))⟩

/-- x[i] = e, x a list -/
theorem S1.setAt {x : Str} {px spos pos : Pos} {i e : Expr} {ds : List D} {d : D} {k : Int} {b : Bool} (hx : Γ x = some (false, .lst ds)) (ho : x ∈ Ω) (hm : x ∈ mods) (he : EvA α Γ e (true, d)) (hi : EvA α Γ i (b, .int k)) (h0 : 0 ≤ k) (hk : k < ds.length) (hz : ds.length ≤ 2 ^ 40)
    (h : P .next (Γ.set x (false, .lst (ds.set k.toNat d))) Ω) (hsw : swapsWith e (some (.Subscript (.Name x px) i spos)) pos.line α.env = pure false := by rfl) :
    S1 α mods Γ Ω (.Assign [.Subscript (.Name x px) i spos] e pos) P := fun μ own s Q S hQ => by
  obtain ⟨a, hv, ha, hR⟩ := S.ownAt hx ho
  obtain ⟨a', vs, n, ea, g, r⟩ := hR
  cases ea
  refine wpAny_Assign_Subscript (he own s _ S.cxI S.sees fun v s₁ k₁ i₁ => (S.keeps k₁).nameAt hx hv (hi own s₁ _ (S.keeps k₁).cxI (S.keeps k₁).sees fun iv s₂ k₂ i₂ => ?_)) hsw
  obtain ⟨t, rfl⟩ := i₂.int
  have kk := Kp.trans k₁ k₂
  have S₂ := S.keeps kk
  have g₂ := Kp.ks kk _ _ g
  have hs : Heap.SameBut a s₂.heap (s₂.heap.update a (Obj.mapSeq (·.setIfInBounds k.toNat v))) := Heap.SameBut.update ..
  refine ki_setAt g₂ h0 (by omega) (by rw [List.size_toArray, r.length]; exact hk) ?_
  have haW : a ∈ α.W own := List.mem_append_left _ (List.mem_map_of_mem ha)
  have kF := fz_but haW hs
  obtain ⟨n', g₃⟩ := lobj_update (us := vs.set k.toNat v) g₂ (·.setIfInBounds k.toNat v) (by apply Array.toList_inj.mp; simp)
  obtain ⟨S₃, T₃⟩ := S₂.turn (mods := mods) (d' := .lst (ds.set k.toNat d)) s₂.toks hx ho hv ha hs (InR.lst g₃ (((r.mono (fz_ks (Kp.ks kk))).mono kF).set ((i₁.infz.mono (fz_ks (Kp.ks k₂))).mono kF))) ⟨_, g₃⟩ hm
  exact hQ .next .next _ _ _ _ _ S₃ (Tn.trans S (Tn.of_keeps kk) T₃) trivial h

/-- x.insert(i, e) -/
theorem S1.insert {x : Str} {px apos cpos pos : Pos} {i e : Expr} {ds : List D} {d : D} {k : Int} {b : Bool} (hx : Γ x = some (false, .lst ds)) (ho : x ∈ Ω) (hm : x ∈ mods) (hi : EvA α Γ i (b, .int k)) (he : EvA α Γ e (true, d)) (h0 : 0 ≤ k) (hk : k ≤ ds.length) (hz : ds.length ≤ sizeLine)
    (h : P .next (Γ.set x (false, .lst (ds.take k.toNat ++ d :: ds.drop k.toNat))) Ω)
    (hline : (apos.endLine == cpos.line) = true := by rfl) (htrees : backTo cpos (starEach [i, e] α.env) = [(false, eval i α.env), (false, eval e α.env)] := by rfl) (hsw : swapsWith (.Call (.Attribute (.Name x px) (Str.ofString "insert") apos) [i, e] [] cpos) none pos.line α.env = pure false := by rfl) :
    S1 α mods Γ Ω (.Expr (.Call (.Attribute (.Name x px) (Str.ofString "insert") apos) [i, e] [] cpos) pos) P := fun μ own s Q S hQ => by
  obtain ⟨a, hv, ha, hR⟩ := S.ownAt hx ho
  obtain ⟨a', vs, n, ea, g, r⟩ := hR
  cases ea
  refine wpAny_Expr_any (wpAny_Call_method2_late rfl hline htrees (S.nameAt hx hv ?_)) act_quiet hsw
  refine ⟨"list", "list.insert", PySem.F.plainAttrs_list, PySem.F.slot_list_insert, PySem.F.type_list_insert, ⟨_, g, rfl⟩, (fun b e => by cases e; exact ⟨_, g, rfl⟩), callWith_builtin rfl (evalArgs_plain (spliced_cons (hi own s _ S.cxI S.sees fun iv s₁ k₁ i₁ => spliced_cons (he own s₁ _ (S.keeps k₁).cxI (S.keeps k₁).sees fun v s₂ k₂ i₂ => spliced_nil ?_))))⟩
  obtain ⟨t, rfl⟩ := i₁.int
  have kk := Kp.trans k₁ k₂
  have S₂ := S.keeps kk
  have g₂ := Kp.ks kk _ _ g
  have hl := r.length
  have hsz : sizeLine = 2 ^ 24 := rfl
  have hf : Builtin.List.listFitsIndex k = true := by
    unfold Builtin.List.listFitsIndex
    simp only [Bool.and_eq_true, decide_eq_true_eq]
    omega
  refine call_meets PySem.F.slot_list_insert ⟨_, g₂, rfl⟩ PySem.F.entry_list_insert (PySem.F.args_list_insert_3 _ _ _) (PySem.AutoSeq1.list_insert_list_int_val_1 a _ n k t v (by simp [hf]) (by rw [List.size_toArray, hl]; exact hz)) ⟨g₂, ?_⟩
  have hs : Heap.SameBut a s₂.heap (s₂.heap.update a (Obj.mapSeq fun xs => have k' := if k < 0 then (k + (xs.size : Int)).toNat else min k.toNat xs.size; (xs.extract 0 k').push v ++ xs.extract k')) := Heap.SameBut.update ..
  have haW : a ∈ α.W own := List.mem_append_left _ (List.mem_map_of_mem ha)
  have kF := fz_but haW hs
  obtain ⟨n', g₃⟩ := lobj_update (us := vs.take k.toNat ++ v :: vs.drop k.toNat) g₂ (fun xs => have k' := if k < 0 then (k + (xs.size : Int)).toNat else min k.toNat xs.size; (xs.extract 0 k').push v ++ xs.extract k') (by
    show (vs.toArray.extract 0 (if k < 0 then (k + (vs.toArray.size : Int)).toNat else min k.toNat vs.toArray.size)).push v ++ vs.toArray.extract (if k < 0 then (k + (vs.toArray.size : Int)).toNat else min k.toNat vs.toArray.size) = _
    rw [if_neg (by omega), List.size_toArray, Nat.min_eq_left (by omega)]
    exact kl_ins_eq vs k.toNat v)
  have r₃ := (r.mono (fz_ks (Kp.ks kk))).mono kF
  obtain ⟨S₃, T₃⟩ := S₂.turn (mods := mods) (d' := .lst (ds.take k.toNat ++ d :: ds.drop k.toNat)) s₂.toks hx ho hv ha hs (InR.lst g₃ ((r₃.take k.toNat).append (InL.cons (i₂.infz.mono kF) (r₃.drop k.toNat)))) ⟨_, g₃⟩ hm
  exact hQ .next .next _ _ _ _ _ S₃ (Tn.trans S (Tn.of_keeps kk) T₃) trivial h

noncomputable def stor (kvs : List (Int × D)) (k : Int) (d : D) : List (Int × D) := if kvs.any (fun e => e.1 = k) then kvs.map (fun e => if e.1 = k then (e.1, d) else e) else kvs ++ [(k, d)]
theorem InK.repl {prog : Program} {w : World} {h : Heap} {k : Int} {d : D} {v : Value} (hd : In prog w h d v) : ∀ {ds : List (Int × D)} {kv : List (Int × Value)}, InK prog w h ds kv → InK prog w h (ds.map (fun e => if e.1 = k then (e.1, d) else e)) (kv.map (fun e => if e.1 = k then (e.1, v) else e))
  | [], kv, x => by rw [InK.nil_iff.mp x]; exact InK.nil_iff.mpr rfl
  | (j, c) :: ds, kv, x => by
    obtain ⟨u, r, rfl, i, l⟩ := InK.cons_iff.mp x
    rw [List.map_cons, List.map_cons]
    by_cases hj : j = k
    · simp only [hj, if_true]
      exact InK.cons_iff.mpr ⟨v, _, rfl, hd, InK.repl hd l⟩
    · simp only [hj, if_false]
      exact InK.cons_iff.mpr ⟨u, _, rfl, i, InK.repl hd l⟩
theorem InK.anyKey {prog : Program} {w : World} {h : Heap} {k : Int} : ∀ {ds : List (Int × D)} {kv : List (Int × Value)}, InK prog w h ds kv → kv.any (fun e => e.1 = k) = ds.any (fun e => e.1 = k)
  | [], kv, x => by rw [InK.nil_iff.mp x]; rfl
  | (j, c) :: ds, kv, x => by
    obtain ⟨u, r, rfl, i, l⟩ := InK.cons_iff.mp x
    rw [List.any_cons, List.any_cons, InK.anyKey l]
theorem InK.stor {prog : Program} {w : World} {h : Heap} {k : Int} {d : D} {v : Value} {ds : List (Int × D)} {kv : List (Int × Value)} (x : InK prog w h ds kv) (hd : In prog w h d v) : InK prog w h (stor ds k d) (stored kv k v) := by
  unfold Mine.stor stored
  rw [x.anyKey]
  split
  · exact InK.repl hd x
  · exact x.append (InK.cons_iff.mpr ⟨v, [], rfl, hd, InK.nil_iff.mpr rfl⟩)

theorem InR.dct {h F : Heap} {a : Addr} {o : Obj} {kv : List (Int × Value)} {ds : List (Int × D)} (g : h.get? a = some o) (q : o.IsDictOf (intKind M.prog M.w) kv) (hs : (a == sysModules) = false) (r : InK M.prog M.w F ds kv) : InR M.prog M.w h F (.dct ds) (.ref a) := ⟨a, o, kv, rfl, g, q, hs, r⟩

/-- x[i] = e, x a dict -/
theorem S1.setKey {x : Str} {px spos pos : Pos} {i e : Expr} {kvs : List (Int × D)} {d : D} {k : Int} {b : Bool} (hx : Γ x = some (false, .dct kvs)) (ho : x ∈ Ω) (hm : x ∈ mods) (he : EvA α Γ e (true, d)) (hi : EvA α Γ i (b, .int k)) (hz : kvs.length ≤ sizeLine)
    (h : P .next (Γ.set x (false, .dct (stor kvs k d))) Ω) (hsw : swapsWith e (some (.Subscript (.Name x px) i spos)) pos.line α.env = pure false := by rfl) :
    S1 α mods Γ Ω (.Assign [.Subscript (.Name x px) i spos] e pos) P := fun μ own s Q S hQ => by
  obtain ⟨a, hv, ha, hR⟩ := S.ownAt hx ho
  obtain ⟨a', o, kv, ea, g, q, hsy, r⟩ := hR
  cases ea
  refine wpAny_Assign_Subscript (he own s _ S.cxI S.sees fun v s₁ k₁ i₁ => (S.keeps k₁).nameAt hx hv (hi own s₁ _ (S.keeps k₁).cxI (S.keeps k₁).sees fun iv s₂ k₂ i₂ => ?_)) hsw
  obtain ⟨t, rfl⟩ := i₂.int
  have kk := Kp.trans k₁ k₂
  have S₂ := S.keeps kk
  have g₂ := Kp.ks kk _ _ g
  refine wpAny_setItem_pairs (intKind_is _ _ k t) (dictOf_of g₂ q) (fun h' hD' hs => ?_) (by rw [r.length]; exact hz)
  obtain ⟨o', g₃, q'⟩ := Heap.dictOf_iff.mp hD'
  have haW : a ∈ α.W own := List.mem_append_left _ (List.mem_map_of_mem ha)
  have kF := fz_but haW hs
  obtain ⟨S₃, T₃⟩ := S₂.turn (mods := mods) (d' := .dct (stor kvs k d)) (s₂.toks + 1) hx ho hv ha hs (InR.dct g₃ q' hsy (((r.mono (fz_ks (Kp.ks kk))).mono kF).stor ((i₁.infz.mono (fz_ks (Kp.ks k₂))).mono kF))) ⟨_, g₃⟩ hm
  exact hQ .next .next _ _ _ _ _ S₃ (Tn.trans S (Tn.of_keeps kk) T₃) trivial h

theorem InL.concat {prog : Program} {w : World} {h : Heap} {ds : List D} {d : D} {vs : List Value} (x : InL prog w h (ds ++ [d]) vs) : ∃ us v, vs = us ++ [v] ∧ InL prog w h ds us ∧ In prog w h d v := by
  obtain ⟨v1, v2, rfl, a, b⟩ := InL.split x
  obtain ⟨v, r, rfl, i, l⟩ := InL.cons_iff.mp b
  rw [InL.nil_iff.mp l]
  exact ⟨v1, v, rfl, a, i⟩

/-- what x.pop() does -/
theorem St.pop (S : St α Γ Ω μ own s) {x : Str} {px apos cpos : Pos} {ds : List D} {d : D} {Q : Value → Shared → Prop} (hx : Γ x = some (false, .lst (ds ++ [d]))) (ho : x ∈ Ω) (hm : x ∈ mods) (hz : ds.length < sizeLine)
    (hQ : ∀ v s', St α (Γ.set x (false, .lst ds)) Ω μ own s' → Tn α mods own own s s' → In M.prog M.w (Fz (α.W own) s'.heap) d v → Q v s')
    (hline : (apos.endLine == cpos.line) = true := by rfl) : wpAny (model M.prog M.w) α.A (eval (.Call (.Attribute (.Name x px) (Str.ofString "pop") apos) [] [] cpos) α.env) Q NoE s := by
  obtain ⟨a, hv, ha, hR⟩ := S.ownAt hx ho
  obtain ⟨a', vs, n, ea, g, r⟩ := hR
  cases ea
  obtain ⟨us, v, rfl, ru, iv⟩ := r.concat
  refine wpAny_Call_method0_late rfl hline (S.nameAt hx hv ?_)
  have hk : (us ++ [v]).toArray.size - 1 = us.length := by rw [List.size_toArray, List.length_append]; rfl
  have hy : (us ++ [v]).toArray[(us ++ [v]).toArray.size - 1]? = some v := by rw [hk]; simp
  refine ⟨"list", "list.pop", PySem.F.plainAttrs_list, PySem.F.slot_list_pop, PySem.F.type_list_pop, ⟨_, g, rfl⟩, (fun b e => by cases e; exact ⟨_, g, rfl⟩), _root_.PySem.P.pop_list (show PySem.IsL s.heap a (us ++ [v]).toArray n from g) hy ?_ (by rw [List.size_toArray, List.length_append, ru.length]; exact Nat.succ_le_of_lt hz)⟩
  have hs : Heap.SameBut a s.heap (s.heap.update a (Obj.mapSeq fun xs => xs.eraseIdxIfInBounds ((us ++ [v]).toArray.size - 1))) := Heap.SameBut.update ..
  have haW : a ∈ α.W own := List.mem_append_left _ (List.mem_map_of_mem ha)
  have kF := fz_but haW hs
  obtain ⟨n', g₃⟩ := lobj_update (us := us) g (fun xs => xs.eraseIdxIfInBounds ((us ++ [v]).toArray.size - 1)) (by
    show (us ++ [v]).toArray.eraseIdxIfInBounds ((us ++ [v]).toArray.size - 1) = us.toArray
    rw [hk]
    have := kl_erase us [] v
    rwa [List.append_nil] at this)
  obtain ⟨S₃, T₃⟩ := S.turn (mods := mods) (d' := .lst ds) s.toks hx ho hv ha hs (InR.lst g₃ (ru.mono kF)) ⟨_, g₃⟩ hm
  exact hQ v _ S₃ T₃ (iv.mono kF)

theorem Gam.set_ne {x y : Str} {r : Bool × D} (h : y ≠ x) : (Γ.set x r) y = Γ y := if_neg h
theorem Gam.set_eq {x : Str} {r : Bool × D} : (Γ.set x r) x = some r := if_pos rfl

/-- y = x.pop() -/
theorem S1.assignPop {x y : Str} {px py apos cpos pos : Pos} {ds : List D} {d : D} (hx : Γ x = some (false, .lst (ds ++ [d]))) (ho : x ∈ Ω) (hm : x ∈ mods) (hz : ds.length < sizeLine) (hk : isVar sc y) (hy : y ∉ Ω)
    (h : P .next ((Γ.set x (false, .lst ds)).set y (true, d)) Ω) (hdb : (y == ("__debug__" : Str)) = false := by decide)
    (hline : (apos.endLine == cpos.line) = true := by rfl) (hs : swapsWith (.Call (.Attribute (.Name x px) (Str.ofString "pop") apos) [] [] cpos) (some (.Name y py)) pos.line α.env = pure false := by rfl) :
    S1 α mods Γ Ω (.Assign [.Name y py] (.Call (.Attribute (.Name x px) (Str.ofString "pop") apos) [] [] cpos) pos) P := fun μ own s Q S hQ =>
  wpAny_Assign_Name (S.pop (mods := mods) hx ho hm hz (fun v s₁ S₁ T₁ i₁ => S₁.store i₁ hy hdb hk fun s₂ S₂ T₂ => hQ .next .next _ _ _ _ s₂ S₂ (Tn.trans S T₁ T₂) trivial h) hline) hs
end Mine

namespace Mine
variable {M : Amb} {sc : Scope} {α : Act M sc} {Γ : Gam} {Ω : List Str} {μ : Str → Option Value} {own : List (Str × Addr)} {s s' : Shared} {mods : List Str} {P : Pst}

/-- the arguments at their names -/
inductive BindsIn (R : Str → (Bool × D) → Value → Prop) : List (Str × Value) → List (Str × (Bool × D)) → Prop
  | nil : BindsIn R [] []
  | cons {x : Str} {v : Value} {r : Bool × D} {bs : List (Str × Value)} {rs : List (Str × (Bool × D))} : R x r v → BindsIn R bs rs → BindsIn R ((x, v) :: bs) ((x, r) :: rs)
theorem BindsIn.append {R : Str → (Bool × D) → Value → Prop} {bs cs : List (Str × Value)} {rs ts : List (Str × (Bool × D))} (h : BindsIn R bs rs) (h' : BindsIn R cs ts) : BindsIn R (bs ++ cs) (rs ++ ts) := by
  induction h with
  | nil => exact h'
  | cons a _ ih => exact .cons a ih
theorem BindsIn.reverse {R : Str → (Bool × D) → Value → Prop} {bs : List (Str × Value)} {rs : List (Str × (Bool × D))} (h : BindsIn R bs rs) : BindsIn R bs.reverse rs.reverse := by
  induction h with
  | nil => exact .nil
  | cons a _ ih => rw [List.reverse_cons, List.reverse_cons]; exact ih.append (.cons a .nil)
theorem BindsIn.lookup {R : Str → (Bool × D) → Value → Prop} {bs : List (Str × Value)} {rs : List (Str × (Bool × D))} (h : BindsIn R bs rs) {x : Str} {r : Bool × D} (e : rs.lookup x = some r) : ∃ v, bs.lookup x = some v ∧ R x r v := by
  induction h with
  | nil => simp at e
  | @cons y v r' bs rs a _ ih =>
    rw [List.lookup_cons] at e ⊢
    cases hxy : x == y with
    | true => rw [hxy] at e; cases e; exact ⟨v, rfl, beq_iff_eq.mp hxy ▸ a⟩
    | false => rw [hxy] at e; exact ih e
theorem BindsIn.names {R : Str → (Bool × D) → Value → Prop} {bs : List (Str × Value)} {rs : List (Str × (Bool × D))} (h : BindsIn R bs rs) : bs.map (·.1) = rs.map (·.1) := by
  induction h with
  | nil => rfl
  | cons a _ ih => rw [List.map_cons, List.map_cons, ih]
noncomputable def argsG (rs : List (Str × (Bool × D))) : Gam := fun y => rs.reverse.lookup y

theorem mem_rev_lookup {β : Type} {x : Str} {r : β} {l : List (Str × β)} (e : l.reverse.lookup x = some r) : (x, r) ∈ l := List.mem_reverse.mp (lookup_mem e)

/-- a def's body, its arguments at their names, its own objects those lent -/
structure DefAt (M : Amb) (f : Addr) (name qual : Str) (params : Arguments) (body : List Stmt) (scope : Scope) (dV kV doc pm cdv ct oc : Value) (an od : Option Addr) (osl : Array (Option Value)) : Prop where
  ho : M.K.lookup f = some ⟨oc, od, .func (fnOf name qual params body scope dV kV doc pm an cdv ct), osl⟩
  hcd : codeIn M.K cdv qual = true
  hco : scope.isCoroutine = false
  hgen : scope.isGenerator = false
  hk : scope.kind = .function

section
variable {f : Addr} {name qual : Str} {params : Arguments} {body : List Stmt} {scope : Scope} {dV kV doc pm cdv ct oc : Value} {an od : Option Addr} {osl : Array (Option Value)} {args : Args} {binds : List (Str × Value)}

theorem fz_sub {W W' : List Addr} {h h' : Heap} (hs : ∀ a ∈ W', a ∈ W) (k : ∀ b o, b ∉ W → h.get? b = some o → h'.get? b = some o) : Ks (Fz W h) (Fz W' h') := fun b o e => by
  have hb : b ∉ W := fun hb => by have := hideAll_none W (h := h) hb; rw [e] at this; cases this
  exact hideAll_get W' (k b o hb (of_hideAll W e)) fun hm => hb (hs b hm)

theorem enterJ (DA : DefAt M f name qual params body scope dV kV doc pm cdv ct oc an od osl) (hI : (α.cx own).I s) {R : Result → Shared → Prop} {n : Nat} (hlv : n < α.lv)
    (ll : List (Str × Addr)) (hll : ∀ p ∈ ll, p.2 ∈ own.map (·.2)) (hnd : (ll.map (·.2)).Nodup)
    (hbind : BindsTo s (fnOf name qual params body scope dV kV doc pm an cdv ct) args binds) (hcell : ∀ x ∈ scope.names, x.2 ≠ .cell)
    {rs : List (Str × (Bool × D))} (hloc : ∀ y ∈ rs, scope.names.lookup y.1 = some .local ∧ (y.1 == ("__debug__" : Str)) = false)
    (hargs : BindsIn (fun x r v => if r.1 = true then In M.prog M.w (Fz (α.W own) s.heap) r.2 v else if x ∈ ll.map (·.1) then ∃ a, v = .ref a ∧ (x, a) ∈ ll ∧ InR M.prog M.w s.heap (Fz (α.W own) s.heap) r.2 v else ll = [] ∧ InR M.prog M.w s.heap (Fz (α.W own) s.heap) r.2 v) binds rs)
    {P' : Pst} {mods' : List Str} {HP : Heap → Prop} (hb : ∀ β : Act M scope, β.lv = n → β.env.code = cdv → β.lent = ll → ∀ μ s₁ Q, St β (argsG rs) (ll.map (·.1)) μ ll s₁ → Ks s.heap s₁.heap → (∀ f fl Γ' Ω' μ' own' s', St β Γ' Ω' μ' own' s' → Tn β mods' ll own' s₁ s' → HP s'.heap → FlIs β s'.heap f fl → P' fl Γ' Ω' → Q f s') → wpAny (model M.prog M.w) β.A (execs body β.env) Q NoE s₁)
    (k : ∀ (fl : Fl) (v : Value) Γ' Ω' s', P' fl Γ' Ω' → HP s'.heap → (∀ b o, b ∉ ll.map (·.2) → s.heap.get? b = some o → s'.heap.get? b = some o) → (∃ h t, s' = { s with heap := h, toks := t }) → (∀ b o, s.heap.get? b = some o → ∃ o', s'.heap.get? b = some o') →
      (match fl with | .ret d => In M.prog M.w (Fz (α.W own) s'.heap) d v | _ => v = .none) →
      (Ω'.Nodup → ∀ p ∈ ll, ∀ d', Γ' p.1 = some (false, d') → InR M.prog M.w s'.heap (Fz (α.W own) s'.heap) d' (.ref p.2)) → R (.ok (.ret v)) s') :
    codeAny (model M.prog M.w) α.A (.call (.ref f) args) R s := by
  obtain ⟨⟨⟨μ, F⟩, hndW, hown0⟩, hlow⟩ := hI
  obtain ⟨m, f₀, hm⟩ := F.m
  have hke : α.env.scope.kind = .function := by rw [α.hsc]; exact α.hke
  -- the lent objects are the ledger
  let news : List (Addr × Obj) := ll.map fun p => (p.2, (s.heap.get? p.2).getD default)
  have hnews : news.map (·.1) = ll.map (·.2) := by simp [news]
  have hW : ∀ p ∈ ll, p.2 ∈ α.W own := fun p hp => List.mem_append_left _ (hll p hp)
  have N : News α.h₀ α.env.locals s.heap news := by
    intro q hq
    obtain ⟨p, hp, rfl⟩ := List.mem_map.mp hq
    obtain ⟨o, ho⟩ := hlow p.2 (hW p hp)
    refine ⟨by dsimp only; rw [ho]; rfl, ?_, ?_⟩
    · exact (List.nodup_append.mp hndW).2.2 _ (hll p hp) _ (List.mem_append_left _ α.L_mem)
    · obtain ⟨q, hq, e⟩ := List.mem_map.mp (hll p hp)
      show α.h₀.get? p.2 = none
      rw [← e]; exact hown0 q hq
  obtain ⟨FG, BG, st, lv⟩ := groundX (R := R) α.B f₀ N α.hA α.hf hke
  have hlim := α.T.nolimit.keeps f₀.keep
  refine codeAny_call_def (fd := fnX name qual params body scope [] dV kV doc pm an cdv ct) (body := body) (binds := binds) (by have := α.deep; omega) ((α.X.keeps f₀.keep) _ _ DA.ho) rfl hlim (codeRec_of (α.X.keeps f₀.keep) DA.hcd) rfl hbind hcell (fun x hx => ?_) (fun h₁ hns hk₁ => ?_) DA.hco DA.hgen DA.hk
  · have : x.1 ∈ rs.map (·.1) := by rw [← hargs.names]; exact List.mem_map_of_mem hx
    obtain ⟨y, hy, e⟩ := List.mem_map.mp this
    rw [← e]; exact (hloc y hy).1
  let W' : List Addr := (α.W own).filter fun a => decide (a ∉ ll.map (·.2))
  let g := hideAll s.heap (news.map (·.1))
  have hg : ∀ b o, b ∉ ll.map (·.2) → s.heap.get? b = some o → g.get? b = some o := fun b o hb e => hideAll_get _ e (by rw [hnews]; exact hb)
  have hgs : Ks g s.heap := fun b o e => of_hideAll _ e
  let env' : Env := envX qual scope s.heap.objs.size f cdv []
  have hL' : ∀ b o, s.heap.get? b = some o → b ≠ s.heap.objs.size := fun b o e => Nat.ne_of_lt (Heap.lt_size e)
  let β : Act M scope :=
    { A := α.A.deeper env', env := env', outer := α.env :: α.outer, A₀ := α.A, base := α.base, h₀ := g, W₀ := W', lent := ll, lv := n,
      B := BG, X := α.X.keeps st, T := α.T.keeps st,
      hA := by show (α.A.frames.map (env' :: ·)) = _; rw [α.hA]; rfl
      hf := rfl, hsc := rfl, hke := DA.hk, hg := rfl, hb := rfl, hh := α.hh
      room := by show α.A.units + 3 + 20 * n + 150 < cLine; have := α.room; omega
      deep := by show α.A.depth + 1 + n < recursionLimit; have := α.deep; omega
      cls := fun c hc => nomatch hc }
  have eqW : ∀ a, a ∈ α.W own → a ∈ ll.map (·.2) ++ W' := fun a ha => by
    by_cases h : a ∈ ll.map (·.2)
    · exact List.mem_append_left _ h
    · exact List.mem_append_right _ (List.mem_filter.mpr ⟨ha, by simpa using h⟩)
  have hWsub : ∀ a ∈ W', a ∈ α.W own := fun a ha => (List.mem_filter.mp ha).1
  have hns' : Fr g s.heap.objs.size h₁ (fun x => binds.reverse.lookup x) := ⟨hns, fun b o e => hk₁ b o (of_hideAll _ e), Nat.le_of_eq (hideAll_size _ _)⟩
  have offW : ∀ b o, s.heap.get? b = some o → b ∉ α.W own → b ∉ β.W ll := fun b o e hb hm => by
    rcases List.mem_append.mp hm with hm | hm
    · obtain ⟨p, hp, rfl⟩ := List.mem_map.mp hm; exact hb (hW p hp)
    · rcases List.mem_append.mp hm with hm | hm
      · rcases List.mem_cons.mp hm with hm | hm
        · exact hL' b o e hm
        · exact nomatch hm
      · exact hb (hWsub b hm)
  have offF : ∀ {b : Addr} {o : Obj}, (Fz (α.W own) s.heap).get? b = some o → b ∉ α.W own := fun {b o} e hb => by have := hideAll_none _ (h := s.heap) hb; rw [e] at this; cases this
  have inside : Ks (Fz (α.W own) s.heap) (Fz (β.W ll) h₁) := fun b o e => hideAll_get _ (hk₁ b o (fz_le b o e)) (offW b o (fz_le b o e) (offF e))
  have S₁ : St β (argsG rs) (ll.map (·.1)) (fun x => binds.reverse.lookup x) ll { s with heap := h₁, toks := s.toks + binds.length } := by
    refine ⟨rfl, ?_, ⟨⟨_, hns', fun _ _ => rfl⟩, fun x hx => absurd rfl (hcell _ (lookup_mem hx))⟩, fun p hp => hideAll_none _ (by rw [hnews]; exact List.mem_map_of_mem hp), ⟨[], rfl⟩, fun a ha => ?_, fun x r e => ?_⟩
    · refine List.nodup_append.mpr ⟨hnd, List.nodup_append.mpr ⟨by show [s.heap.objs.size].Nodup; simp, (hndW.filter _), fun a ha b hb e => ?_⟩, fun a ha b hb e => ?_⟩
      · have ha' : a = s.heap.objs.size := List.mem_singleton.mp ha
        obtain ⟨o, ho⟩ := hlow b (hWsub b hb)
        exact hL' b o ho (e ▸ ha')
      · subst e
        rcases List.mem_append.mp hb with hb | hb
        · have ha' : a = s.heap.objs.size := List.mem_singleton.mp hb
          obtain ⟨p, hp, e⟩ := List.mem_map.mp ha
          obtain ⟨o, ho⟩ := hlow p.2 (hW p hp)
          exact hL' _ o ho (e.trans ha')
        · have := (List.mem_filter.mp hb).2
          simp only [decide_eq_true_eq] at this
          exact this ha
    · rcases List.mem_append.mp ha with ha | ha
      · obtain ⟨p, hp, rfl⟩ := List.mem_map.mp ha
        obtain ⟨o, ho⟩ := hlow p.2 (hW p hp)
        exact ⟨o, hk₁ _ _ ho⟩
      · rcases List.mem_append.mp ha with ha | ha
        · have ha' : a = s.heap.objs.size := List.mem_singleton.mp ha
          obtain ⟨o, _, _, ho, _⟩ := hns
          exact ⟨o, ha' ▸ ho⟩
        · obtain ⟨o, ho⟩ := hlow a (hWsub a ha)
          exact ⟨o, hk₁ _ _ ho⟩
    · obtain ⟨v, hv, hr⟩ := hargs.reverse.lookup e
      obtain ⟨hl1, hl2⟩ := hloc (x, r) (mem_rev_lookup e)
      refine ⟨⟨hl2, .inl hl1⟩, v, hv, ?_⟩
      unfold VarOk
      split at hr
      · rename_i q; rw [if_pos q]; exact hr.mono inside
      · rename_i q
        rw [if_neg q]
        split at hr
        · rename_i q2
          rw [if_pos q2]
          obtain ⟨a, e1, e2, e3⟩ := hr
          exact ⟨a, e1, e2, e3.mono hk₁ inside⟩
        · rename_i q2
          rw [if_neg q2]
          obtain ⟨e1, e2⟩ := hr
          refine e2.mono (fun b o e => hg b o ?_ e) inside
          rw [e1]; exact fun h => nomatch h
  refine wpAny_mono (hb β rfl rfl rfl _ _ (fun fl s' => R (.ok (.ret (match fl with | .ret v => v | _ => .none))) s') S₁ hk₁ fun f fl Γ' Ω' μ' own' s' S' T' hHP hf hP => ?_) (fun _ _ x => x) fun _ _ x => x.elim
  have subO : ∀ a ∈ α.W own, a ∈ ll.map (·.2) ++ W' := eqW
  have lentIn : ∀ p ∈ ll, p ∈ own' := fun p hp => by
    obtain ⟨more, e⟩ := S'.lent
    rw [e]; exact List.mem_append_right _ hp
  have outF : Ks (Fz (β.W own') s'.heap) (Fz (α.W own) s'.heap) := fz_sub (fun a ha => by
    rcases List.mem_append.mp (eqW a ha) with h | h
    · obtain ⟨p, hp, rfl⟩ := List.mem_map.mp h
      exact List.mem_append_left _ (List.mem_map_of_mem (lentIn p hp))
    · exact List.mem_append_right _ (List.mem_append_right _ h)) fun b o _ e => e
  have outR : Ks (Fz (ll.map (·.2) ++ W') s'.heap) (Fz (α.W own) s'.heap) := fz_sub eqW fun b o _ e => e
  refine k fl _ Γ' Ω' s' hP hHP (fun b o hb e => S'.fr.keep b o (hg b o hb e)) ?_ (fun b o e => T'.al b o (hk₁ b o e)) ?_ (fun hnd' p hp d' e => ?_)
  · obtain ⟨h, t, e⟩ := T'.rest
    exact ⟨h, t, e⟩
  · cases fl with
    | ret d =>
      cases f with
      | ret v =>
        have hf' : In M.prog M.w (Fz (ll.map (·.2) ++ W') s'.heap) d v := hf
        exact hf'.mono outR
      | next => exact hf.elim
      | brk => exact hf.elim
      | cont => exact hf.elim
    | next => cases f <;> first | exact hf.elim | rfl
    | brk => cases f <;> first | exact hf.elim | rfl
    | cont => cases f <;> first | exact hf.elim | rfl
  · have hin := lentIn p hp
    have ho : p.1 ∈ Ω' := by rw [← S'.names]; exact List.mem_map_of_mem hin
    obtain ⟨a, h1, h2, h3⟩ := S'.ownAt e ho
    have e2 : (p.1, a) = p := inj_of_nodup (·.1) (by rw [S'.names]; exact hnd') h2 hin rfl
    have e3 : a = p.2 := congrArg Prod.snd e2
    rw [e3] at h3
    exact h3.mono (fun _ _ e => e) outF
end
end Mine

namespace Mine
variable {M : Amb} {sc : Scope} {α : Act M sc} {Γ : Gam} {Ω : List Str} {μ : Str → Option Value} {own : List (Str × Addr)} {s s' : Shared} {mods : List Str} {P : Pst}

inductive ViL (prog : Program) (w : World) (W : List Addr) (h : Heap) : List (Bool × D) → List Value → Prop
  | nil : ViL prog w W h [] []
  | cons {r : Bool × D} {v : Value} {rs : List (Bool × D)} {vs : List Value} : Vi prog w W h r v → ViL prog w W h rs vs → ViL prog w W h (r :: rs) (v :: vs)
section
variable {prog : Program} {w : World} {W : List Addr} {h : Heap} {r1 r2 r3 r4 : Bool × D} {vs : List Value}
theorem ViL.un {rs : List (Bool × D)} (x : ViL prog w W h (r1 :: rs) vs) : ∃ v us, vs = v :: us ∧ Vi prog w W h r1 v ∧ ViL prog w W h rs us := by
  cases x with
  | cons a b => exact ⟨_, _, rfl, a, b⟩
theorem ViL.e0 (x : ViL prog w W h [] vs) : vs = [] := by
  cases x; rfl
theorem ViL.e1 (x : ViL prog w W h [r1] vs) : ∃ v1, vs = [v1] ∧ Vi prog w W h r1 v1 :=
  let ⟨v, _, e, a, b⟩ := x.un
  ⟨v, e.trans (by rw [b.e0]), a⟩
theorem ViL.e2 (x : ViL prog w W h [r1, r2] vs) : ∃ v1 v2, vs = [v1, v2] ∧ Vi prog w W h r1 v1 ∧ Vi prog w W h r2 v2 :=
  let ⟨v, _, e, a, b⟩ := x.un
  let ⟨v2, e2, a2⟩ := b.e1
  ⟨v, v2, e.trans (by rw [e2]), a, a2⟩
theorem ViL.e3 (x : ViL prog w W h [r1, r2, r3] vs) : ∃ v1 v2 v3, vs = [v1, v2, v3] ∧ Vi prog w W h r1 v1 ∧ Vi prog w W h r2 v2 ∧ Vi prog w W h r3 v3 :=
  let ⟨v, _, e, a, b⟩ := x.un
  let ⟨v2, v3, e2, a2, a3⟩ := b.e2
  ⟨v, v2, v3, e.trans (by rw [e2]), a, a2, a3⟩
theorem ViL.e4 (x : ViL prog w W h [r1, r2, r3, r4] vs) : ∃ v1 v2 v3 v4, vs = [v1, v2, v3, v4] ∧ Vi prog w W h r1 v1 ∧ Vi prog w W h r2 v2 ∧ Vi prog w W h r3 v3 ∧ Vi prog w W h r4 v4 :=
  let ⟨v, _, e, a, b⟩ := x.un
  let ⟨v2, v3, v4, e2, a2, a3, a4⟩ := b.e3
  ⟨v, v2, v3, v4, e.trans (by rw [e2]), a, a2, a3, a4⟩
end
theorem ViL.mono {prog : Program} {w : World} {W : List Addr} {h h' : Heap} (k : Ks h h') {rs : List (Bool × D)} {vs : List Value} (x : ViL prog w W h rs vs) : ViL prog w W h' rs vs := by
  induction x with
  | nil => exact .nil
  | cons a _ ih => exact .cons (a.mono k) ih

noncomputable def EvM (prog : Program) (w : World) (X : Cx) (Γ : Gam) (es : List Expr) (rs : List (Bool × D)) : Prop :=
  ∀ s pos Q, X.I s → Sees prog w X Γ s → (∀ vs s', Keeps s s' → ViL prog w X.W s'.heap rs vs → Q vs s') → wpAny (model prog w) X.A (spliced (backTo pos (starEach es X.env))) Q NoE s
theorem EvM.nil {prog : Program} {w : World} {X : Cx} : EvM prog w X Γ [] [] := fun s pos Q hI hS hQ => spliced_none (hQ [] s (Kp.refl s) .nil)
theorem EvM.cons {prog : Program} {w : World} {X : Cx} {e : Expr} {es : List Expr} {r : Bool × D} {rs : List (Bool × D)} (h : Ev prog w X Γ e r) (h' : EvM prog w X Γ es rs)
    (he : starEach (e :: es) X.env = (false, eval e X.env) :: starEach es X.env := by rfl) : EvM prog w X Γ (e :: es) (r :: rs) := fun s pos Q hI hS hQ =>
  spliced_more (h s _ hI hS fun v s₁ k₁ i₁ => h' s₁ pos _ (X.mono _ _ hI k₁) (hS.keeps k₁) fun vs s₂ k₂ i₂ =>
    hQ (v :: vs) s₂ (Kp.trans k₁ k₂) (.cons (i₁.mono (Kp.ks k₂)) i₂)) he
/-- keyword values -/
noncomputable def EvK (prog : Program) (w : World) (X : Cx) (Γ : Gam) (kws : List Keyword) (rs : List (Bool × D)) : Prop :=
  ∀ s pos Q, X.I s → Sees prog w X Γ s → (∀ vs s', Keeps s s' → ViL prog w X.W s'.heap rs vs → Q vs s') → wpAny (model prog w) X.A (evalAll ((backToKw pos (keywordEach kws X.env)).map (·.2))) Q NoE s
theorem EvK.nil {prog : Program} {w : World} {X : Cx} : EvK prog w X Γ [] [] := fun s pos Q hI hS hQ => wpAny_pure (hQ [] s (Kp.refl s) .nil)
theorem EvK.cons {prog : Program} {w : World} {X : Cx} {n : Option Str} {e : Expr} {kp : Pos} {es : List Keyword} {r : Bool × D} {rs : List (Bool × D)} (h : Ev prog w X Γ e r) (h' : EvK prog w X Γ es rs) : EvK prog w X Γ (⟨n, e, kp⟩ :: es) (r :: rs) := fun s pos Q hI hS hQ => by
  show wpAny _ _ (evalAll ((do let v ← eval e X.env; standAt pos; pure v) :: (backToKw pos (keywordEach es X.env)).map (·.2))) _ _ _
  refine wpAny_evalAll_cons (wpAny_bind (h s _ hI hS fun v s₁ k₁ i₁ => wpAny_bind (wpAny_standAt (wpAny_pure (h' s₁ pos _ (X.mono _ _ hI k₁) (hS.keeps k₁) fun vs s₂ k₂ i₂ =>
    hQ (v :: vs) s₂ (Kp.trans k₁ k₂) (.cons (i₁.mono (Kp.ks k₂)) i₂))))))

noncomputable def PureC (M : Amb) (f : Addr) (n : Nat) (rs : List (Bool × D)) (kn : List Str) (krs : List (Bool × D)) (d : D) : Prop :=
  ∀ (sc : Scope) (α : Act M sc) own s vs ks (Q : Value → Shared → Prop), n < α.lv → (α.cx own).I s → ViL M.prog M.w (α.W own) s.heap rs vs → ViL M.prog M.w (α.W own) s.heap krs ks →
    (∀ v s', Keeps s s' → In M.prog M.w (Fz (α.W own) s'.heap) d v → Q v s') → wpAny (model M.prog M.w) α.A (call (.ref f) vs (kn.zip ks)) Q NoE s

/-- the first argument lent -/
noncomputable def LendC (M : Amb) (f : Addr) (n : Nat) (d₀ : D) (rs : List (Bool × D)) (kn : List Str) (krs : List (Bool × D)) (d' d : D) : Prop :=
  ∀ (sc : Scope) (α : Act M sc) Γ Ω μ own s mods x a vs ks (Q : Value → Shared → Prop), n < α.lv → St α Γ Ω μ own s → Γ x = some (false, d₀) → x ∈ Ω → x ∈ mods → μ x = some (.ref a) → (x, a) ∈ own →
    ViL M.prog M.w (α.W own) s.heap rs vs → (∀ r ∈ rs, r.1 = true) → ViL M.prog M.w (α.W own) s.heap krs ks → (∀ r ∈ krs, r.1 = true) →
    (∀ v s', St α (Γ.set x (false, d')) Ω μ own s' → Tn α mods own own s s' → In M.prog M.w (Fz (α.W own) s'.heap) d v → Q v s') → wpAny (model M.prog M.w) α.A (call (.ref f) (.ref a :: vs) (kn.zip ks)) Q NoE s

noncomputable def RetP (d : D) : Pst := fun fl _ _ => fl = .ret d ∨ (d = .none ∧ fl = .next)
noncomputable def RetL (y : Str) (d' d : D) : Pst := fun fl Γ' Ω' => (fl = .ret d ∨ (d = .none ∧ fl = .next)) ∧ Γ' y = some (false, d') ∧ Ω'.Nodup

theorem BindsIn.imp {R R' : Str → (Bool × D) → Value → Prop} {bs : List (Str × Value)} {rs : List (Str × (Bool × D))} (h : BindsIn R bs rs) (hi : ∀ x r v, (x, r) ∈ rs → R x r v → R' x r v) : BindsIn R' bs rs := by
  induction h with
  | nil => exact .nil
  | cons a _ ih => exact .cons (hi _ _ _ (.head _) a) (ih fun x r v hm => hi x r v (.tail _ hm))

section
variable {f : Addr} {name qual : Str} {params : Arguments} {body : List Stmt} {scope : Scope} {dV kV doc pm cdv ct oc : Value} {an od : Option Addr} {osl : Array (Option Value)}

theorem PureC.of {n : Nat} {rs krs : List (Bool × D)} {kn : List Str} {d : D} {rs' : List (Str × (Bool × D))} {mods' : List Str} (DA : DefAt M f name qual params body scope dV kV doc pm cdv ct oc an od osl)
    (hcell : ∀ x ∈ scope.names, x.2 ≠ .cell) (hloc : ∀ y ∈ rs', scope.names.lookup y.1 = some .local ∧ (y.1 == ("__debug__" : Str)) = false)
    (hb : ∀ {s : Shared} {W : List Addr} {vs ks : List Value}, M.K.In s.heap → ViL M.prog M.w W s.heap rs vs → ViL M.prog M.w W s.heap krs ks → ∃ binds, BindsTo s (fnOf name qual params body scope dV kV doc pm an cdv ct) ⟨vs, kn.zip ks⟩ binds ∧ BindsIn (fun _ r v => Vi M.prog M.w W s.heap r v) binds rs')
    (hbody : ∀ β : Act M scope, β.lv = n → β.lent = [] → Sp β mods' (argsG rs') [] body (RetP d)) : PureC M f n rs kn krs d := by
  intro sc α own s vs ks Q hlv hI hv hk hQ
  obtain ⟨⟨⟨μ, F⟩, _⟩, _⟩ := id hI
  obtain ⟨binds, hbt, hbi⟩ := hb (α.X.keeps F.keep) hv hk
  refine wpAny_call (enterJ (HP := fun _ => True) DA hI hlv [] (fun _ h => nomatch h) List.nodup_nil hbt hcell hloc (hbi.imp fun x r v _ hi => ?_) (P' := RetP d) (mods' := mods') (fun β h1 _ h3 μ s₁ Q S _ hQ => hbody β h1 h3 μ _ s₁ Q S fun f fl Γ' Ω' μ' own' s' S' T' hf hP => hQ f fl Γ' Ω' μ' own' s' S' T' trivial hf hP) ?_)
  · obtain ⟨b, d⟩ := r
    cases b with
    | true => rw [if_pos rfl]; exact hi.infz
    | false => rw [if_neg (by simp), if_neg (fun h => nomatch h)]; exact ⟨rfl, hi.inr⟩
  · intro fl v Γ' Ω' s' hP _ hk' hr hal hv' _
    obtain ⟨h, t, rfl⟩ := hr
    refine hQ v _ ⟨h, t, rfl, fun b o e => hk' b o (fun h => nomatch h) e⟩ ?_
    rcases hP with rfl | ⟨rfl, rfl⟩
    · exact hv'
    · exact In.none_iff.mpr hv'

theorem LendC.of {n : Nat} {d₀ d' d : D} {rs krs : List (Bool × D)} {kn : List Str} {y : Str} {rs' : List (Str × (Bool × D))} {mods' : List Str} (DA : DefAt M f name qual params body scope dV kV doc pm cdv ct oc an od osl)
    (hcell : ∀ x ∈ scope.names, x.2 ≠ .cell) (hloc : ∀ z ∈ (y, (false, d₀)) :: rs', scope.names.lookup z.1 = some .local ∧ (z.1 == ("__debug__" : Str)) = false) (hfz : ∀ z ∈ rs', z.2.1 = true)
    (hb : ∀ {s : Shared} {W : List Addr} {v₀ : Value} {vs ks : List Value}, M.K.In s.heap → ViL M.prog M.w W s.heap rs vs → ViL M.prog M.w W s.heap krs ks → ∃ binds, BindsTo s (fnOf name qual params body scope dV kV doc pm an cdv ct) ⟨v₀ :: vs, kn.zip ks⟩ ((y, v₀) :: binds) ∧ BindsIn (fun _ r v => Vi M.prog M.w W s.heap r v) binds rs')
    (hbody : ∀ β : Act M scope, β.lv = n → β.lent.map (·.1) = [y] → Sp β mods' (argsG ((y, (false, d₀)) :: rs')) [y] body (RetL y d' d)) : LendC M f n d₀ rs kn krs d' d := by
  intro sc α Γ Ω μ own s mods x a vs ks Q hlv S hx ho hm hμ ha hv hvt hk hkt hQ
  obtain ⟨binds, hbt, hbi⟩ := hb (v₀ := .ref a) (α.X.keeps S.fr.keep) hv hk
  obtain ⟨a', e1, e2, e3⟩ := S.ownAt hx ho
  rw [hμ] at e1; cases e1
  refine wpAny_call (enterJ (HP := fun _ => True) DA S.cxI hlv [(y, a)] (fun p hp => by rw [List.mem_singleton.mp hp]; exact List.mem_map.mpr ⟨_, ha, rfl⟩) (by simp) hbt hcell hloc (.cons ?_ (hbi.imp fun z r v hz hi => ?_)) (P' := RetL y d' d) (mods' := mods') (fun β h1 _ h3 μ s₁ Q S _ hQ => (id (hbody β h1 (by rw [h3]; rfl))) μ _ s₁ Q S fun f fl Γ' Ω' μ' own' s' S' T' hf hP => hQ f fl Γ' Ω' μ' own' s' S' T' trivial hf hP) ?_)
  · rw [if_neg (by simp), if_pos (by simp)]
    exact ⟨a, rfl, by simp, e3⟩
  · have hr := hfz _ hz
    obtain ⟨b, d⟩ := r
    dsimp only at hr
    subst hr
    rw [if_pos rfl]; exact hi.infz
  · intro fl v Γ' Ω' s' hP _ hk' hr hal hv' hl
    obtain ⟨hP, hy, hnd⟩ := hP
    obtain ⟨h, t, rfl⟩ := hr
    have hR := hl hnd (y, a) (by simp) d' hy
    have hs : ∀ b o, b ≠ a → s.heap.get? b = some o → h.get? b = some o := fun b o hb e => hk' b o (by simpa using hb) e
    obtain ⟨oa, hoa⟩ := S.low a (List.mem_append_left _ (List.mem_map.mpr ⟨_, ha, rfl⟩))
    obtain ⟨S', T'⟩ := S.turnE (mods := mods) t hx ho hμ ha hs hR (hal a oa hoa) hm
    refine hQ v _ S' T' ?_
    rcases hP with rfl | ⟨rfl, rfl⟩
    · exact hv'
    · exact In.none_iff.mpr hv'
end
end Mine

namespace Mine
variable {M : Amb} {sc : Scope} {α : Act M sc} {Γ : Gam} {Ω : List Str} {μ : Str → Option Value} {own : List (Str × Addr)} {s s' : Shared} {mods : List Str} {P : Pst}

theorem St.kin (S : St α Γ Ω μ own s) : M.K.In s.heap := α.X.keeps S.fr.keep
theorem cx_kin (hI : (α.cx own).I s) : M.K.In s.heap := by
  obtain ⟨⟨⟨μ, F⟩, _⟩, _⟩ := hI
  exact α.X.keeps F.keep

/-- f(e, ..), f a def of the text that turns nothing -/
theorem Ev.call {x : Str} {px pos : Pos} {f : Addr} {e : Expr} {es : List Expr} {rs : List (Bool × D)} {d : D} {n : Nat} (g : Glob1 M (α.cx own) x (.ref f)) (hk : keepIn M.K (.ref f) = true) (ha : EvM M.prog M.w (α.cx own) Γ (e :: es) rs) (hc : PureC M f n rs [] [] d) (hlv : n < α.lv)
    (he : starEach (e :: es) α.env = (false, eval e α.env) :: starEach es α.env := by rfl) (hp : ∀ pos, (backTo pos (starEach es α.env)).any (·.1) = false := by intro _; rfl) :
    Ev M.prog M.w (α.cx own) Γ (.Call (.Name x px) (e :: es) [] pos) (true, d) := fun s Q hI hS hQ => by
  refine wpAny_Call_NameR (g s px _ hI ?_)
  refine callWith_K (h₀ := s.heap) (cx_kin hI) hk (ha s pos _ hI hS fun vs s₁ k₁ i₁ => ⟨cx_kin ((α.cx own).mono _ _ hI k₁), ?_⟩) he (hp pos)
  exact hc _ α own s₁ vs [] _ hlv ((α.cx own).mono _ _ hI k₁) i₁ .nil fun v s' k i => hQ v s' (Kp.trans k₁ k) (Vi.fz i)

/-- with keywords -/
theorem Ev.callKw {x : Str} {px pos : Pos} {f : Addr} {e : Expr} {es : List Expr} {kws : List Keyword} {kn : List Str} {rs krs : List (Bool × D)} {d : D} {n : Nat} (g : Glob1 M (α.cx own) x (.ref f)) (hk : keepIn M.K (.ref f) = true) (ha : EvM M.prog M.w (α.cx own) Γ (e :: es) rs) (hks : EvK M.prog M.w (α.cx own) Γ kws krs) (hc : PureC M f n rs kn krs d) (hlv : n < α.lv)
    (hkn : ∀ pos, (backToKw pos (keywordEach kws α.env)).filterMap (·.1) = kn := by intro _; rfl) (hall : ∀ pos, (backToKw pos (keywordEach kws α.env)).all (·.1.isSome) = true := by intro _; rfl)
    (he : starEach (e :: es) α.env = (false, eval e α.env) :: starEach es α.env := by rfl) (hp : ∀ pos, ((backTo pos (starEach (e :: es) α.env)).any (·.1) || (backToKw pos (keywordEach kws α.env)).any (·.1.isNone)) = false := by intro _; rfl) :
    Ev M.prog M.w (α.cx own) Γ (.Call (.Name x px) (e :: es) kws pos) (true, d) := fun s Q hI hS hQ => by
  refine wpAny_Call_Name_kw (g s px _ hI ?_)
  refine callWith_KW (h₀ := s.heap) (cx_kin hI) hk (hall pos) (ha s pos _ hI hS fun vs s₁ k₁ i₁ => hks s₁ pos _ ((α.cx own).mono _ _ hI k₁) (hS.keeps k₁) fun ks s₂ k₂ i₂ => ⟨cx_kin ((α.cx own).mono _ _ hI (Kp.trans k₁ k₂)), ?_⟩) (hp pos) he
  rw [show (α.cx own).env = α.env from rfl, hkn pos]
  exact hc _ α own s₂ vs ks _ hlv ((α.cx own).mono _ _ hI (Kp.trans k₁ k₂)) (i₁.mono (Kp.ks k₂)) i₂ fun v s' k i => hQ v s' (Kp.trans (Kp.trans k₁ k₂) k) (Vi.fz i)

/-- f(x, e, ..), f a def of the text that turns its first argument -/
theorem St.lend (S : St α Γ Ω μ own s) {x y : Str} {py px pos : Pos} {f : Addr} {es : List Expr} {rs : List (Bool × D)} {d₀ d' d : D} {n : Nat} {Q : Value → Shared → Prop} (g : ∀ own, Glob1 M (α.cx own) y (.ref f)) (hk : keepIn M.K (.ref f) = true) (ha : ∀ own, EvM M.prog M.w (α.cx own) Γ es rs) (hrs : ∀ r ∈ rs, r.1 = true)
    (hc : LendC M f n d₀ rs [] [] d' d) (hlv : n < α.lv) (hx : Γ x = some (false, d₀)) (ho : x ∈ Ω) (hm : x ∈ mods)
    (hQ : ∀ v s', St α (Γ.set x (false, d')) Ω μ own s' → Tn α mods own own s s' → In M.prog M.w (Fz (α.W own) s'.heap) d v → Q v s')
    (hp : ∀ pos, (backTo pos (starEach es α.env)).any (·.1) = false := by intro _; rfl) :
    wpAny (model M.prog M.w) α.A (eval (.Call (.Name y py) (.Name x px :: es) [] pos) α.env) Q NoE s := by
  obtain ⟨a, hv, hao, hi⟩ := S.ownAt hx ho
  refine wpAny_Call_NameR (g own s py _ S.cxI ?_)
  refine callWith_K (h₀ := s.heap) S.kin hk (spliced_more (S.nameAt hx hv (ha own s pos _ S.cxI S.sees fun vs s₁ k₁ i₁ => ⟨(S.keeps k₁).kin, ?_⟩)) rfl) rfl (hp pos)
  exact hc _ α Γ Ω μ own s₁ mods x a vs [] _ hlv (S.keeps k₁) hx ho hm hv hao i₁ hrs .nil (fun _ h => nomatch h) fun v s' S' T' i => hQ v s' S' (Tn.trans S (Tn.of_keeps k₁) T') i

theorem S1.lend {x y : Str} {py px pos spos : Pos} {f : Addr} {es : List Expr} {rs : List (Bool × D)} {d₀ d' d : D} {n : Nat} (g : ∀ own, Glob1 M (α.cx own) y (.ref f)) (hk : keepIn M.K (.ref f) = true) (ha : ∀ own, EvM M.prog M.w (α.cx own) Γ es rs)
    (hc : LendC M f n d₀ rs [] [] d' d) (hlv : n < α.lv) (hx : Γ x = some (false, d₀)) (ho : x ∈ Ω) (hm : x ∈ mods) (h : P .next (Γ.set x (false, d')) Ω) (hrs : ∀ r ∈ rs, r.1 = true := by simp)
    (hsw : swapsWith (.Call (.Name y py) (.Name x px :: es) [] pos) none spos.line α.env = pure false := by rfl)
    (hp : ∀ pos, (backTo pos (starEach es α.env)).any (·.1) = false := by intro _; rfl) : S1 α mods Γ Ω (.Expr (.Call (.Name y py) (.Name x px :: es) [] pos) spos) P := fun μ own s Q S hQ =>
  wpAny_Expr_any (S.lend g hk ha hrs hc hlv hx ho hm (fun v s' S' T' i => hQ .next .next _ _ _ _ _ S' T' trivial h) hp) act_quiet hsw

theorem S1.assignLend {x y z : Str} {py px pz pos spos : Pos} {f : Addr} {es : List Expr} {rs : List (Bool × D)} {d₀ d' d : D} {n : Nat} (g : ∀ own, Glob1 M (α.cx own) y (.ref f)) (hk : keepIn M.K (.ref f) = true) (ha : ∀ own, EvM M.prog M.w (α.cx own) Γ es rs)
    (hc : LendC M f n d₀ rs [] [] d' d) (hlv : n < α.lv) (hx : Γ x = some (false, d₀)) (ho : x ∈ Ω) (hm : x ∈ mods) (hkz : isVar sc z) (hz : z ∉ Ω) (h : P .next ((Γ.set x (false, d')).set z (true, d)) Ω) (hrs : ∀ r ∈ rs, r.1 = true := by simp)
    (hdb : (z == ("__debug__" : Str)) = false := by decide)
    (hsw : swapsWith (.Call (.Name y py) (.Name x px :: es) [] pos) (some (.Name z pz)) spos.line α.env = pure false := by rfl)
    (hp : ∀ pos, (backTo pos (starEach es α.env)).any (·.1) = false := by intro _; rfl) : S1 α mods Γ Ω (.Assign [.Name z pz] (.Call (.Name y py) (.Name x px :: es) [] pos) spos) P := fun μ own s Q S hQ =>
  wpAny_Assign_Name (S.lend g hk ha hrs hc hlv hx ho hm (fun v s' S' T' i => S'.store i hz hdb hkz fun s₂ S₂ T₂ => hQ .next .next _ _ _ _ _ S₂ (Tn.trans S T' T₂) trivial h) hp) hsw

/-- an expression whose value is dropped -/
theorem S1.expr {e : Expr} {pos : Pos} {r : Bool × D} (he : EvA α Γ e r) (h : P .next Γ Ω) (hsw : swapsWith e none pos.line α.env = pure false := by rfl) : S1 α mods Γ Ω (.Expr e pos) P := fun μ own s Q S hQ =>
  wpAny_Expr_any (he own s _ S.cxI S.sees fun v s₁ k i => hQ .next .next _ _ _ _ _ (S.keeps k) (Tn.of_keeps k) trivial h) act_quiet hsw

/-- a statement, then the rest by what holds behind it -/
theorem Sp.step {st : Stmt} {rest : List Stmt} (Fin : Gam → List Str → Prop) (h : S1 α mods Γ Ω st (PFin Fin P)) (h' : ∀ Γ' Ω', Fin Γ' Ω' → Sp α mods Γ' Ω' rest P) : Sp α mods Γ Ω (st :: rest) P :=
  Sp.cons (h.mono fun fl Γ' Ω' hp => by
    cases fl with
    | next => exact h' _ _ hp
    | brk => exact hp
    | cont => exact hp
    | ret d => exact hp)

/-- built-ins -/
noncomputable def BltC (prog : Program) (w : World) (X : Cx) (id : String) (rs : List (Bool × D)) (r : Bool × D) : Prop :=
  ∀ s vs (Q : Value → Shared → Prop), X.I s → ViL prog w X.W s.heap rs vs → (∀ v s', Keeps s s' → Vi prog w X.W s'.heap r v → Q v s') → wpAny (model prog w) X.A (call (.builtin id) vs) Q NoE s
theorem Ev.blt {X : Cx} {x : Str} {px pos : Pos} {id : String} {e : Expr} {es : List Expr} {rs : List (Bool × D)} {r : Bool × D} (g : Glob1 M X x (.builtin id)) (ha : EvM M.prog M.w X Γ (e :: es) rs) (hc : BltC M.prog M.w X id rs r)
    (he : starEach (e :: es) X.env = (false, eval e X.env) :: starEach es X.env := by rfl) (hp : ∀ pos, (backTo pos (starEach es X.env)).any (·.1) = false := by intro _; rfl) : Ev M.prog M.w X Γ (.Call (.Name x px) (e :: es) [] pos) r := fun s Q hI hS hQ => by
  refine wpAny_Call_NameR (g s px _ hI (callWith_builtin1 (ha s pos _ hI hS fun vs s₁ k₁ i₁ => ?_) he (hp pos)))
  exact hc s₁ vs _ (X.mono _ _ hI k₁) i₁ fun v s' k i => hQ v s' (Kp.trans k₁ k) i

theorem BltC.len {prog : Program} {w : World} {X : Cx} {b : Bool} {ds : List D} (hz : ds.length < 2 ^ 60) : BltC prog w X "len" [(b, .lst ds)] (true, .int ds.length) := fun s vs Q hI hv hQ => by
  cases hv with
  | cons hv hn =>
    cases hn
    obtain ⟨a, vs, n, rfl, g, r⟩ := hv.lst
    refine call_len_list (isList_of g) (by rw [List.size_toArray, r.length]; omega) ?_
    have e : (vs.toArray.size : Int) = ds.length := by rw [List.size_toArray, r.length]
    rw [e]
    exact hQ _ _ (Kp.tok s _) (Vi.of_int _ _)
end Mine

namespace Mine

noncomputable abbrev pr (p : Int × Int) : D := .tup [.int p.1, .int p.2]

section
variable {prog : Program} {w : World} {X : Cx} {Γ : Gam} {b₁ b₂ : Bool}

theorem pair_of {h : Heap} {W : List Addr} {p : Int × Int} {b : Bool} {v : Value} (x : Vi prog w W h (b, pr p) v) : ∃ a n t u, v = .ref a ∧ h.get? a = some (tupO [.int p.1 t, .int p.2 u] n) := by
  obtain ⟨a, vs, n, rfl, g, r⟩ := x.tup
  obtain ⟨v1, r1, rfl, i1, l1⟩ := InL.cons_iff.mp r
  obtain ⟨v2, r2, rfl, i2, l2⟩ := InL.cons_iff.mp l1
  rw [InL.nil_iff.mp l2] at g
  obtain ⟨t, rfl⟩ := In.int_iff.mp i1
  obtain ⟨u, rfl⟩ := In.int_iff.mp i2
  exact ⟨a, n, t, u, rfl, g⟩

theorem lt_pair_tree {A : Around} {E : Value → Shared → Prop} {s : Shared} {a b : Addr} {n k : Nat} {p q : Int × Int} {t u t' u' : Tok} {P : Fin → Shared → Prop} (ga : s.heap.get? a = some (tupO [.int p.1 t, .int p.2 u] n)) (gb : s.heap.get? b = some (tupO [.int q.1 t', .int q.2 u'] k))
    (h : P (.done (.ret (.bool (ltp p q)))) s) : wpAny (model prog w) A (Builtin.«tuple.__lt__» ⟨[.ref a, .ref b], []⟩) P E s := by
  show wpAny _ _ (isInstance (.ref b) (.type "tuple") >>= _) _ _ s
  refine wpAny_bind (wpAny_isInstance (T := "tuple") ⟨_, gb, rfl⟩ isSubtype_tuple_tuple ?_)
  simp only [Bool.not_true, Bool.false_eq_true, if_false]
  refine wpAny_bind (wpAny_tupleItemsOf ga rfl ?_)
  refine wpAny_bind (wpAny_tupleItemsOf gb rfl ?_)
  refine wpAny_bind ?_
  simp only [List.zip_cons_cons, List.zip_nil_right, List.forIn_cons, List.forIn_nil]
  refine wpAny_bind (wpAny_bind (wpAny_eqBool_int ?_))
  unfold ltp at h
  by_cases h1 : p.1 = q.1
  · simp only [show (p.1 == q.1) = true from by simp [h1], Bool.not_true, Bool.false_eq_true, if_false]
    refine wpAny_pure (wpAny_bind (wpAny_bind (wpAny_eqBool_int ?_)))
    have hlt : ¬ p.1 < q.1 := by omega
    by_cases h2 : p.2 = q.2
    · simp only [show (p.2 == q.2) = true from by simp [h2], Bool.not_true, Bool.false_eq_true, if_false]
      refine wpAny_pure (wpAny_pure ?_)
      have e : (decide (p.1 < q.1) || decide (p.1 = q.1) && decide (p.2 < q.2)) = false := by simp [h1, h2]
      rw [e] at h
      exact wpAny_pure h
    · simp only [show (p.2 == q.2) = false from by simp [h2], Bool.not_false, if_true]
      refine wpAny_bind (wpAny_rule (wpAny_bind (show wpAny _ _ (compareOp .Lt _ _) _ _ _ from _root_.PySem.P.lt_int ?_)))
      have e : (decide (p.1 < q.1) || decide (p.1 = q.1) && decide (p.2 < q.2)) = decide (p.2 < q.2) := by simp [h1]
      rw [e] at h
      exact wpAny_bind (wpAny_pure (wpAny_pure (wpAny_pure (wpAny_pure h))))
  · simp only [show (p.1 == q.1) = false from by simp [h1], Bool.not_false, if_true]
    refine wpAny_bind (wpAny_rule (wpAny_bind (show wpAny _ _ (compareOp .Lt _ _) _ _ _ from _root_.PySem.P.lt_int ?_)))
    have e : (decide (p.1 < q.1) || decide (p.1 = q.1) && decide (p.2 < q.2)) = decide (p.1 < q.1) := by simp [h1]
    rw [e] at h
    exact wpAny_bind (wpAny_pure (wpAny_pure (wpAny_pure (wpAny_pure h))))
theorem gt_pair_tree {A : Around} {E : Value → Shared → Prop} {s : Shared} {a b : Addr} {n k : Nat} {p q : Int × Int} {t u t' u' : Tok} {P : Fin → Shared → Prop} (ga : s.heap.get? a = some (tupO [.int p.1 t, .int p.2 u] n)) (gb : s.heap.get? b = some (tupO [.int q.1 t', .int q.2 u'] k))
    (h : P (.done (.ret (.bool (ltp q p)))) s) : wpAny (model prog w) A (Builtin.«tuple.__gt__» ⟨[.ref a, .ref b], []⟩) P E s := by
  show wpAny _ _ (isInstance (.ref b) (.type "tuple") >>= _) _ _ s
  refine wpAny_bind (wpAny_isInstance (T := "tuple") ⟨_, gb, rfl⟩ isSubtype_tuple_tuple ?_)
  simp only [Bool.not_true, Bool.false_eq_true, if_false]
  refine wpAny_bind (wpAny_tupleItemsOf ga rfl ?_)
  refine wpAny_bind (wpAny_tupleItemsOf gb rfl ?_)
  refine wpAny_bind ?_
  simp only [List.zip_cons_cons, List.zip_nil_right, List.forIn_cons, List.forIn_nil]
  refine wpAny_bind (wpAny_bind (wpAny_eqBool_int ?_))
  unfold ltp at h
  by_cases h1 : p.1 = q.1
  · simp only [show (p.1 == q.1) = true from by simp [h1], Bool.not_true, Bool.false_eq_true, if_false]
    refine wpAny_pure (wpAny_bind (wpAny_bind (wpAny_eqBool_int ?_)))
    have hlt : ¬ q.1 < p.1 := by omega
    by_cases h2 : p.2 = q.2
    · simp only [show (p.2 == q.2) = true from by simp [h2], Bool.not_true, Bool.false_eq_true, if_false]
      refine wpAny_pure (wpAny_pure ?_)
      have e : (decide (q.1 < p.1) || decide (q.1 = p.1) && decide (q.2 < p.2)) = false := by simp [h1, h2]
      rw [e] at h
      exact wpAny_pure h
    · simp only [show (p.2 == q.2) = false from by simp [h2], Bool.not_false, if_true]
      refine wpAny_bind (wpAny_rule (wpAny_bind (show wpAny _ _ (compareOp .Gt _ _) _ _ _ from _root_.PySem.P.gt_int ?_)))
      have e : (decide (q.1 < p.1) || decide (q.1 = p.1) && decide (q.2 < p.2)) = decide (p.2 > q.2) := by simp [h1]
      rw [e] at h
      exact wpAny_bind (wpAny_pure (wpAny_pure (wpAny_pure (wpAny_pure h))))
  · simp only [show (p.1 == q.1) = false from by simp [h1], Bool.not_false, if_true]
    refine wpAny_bind (wpAny_rule (wpAny_bind (show wpAny _ _ (compareOp .Gt _ _) _ _ _ from _root_.PySem.P.gt_int ?_)))
    have e : (decide (q.1 < p.1) || decide (q.1 = p.1) && decide (q.2 < p.2)) = decide (p.1 > q.1) := by simp [Ne.symm h1]
    rw [e] at h
    exact wpAny_bind (wpAny_pure (wpAny_pure (wpAny_pure (wpAny_pure h))))

theorem Op2.ltPair {p q : Int × Int} : Op2 prog w X (compareOp .Lt) (b₁, pr p) (b₂, pr q) (true, .bool (ltp p q)) := fun s Q v₁ v₂ hI i₁ i₂ hQ => by
  obtain ⟨a, n, t, u, rfl, ga⟩ := pair_of i₁
  obtain ⟨b, k, t', u', rfl, gb⟩ := pair_of i₂
  refine cmp_ofLt (wpAny_richCompare_same_or (T := "tuple") ⟨_, ga, rfl⟩ ⟨_, gb, rfl⟩ PySem.F.slot_tuple_lt (wpAny_call_entry PySem.F.slot_tuple_lt ⟨_, ga, rfl⟩ PySem.F.entry_tuple_lt (lt_pair_tree ga gb ?_) (PySem.F.args_tuple_lt_2 _ _)) (.inr ?_))
  · exact ⟨_, rfl, (fun h => nomatch h), hQ _ _ (Kp.refl s) (Vi.of_bool _)⟩
  · have := X.room; omega
theorem Op2.gtPair {p q : Int × Int} : Op2 prog w X (compareOp .Gt) (b₁, pr p) (b₂, pr q) (true, .bool (ltp q p)) := fun s Q v₁ v₂ hI i₁ i₂ hQ => by
  obtain ⟨a, n, t, u, rfl, ga⟩ := pair_of i₁
  obtain ⟨b, k, t', u', rfl, gb⟩ := pair_of i₂
  refine cmp_ofGt (wpAny_richCompare_same_or (T := "tuple") ⟨_, ga, rfl⟩ ⟨_, gb, rfl⟩ PySem.F.slot_tuple_gt (wpAny_call_entry PySem.F.slot_tuple_gt ⟨_, ga, rfl⟩ PySem.F.entry_tuple_gt (gt_pair_tree ga gb ?_) (PySem.F.args_tuple_gt_2 _ _)) (.inr ?_))
  · exact ⟨_, rfl, (fun h => nomatch h), hQ _ _ (Kp.refl s) (Vi.of_bool _)⟩
  · have := X.room; omega
end
end Mine

namespace Mine

/-- a walk over data -/
structure Wk (prog : Program) (w : World) (A : Around) (tgt : Expr) (ds : List D) (F : Heap) (I : Addr) (fp : List Addr) (st : Nat → Heap → Prop) : Prop where
  frame : ∀ i h h', st i h → (∀ b ∈ fp, ∀ o, h.get? b = some o → h'.get? b = some o) → (∀ o, h.get? I = some o → h'.get? I = some o) → st i h'
  item : ∀ i d (s : Shared) (Q : Value → Shared → Prop), ds[i]? = some d → st i s.heap →
    (∀ v h' tk, (∀ W, (∀ b ∈ W, ∃ o, s.heap.get? b = some o) → Ks F (Fz W h') → In prog w (Fz W h') d v) → st (i + 1) h' → (∀ b o, b ≠ I → s.heap.get? b = some o → h'.get? b = some o) → (∃ o, h'.get? I = some o) → Q v { s with heap := h', toks := tk }) →
    wpAny (model prog w) A (pyNext (.ref I)) (fun r s₁ => match r with | none => False | some v => wpAny (model prog w) A (letOwnedTupleGo tgt (.ref I) v) (fun _ s₂ => Q v s₂) NoE s₁) NoE s
  done : ∀ (s : Shared) (Q : Option Value → Shared → Prop), st ds.length s.heap → (∀ h' tk, (∀ b o, b ≠ I → s.heap.get? b = some o → h'.get? b = some o) → Q none { s with heap := h', toks := tk }) → wpAny (model prog w) A (pyNext (.ref I)) Q NoE s
  self : ∀ i (s : Shared) (Q : Value → Shared → Prop), st i s.heap → Q (.ref I) s → wpAny (model prog w) A (pyIter (.ref I)) Q NoE s

section
variable {prog : Program} {w : World} {A : Around} {F : Heap} {I : Addr} {ds : List D}
theorem Wk.name {x : Str} {px : Pos} {fp : List Addr} {n : Nat} {Pt : Nat → Value → Prop} {st : Nat → Heap → Prop} (Wl : Walks prog w A I fp [I] n Pt st) (hn : ds.length = n) (hi : ∀ i h, st i h → ∃ o, h.get? I = some o) (hP : ∀ i d v, ds[i]? = some d → Pt i v → In prog w F d v) : Wk prog w A (.Name x px) ds F I fp st where
  frame := fun i h h' s k _ => Wl.frame i h h' s k
  item := fun i d s Q hd hs hQ => by
    have hi' : i < n := hn ▸ (List.getElem?_eq_some_iff.mp hd).1
    refine Wl.item i s _ _ hi' hs fun v h' tk hp hs' hk => ?_
    exact wpAny_pure (hQ v h' tk (fun W _ kF => (hP i d v hd hp).mono kF) hs' (fun b o hb e => hk b o (by simpa using hb) e) (hi _ _ hs'))
  done := fun s Q hs hQ => Wl.done s _ _ (hn ▸ hs) fun h' tk hk => hQ h' tk fun b o hb e => hk b o (by simpa using hb) e
  self := fun i s Q hs hQ => Wl.self i s _ _ hs hQ

theorem ne_fresh {h : Heap} {a : Addr} {o : Obj} (e : h.get? a = some o) : a ≠ h.objs.size := Nat.ne_of_lt (Heap.lt_size e)

theorem Wk.list {x : Str} {px : Pos} {a : Addr} {vs : List Value} (hh : A.handled = none) (hne : a ≠ I) (r : InL prog w F ds vs) :
    Wk prog w A (.Name x px) ds F I [I, a] (fun i h => h.IsListIter I a i ∧ h.IsList a vs.toArray) :=
  Wk.name (Walks.list hh I a hne vs.toArray) (by rw [List.size_toArray, r.length]) (fun i h st => by obtain ⟨⟨o, e, _⟩, _⟩ := st; exact ⟨o, e⟩) fun i d v hd hv => by
    obtain ⟨u, hu, iu⟩ := r.get hd
    rw [List.getElem?_toArray, hu] at hv
    cases hv
    exact iu
theorem Wk.listTup {elts : List Expr} {x1} {pos : Pos} {a : Addr} {vs : List Value} (hh : A.handled = none) (hne : a ≠ I) (r : InL prog w F ds vs) (ht : ∀ d ∈ ds, ∃ es, d = .tup es) :
    Wk prog w A (.Tuple elts x1 pos) ds F I [I, a] (fun i h => h.IsListIter I a i ∧ h.IsList a vs.toArray) where
  frame := fun i h h' s k _ => (Walks.list (prog := prog) (w := w) hh I a hne vs.toArray).frame i h h' s k
  item := fun i d s Q hd hs hQ => by
    obtain ⟨u, hu, iu⟩ := r.get hd
    obtain ⟨es, rfl⟩ := ht d (List.mem_of_getElem? hd)
    refine wpAny_pyNext_list_item hs.1 hs.2 (x := u) (by rw [List.getElem?_toArray]; exact hu) fun h' hit' hs' => ?_
    obtain ⟨t, us, m, rfl, g, ru⟩ := In.tup_iff.mp iu
    refine wpAny_letOwnedTupleGo_listiter hit' ?_
    obtain ⟨o, e, _⟩ := id hit'
    exact hQ _ h' s.toks (fun W _ kF => iu.mono kF) ⟨hit', hs.2.extBut hs'.extBut hne⟩ (fun b o hb e => hs'.extBut b o hb e) ⟨o, e⟩
  done := fun s Q hs hQ => (Walks.list (prog := prog) (w := w) hh I a hne vs.toArray).done s _ _ (by rw [List.size_toArray, r.length]; exact hs) fun h' tk hk => hQ h' tk fun b o hb e => hk b o (by simpa using hb) e
  self := fun i s Q hs hQ => (Walks.list (prog := prog) (w := w) hh I a hne vs.toArray).self i s _ _ hs hQ
theorem Wk.range {x : Str} {px : Pos} {a : Int} {n : Nat} (hh : A.handled = none) : Wk prog w A (.Name x px) ((List.range n).map fun (i : Nat) => D.int (a + i)) F I [I] (fun i h => IsRangeIter h I (a + (i : Nat) * 1) ((n : Int) - (i : Nat)) 1) :=
  Wk.name (Walks.range hh I a 1 n) (by rw [List.length_map, List.length_range]) (fun i h st => ⟨_, st⟩) fun i d v hd hv => by
    obtain ⟨t, rfl⟩ := hv
    rw [List.getElem?_map] at hd
    obtain ⟨j, hj, rfl⟩ := Option.map_eq_some_iff.mp hd
    have : j = i := by
      have h1 := (List.getElem?_eq_some_iff.mp hj)
      obtain ⟨h2, h3⟩ := h1
      rw [List.getElem_range] at h3; exact h3.symm
    subst this
    exact In.int_iff.mpr ⟨t, by rw [Int.mul_one]⟩

variable {kvs : List (Int × D)} {kv : List (Int × Value)}
theorem InK.getD (r : InK prog w F kvs kv) {i : Nat} {k : Int} {d : D} (hd : kvs[i]? = some (k, d)) : ∃ v, kv[i]? = some (k, v) ∧ In prog w F d v := by
  induction kvs generalizing kv i with
  | nil => simp at hd
  | cons p kvs ih =>
    obtain ⟨j, c⟩ := p
    obtain ⟨u, r', rfl, hi, l⟩ := InK.cons_iff.mp r
    cases i with
    | zero => simp at hd; obtain ⟨rfl, rfl⟩ := hd; exact ⟨u, rfl, hi⟩
    | succ i => exact ih l (by simpa using hd)
theorem Wk.keys {x : Str} {px : Pos} {a : Addr} {ep : Nat} (hh : A.handled = none) (hne : a ≠ I) (r : InK prog w F kvs kv) :
    Wk prog w A (.Name x px) (kvs.map fun p => D.int p.1) F I [I, a] (fun i h => h.IsKeyIter I a i kv.length ep ∧ h.DictAt (intKind prog w) a kv ep) :=
  Wk.name (Walks.dictKeys hh I a hne kv ep) (by rw [List.length_map, r.length]) (fun i h st => by obtain ⟨⟨o, e, _⟩, _⟩ := st; exact ⟨o, e⟩) fun i d v hd hv => by
    obtain ⟨k, u, hu, hk⟩ := hv
    rw [List.getElem?_map] at hd
    obtain ⟨⟨k', d'⟩, hj, rfl⟩ := Option.map_eq_some_iff.mp hd
    obtain ⟨v', h1, h2⟩ := r.getD hj
    rw [hu] at h1; cases h1
    obtain ⟨t, rfl⟩ : ∃ t, v = .int k t := by
      cases v with
      | int j t =>
        have : j = k := by simpa [intKind, Value.isInt] using hk
        exact ⟨t, by rw [this]⟩
      | _ => simp [intKind, Value.isInt] at hk
    exact In.int_iff.mpr ⟨t, rfl⟩
theorem Wk.values {x : Str} {px : Pos} {a : Addr} {ep : Nat} (hh : A.handled = none) (hne : a ≠ I) (r : InK prog w F kvs kv) :
    Wk prog w A (.Name x px) (kvs.map fun p => p.2) F I [I, a] (fun i h => h.IsValIter I a i kv.length ep ∧ h.DictAt (intKind prog w) a kv ep) :=
  Wk.name (Walks.dictValues hh I a hne kv ep) (by rw [List.length_map, r.length]) (fun i h st => by obtain ⟨⟨o, e, _⟩, _⟩ := st; exact ⟨o, e⟩) fun i d v hd hv => by
    obtain ⟨k, hu⟩ := hv
    rw [List.getElem?_map] at hd
    obtain ⟨⟨k', d'⟩, hj, rfl⟩ := Option.map_eq_some_iff.mp hd
    obtain ⟨v', h1, h2⟩ := r.getD hj
    rw [hu] at h1; cases h1
    exact h2
theorem int_of_kind {k : Int} {v : Value} (hk : (intKind prog w).is k v = true) : ∃ t, v = .int k t := by
  cases v with
  | int j t =>
    have : j = k := by simpa [intKind, Value.isInt] using hk
    exact ⟨t, by rw [this]⟩
  | _ => simp [intKind, Value.isInt] at hk
theorem Wk.items {elts : List Expr} {x1} {pos : Pos} {a : Addr} {ep : Nat} (hh : A.handled = none) (hne : a ≠ I) (r : InK prog w F kvs kv) :
    Wk prog w A (.Tuple elts x1 pos) (kvs.map fun p => D.tup [.int p.1, p.2]) F I [I, a] (fun i h => (∃ ok ov, IsItemIter h I a i kv.length ep ok ov) ∧ h.DictAt (intKind prog w) a kv ep) where
  frame := fun i h h' s k _ => ⟨s.1.imp fun ok => Exists.imp fun ov e => k I (by simp) _ e, s.2.at' fun o e => k a (by simp) o e⟩
  item := fun i d s Q hd hs hQ => by
    rw [List.getElem?_map] at hd
    obtain ⟨⟨k, d'⟩, hj, rfl⟩ := Option.map_eq_some_iff.mp hd
    obtain ⟨v', h1, h2⟩ := r.getD hj
    obtain ⟨⟨ok, ov, hit⟩, hD⟩ := hs
    refine wpAny_pyNext_items_item hit hD h1 fun key h' hkey he hT hsz hk' => ?_
    refine wpAny_letOwnedTupleGo_items he fun h'' hit' hsb => ?_
    have hIne : I ≠ s.heap.objs.size := ne_fresh hit
    have hT2 : h''.get? s.heap.objs.size = some (tupO [key, v'] 0) := hsb.extBut _ _ hIne.symm hT
    have kk : ∀ b o, b ≠ I → s.heap.get? b = some o → h''.get? b = some o := fun b o hb e => hsb.extBut b o hb (hk' b o hb e)
    refine hQ _ h'' s.toks (fun W hW kF => ?_) ⟨⟨_, _, hit'⟩, hD.at' fun o e => kk a o hne e⟩ kk ⟨_, hit'⟩
    · obtain ⟨t, rfl⟩ := int_of_kind hkey
      refine In.tup_iff.mpr ⟨_, [_, v'], 0, rfl, hideAll_get _ hT2 fun hm => ?_, InL.cons (In.int_iff.mpr ⟨t, rfl⟩) (InL.cons (h2.mono kF) InL.nil)⟩
      obtain ⟨o, e⟩ := hW _ hm
      exact ne_fresh e rfl
  done := fun s Q hs hQ => by
    obtain ⟨⟨ok, ov, hit⟩, hD⟩ := hs
    rw [List.length_map, ← r.length] at hit
    exact wpAny_pyNext_items_end hh hit hD (by simp) fun h' he => hQ h' s.toks fun b o hb e => he b o hb e
  self := fun i s Q hs hQ => by
    obtain ⟨⟨ok, ov, hit⟩, hD⟩ := hs
    exact kcp_self hit hQ
end
end Mine

namespace Mine
variable {M : Amb} {sc : Scope} {α : Act M sc} {Γ : Gam} {Ω : List Str} {μ : Str → Option Value} {own : List (Str × Addr)} {s s' : Shared} {mods : List Str} {P : Pst}

/-- a target's names, what it binds of d -/
inductive Tgt (sc : Scope) (Ω : List Str) : Expr → D → Gam → Gam → Prop
  | name {x : Str} {px : Pos} {d : D} {Γ : Gam} : isVar sc x → x ∉ Ω → (x == ("__debug__" : Str)) = false → Tgt sc Ω (.Name x px) d Γ (Γ.set x (true, d))
  | tup2 {x y : Str} {px py pos : Pos} {n : Nat} {d e : D} {Γ : Gam} : isVar sc x → x ∉ Ω → (x == ("__debug__" : Str)) = false → isVar sc y → y ∉ Ω → (y == ("__debug__" : Str)) = false →
      Tgt sc Ω (.Tuple [.Name x px, .Name y py] n pos) (.tup [d, e]) Γ ((Γ.set x (true, d)).set y (true, e))
  | tup3 {x y z : Str} {px py pz pos : Pos} {n : Nat} {d e f : D} {Γ : Gam} : isVar sc x → x ∉ Ω → (x == ("__debug__" : Str)) = false → isVar sc y → y ∉ Ω → (y == ("__debug__" : Str)) = false → isVar sc z → z ∉ Ω → (z == ("__debug__" : Str)) = false →
      Tgt sc Ω (.Tuple [.Name x px, .Name y py, .Name z pz] n pos) (.tup [d, e, f]) Γ (((Γ.set x (true, d)).set y (true, e)).set z (true, f))
  | tup5 {x y z u v : Str} {px py pz pu pv pos : Pos} {n : Nat} {d e f g h : D} {Γ : Gam} : isVar sc x → x ∉ Ω → (x == ("__debug__" : Str)) = false → isVar sc y → y ∉ Ω → (y == ("__debug__" : Str)) = false → isVar sc z → z ∉ Ω → (z == ("__debug__" : Str)) = false →
      isVar sc u → u ∉ Ω → (u == ("__debug__" : Str)) = false → isVar sc v → v ∉ Ω → (v == ("__debug__" : Str)) = false →
      Tgt sc Ω (.Tuple [.Name x px, .Name y py, .Name z pz, .Name u pu, .Name v pv] n pos) (.tup [d, e, f, g, h]) Γ (((((Γ.set x (true, d)).set y (true, e)).set z (true, f)).set u (true, g)).set v (true, h))

theorem isTup_get {h : Heap} {a : Addr} {vs : List Value} {n : Nat} (g : h.get? a = some (tupO vs n)) : h.IsTuple a vs.toArray := ⟨_, g, rfl, _, rfl⟩

theorem St.assignT {tgt : Expr} {d : D} {Γ' : Gam} {v : Value} {Q : Unit → Shared → Prop} (S : St α Γ Ω μ own s) (T : Tgt sc Ω tgt d Γ Γ') (hi : In M.prog M.w (Fz (α.W own) s.heap) d v)
    (hQ : ∀ μ' s', St α Γ' Ω μ' own s' → Tn α mods own own s s' → Q () s') : wpAny (model M.prog M.w) α.A (assign tgt α.env v) Q NoE s := by
  have nameGo : ∀ {Γ : Gam} {μ : Str → Option Value} {s : Shared} {x : Str} {px : Pos} {d : D} {v : Value} {Q : Unit → Shared → Prop}, St α Γ Ω μ own s → isVar sc x → x ∉ Ω → (x == ("__debug__" : Str)) = false → In M.prog M.w (Fz (α.W own) s.heap) d v →
      (∀ μ' s', St α (Γ.set x (true, d)) Ω μ' own s' → Tn α mods own own s s' → Q () s') → wpAny (model M.prog M.w) α.A (assign (.Name x px) α.env v) Q NoE s := fun S hk hx hdb hi hQ =>
    wpAny_assign_Name (S.store hi hx hdb hk fun s' S' T' => hQ _ s' S' T')
  have go : ∀ {elts : List Expr} {n : Nat} {pos : Pos} {ds : List D} {v : Value} {Q : Unit → Shared → Prop}, In M.prog M.w (Fz (α.W own) s.heap) (.tup ds) v → (assignEach elts α.env).length = ds.length → (assignEach elts α.env).findIdx? (·.1) = none →
      (∀ vs s', InL M.prog M.w (Fz (α.W own) s'.heap) ds vs → St α Γ Ω μ own s' → Tn α mods own own s s' → wpAny (model M.prog M.w) α.A (assignInOrder ((assignEach elts α.env).map (·.2)) vs) Q NoE s') → wpAny (model M.prog M.w) α.A (assign (.Tuple elts n pos) α.env v) Q NoE s := fun hi hn hst h => by
    obtain ⟨a, vs, n, rfl, g, r⟩ := In.tup_iff.mp hi
    refine wpAny_assign_Tuple α.hh (isTup_get (fz_le _ _ g)) (by rw [hn, List.size_toArray, r.length]) hst fun h' hx => ?_
    have k : Keeps s { s with heap := h' } := ⟨h', s.toks, rfl, fun b o e => hx b o (ne_fresh e) e⟩
    exact h vs _ (r.mono (fz_ks (Kp.ks k))) (S.keeps k) (Tn.of_keeps k)
  have kf : ∀ {Γ : Gam} {μ : Str → Option Value} {s s' : Shared} {d : D} {v : Value}, In M.prog M.w (Fz (α.W own) s.heap) d v → Tn α mods own own s s' → In M.prog M.w (Fz (α.W own) s'.heap) d v := fun {Γ μ s s' d v} hi T => hi.mono fun b o e => by
    have hb : b ∉ α.W own := fun hb => by have := hideAll_none _ (h := s.heap) hb; rw [e] at this; cases this
    exact hideAll_get _ (T.kf b o (fun hm => hb (by
      rcases List.mem_append.mp hm with hm | hm
      · exact List.mem_append_left _ hm
      · exact List.mem_append_right _ (List.mem_append_left _ hm))) (of_hideAll _ e)) hb
  cases T with
  | name h1 h2 h3 => exact nameGo S h1 h2 h3 hi hQ
  | tup2 h1 h2 h3 h4 h5 h6 =>
    refine go hi rfl rfl fun vs s' r S' T' => ?_
    obtain ⟨v1, r1, rfl, i1, l1⟩ := InL.cons_iff.mp r
    obtain ⟨v2, r2, rfl, i2, l2⟩ := InL.cons_iff.mp l1
    cases InL.nil_iff.mp l2
    refine assignInOrder_cons (nameGo S' h1 h2 h3 i1 fun μ1 s1 S1 T1 => assignInOrder_cons (nameGo S1 h4 h5 h6 (kf (Γ := Γ) (μ := μ) i2 T1) fun μ2 s2 S2 T2 => assignInOrder_nil ?_))
    exact hQ μ2 s2 S2 (Tn.trans S T' (Tn.trans S' T1 T2))
  | tup3 h1 h2 h3 h4 h5 h6 h7 h8 h9 =>
    refine go hi rfl rfl fun vs s' r S' T' => ?_
    obtain ⟨v1, r1, rfl, i1, l1⟩ := InL.cons_iff.mp r
    obtain ⟨v2, r2, rfl, i2, l2⟩ := InL.cons_iff.mp l1
    obtain ⟨v3, r3, rfl, i3, l3⟩ := InL.cons_iff.mp l2
    cases InL.nil_iff.mp l3
    refine assignInOrder_cons (nameGo S' h1 h2 h3 i1 fun μ1 s1 S1 T1 => assignInOrder_cons (nameGo S1 h4 h5 h6 (kf (Γ := Γ) (μ := μ) i2 T1) fun μ2 s2 S2 T2 => assignInOrder_cons (nameGo S2 h7 h8 h9 (kf (Γ := Γ) (μ := μ) (kf (Γ := Γ) (μ := μ) i3 T1) T2) fun μ3 s3 S3 T3 => assignInOrder_nil ?_)))
    exact hQ μ3 s3 S3 (Tn.trans S T' (Tn.trans S' T1 (Tn.trans S1 T2 T3)))
  | tup5 h1 h2 h3 h4 h5 h6 h7 h8 h9 a1 a2 a3 b1 b2 b3 =>
    refine go hi rfl rfl fun vs s' r S' T' => ?_
    obtain ⟨v1, r1, rfl, i1, l1⟩ := InL.cons_iff.mp r
    obtain ⟨v2, r2, rfl, i2, l2⟩ := InL.cons_iff.mp l1
    obtain ⟨v3, r3, rfl, i3, l3⟩ := InL.cons_iff.mp l2
    obtain ⟨v4, r4, rfl, i4, l4⟩ := InL.cons_iff.mp l3
    obtain ⟨v5, r5, rfl, i5, l5⟩ := InL.cons_iff.mp l4
    cases InL.nil_iff.mp l5
    refine assignInOrder_cons (nameGo S' h1 h2 h3 i1 fun μ1 s1 S1 T1 => assignInOrder_cons (nameGo S1 h4 h5 h6 (kf (Γ := Γ) (μ := μ) i2 T1) fun μ2 s2 S2 T2 => assignInOrder_cons (nameGo S2 h7 h8 h9 (kf (Γ := Γ) (μ := μ) (kf (Γ := Γ) (μ := μ) i3 T1) T2) fun μ3 s3 S3 T3 =>
      assignInOrder_cons (nameGo S3 a1 a2 a3 (kf (Γ := Γ) (μ := μ) (kf (Γ := Γ) (μ := μ) (kf (Γ := Γ) (μ := μ) i4 T1) T2) T3) fun μ4 s4 S4 T4 => assignInOrder_cons (nameGo S4 b1 b2 b3 (kf (Γ := Γ) (μ := μ) (kf (Γ := Γ) (μ := μ) (kf (Γ := Γ) (μ := μ) (kf (Γ := Γ) (μ := μ) i5 T1) T2) T3) T4) fun μ5 s5 S5 T5 => assignInOrder_nil ?_)))))
    exact hQ μ5 s5 S5 (Tn.trans S T' (Tn.trans S' T1 (Tn.trans S1 T2 (Tn.trans S2 T3 (Tn.trans S3 T4 T5)))))

/-- x, y = e, e a tuple's data -/
theorem S1.assignT {elts : List Expr} {n : Nat} {tpos : Pos} {e : Expr} {pos : Pos} {d : D} {Γ' : Gam} (he : EvA α Γ e (true, d)) (T : Tgt sc Ω (.Tuple elts n tpos) d Γ Γ') (h : P .next Γ' Ω)
    (hs : swapsWithSole [.Tuple elts n tpos] e pos.line α.env = pure false := by rfl) (hw : swappedStores [.Tuple elts n tpos] e α.env = pure none := by rfl) : S1 α mods Γ Ω (.Assign [.Tuple elts n tpos] e pos) P := fun μ own s Q S hQ =>
  PyProof.Rows.Assign_Tuple (he own s _ S.cxI S.sees fun v s₁ k i => (S.keeps k).assignT (mods := mods) T i.infz fun μ' s₂ S₂ T₂ =>
    hQ .next .next _ _ _ _ s₂ S₂ (Tn.trans S (Tn.of_keeps k) T₂) trivial h) hs hw
end Mine

namespace Mine
variable {M : Amb} {sc : Scope} {α : Act M sc} {Γ : Gam} {Ω : List Str} {μ : Str → Option Value} {own : List (Str × Addr)} {s s' : Shared} {mods : List Str} {P : Pst}

theorem fz_new {W W' : List Addr} {h h' : Heap} (k : Ks h h') (hW : ∀ a ∈ W', a ∈ W ∨ h.get? a = none) : Ks (Fz W h) (Fz W' h') := fun b o e => by
  have hb : b ∉ W := fun hb => by have := hideAll_none W (h := h) hb; rw [e] at this; cases this
  have e' := of_hideAll W e
  exact hideAll_get W' (k b o e') fun hm => by
    rcases hW b hm with h1 | h1
    · exact hb h1
    · rw [e'] at h1; cases h1
theorem fz_less {W W' : List Addr} {h : Heap} (hW : ∀ a ∈ W', a ∈ W) : Ks (Fz W h) (Fz W' h) := fz_new (fun _ _ e => e) fun a ha => .inl (hW a ha)

/-- a new object becomes own, at a name -/
theorem St.adopt (S : St α Γ Ω μ own s) (k : Keeps s s') {x : Str} {a : Addr} (ha : s.heap.get? a = none) (hal : ∃ o, s'.heap.get? a = some o) (hx : ∀ d, Γ x ≠ some (false, d)) : St α Γ (x :: Ω) μ ((x, a) :: own) s' := by
  have hW : ∀ b ∈ α.W ((x, a) :: own), b ∈ α.W own ∨ s.heap.get? b = none := fun b hb => by
    rcases List.mem_cons.mp hb with rfl | hb
    · exact .inr ha
    · exact .inl hb
  have kF := fz_new (Kp.ks k) hW
  refine ⟨by rw [List.map_cons, S.names], ?_, S.fr.keeps (Kp.ks k), fun p hp => ?_, ?_, fun b hb => ?_, fun y r e => ?_⟩
  · show (a :: α.W own).Nodup
    refine List.nodup_cons.mpr ⟨fun hm => ?_, S.nd⟩
    obtain ⟨o, e⟩ := S.low a hm
    rw [ha] at e; cases e
  · rcases List.mem_cons.mp hp with rfl | hp
    · cases e : α.h₀.get? a with
      | none => rfl
      | some o => have := S.fr.keep _ _ e; rw [ha] at this; cases this
    · exact S.ownN p hp
  · obtain ⟨more, e⟩ := S.lent
    exact ⟨(x, a) :: more, by rw [e]; rfl⟩
  · rcases List.mem_cons.mp hb with rfl | hb
    · exact hal
    · exact (S.low b hb).imp fun o e => Kp.ks k _ _ e
  · obtain ⟨h1, v, h2, h3⟩ := S.vars y r e
    refine ⟨h1, v, h2, ?_⟩
    unfold VarOk at h3 ⊢
    split at h3
    · rename_i q; rw [if_pos q]; exact h3.mono kF
    · rename_i q
      rw [if_neg q]
      have hyx : y ≠ x := fun e' => by
        subst e'
        obtain ⟨b, d⟩ := r
        cases b with
        | true => exact q rfl
        | false => exact hx d e
      split at h3
      · rename_i q2
        rw [if_pos (List.mem_cons_of_mem _ q2)]
        obtain ⟨b, h4, h5, h6⟩ := h3
        exact ⟨b, h4, List.mem_cons_of_mem _ h5, h6.mono (Kp.ks k) kF⟩
      · rename_i q2
        rw [if_neg (by simpa using ⟨hyx, q2⟩)]
        exact h3.mono (fun _ _ e => e) kF
theorem Tn.adopt {x : Str} {a : Addr} (k : Keeps s s') (ha : s.heap.get? a = none) : Tn α mods own ((x, a) :: own) s s' where
  rest := by obtain ⟨h, tk, e, _⟩ := k; exact ⟨h, tk, e⟩
  kf := fun b o _ e => Kp.ks k _ _ e
  km := fun p _ _ o e => Kp.ks k _ _ e
  al := fun b o e => ⟨o, Kp.ks k _ _ e⟩
  new := fun p hp => by
    rcases List.mem_cons.mp hp with rfl | hp
    · exact .inr ha
    · exact .inl hp

/-- e makes a new object -/
noncomputable def EvN (α : Act M sc) (Γ : Gam) (e : Expr) (d : D) : Prop := ∀ own s Q, (α.cx own).I s → Sees M.prog M.w (α.cx own) Γ s →
  (∀ a s', Keeps s s' → s.heap.get? a = none → (∃ o, s'.heap.get? a = some o) → InR M.prog M.w s'.heap (Fz (a :: α.W own) s'.heap) d (.ref a) → Q (.ref a) s') → wpAny (model M.prog M.w) α.A (eval e α.env) Q NoE s

theorem size_none (h : Heap) : h.get? h.objs.size = none := by
  cases e : h.get? h.objs.size with
  | none => rfl
  | some o => exact absurd rfl (ne_fresh e)
theorem EvN.nil {pos : Pos} : EvN α Γ (.List [] pos) (.lst []) := fun own s Q hI hS hQ => by
  rw [arm_eval_List]
  refine wpAny_bind (wpAny_standAt (wpAny_bind (spliced_none ?_)))
  refine wpAny_newObj_type (hQ _ _ (Kp.push s _) (size_none _) ⟨_, Heap.get?_push_size _ rfl⟩ ⟨_, [], 0, rfl, Heap.get?_push_size _ rfl, InL.nil⟩) (by show ([] : List Value).toArray.size ≤ sizeLine; simp [sizeLine])

theorem S1.assignOwn {x : Str} {px pos : Pos} {e : Expr} {d : D} (he : EvN α Γ e d) (hk : isVar sc x) (hx : x ∉ Ω) (hx2 : ∀ d, Γ x ≠ some (false, d)) (h : P .next (Γ.set x (false, d)) (x :: Ω)) (hdb : (x == ("__debug__" : Str)) = false := by decide)
    (hs : swapsWith e (some (.Name x px)) pos.line α.env = pure false := by rfl) : S1 α mods Γ Ω (.Assign [.Name x px] e pos) P := fun μ own s Q S hQ => by
  refine wpAny_Assign_Name (he own s _ S.cxI S.sees fun a s₁ k hn hal i => ?_) hs
  have S₁ := S.adopt k hn hal hx2
  refine S₁.storeV (mods := mods) (r := (false, d)) ?_ hdb hk fun s₂ S₂ T₂ => hQ .next .next _ _ _ _ s₂ S₂ (Tn.trans S (Tn.adopt k hn) T₂) trivial h
  unfold VarOk
  rw [if_neg (by simp), if_pos (by simp)]
  exact ⟨a, rfl, by simp, i⟩

/-- return x, x an own object -/
theorem S1.retOwn {x : Str} {px pos : Pos} {d : D} (hx : Γ x = some (false, d)) (ho : x ∈ Ω) (hl : x ∉ α.lent.map (·.1)) (h : P (.ret d) Γ Ω) : S1 α mods Γ Ω (.Return (some (.Name x px)) pos) P := fun μ own s Q S hQ => by
  obtain ⟨a, hv, hao, e3⟩ := S.ownAt hx ho
  refine wpAny_Return_some (S.nameAt hx hv (hQ (.ret (.ref a)) (.ret d) _ _ _ _ s S (Tn.of_keeps (Kp.refl s)) ?_ h))
  show In M.prog M.w (Fz (α.lent.map (·.2) ++ α.W₀) s.heap) d (.ref a)
  obtain ⟨more, hmore⟩ := S.lent
  have nd := S.nd
  have kF : Ks (Fz (α.W own) s.heap) (Fz (α.lent.map (·.2) ++ α.W₀) s.heap) := fz_less fun b hb => by
    rcases List.mem_append.mp hb with hb | hb
    · rw [hmore, Act.W, List.map_append]
      exact List.mem_append_left _ (List.mem_append_right _ hb)
    · exact List.mem_append_right _ (List.mem_append_right _ hb)
  have haW : a ∉ α.lent.map (·.2) ++ α.W₀ := fun hm => by
    rcases List.mem_append.mp hm with hm | hm
    · rw [hmore, List.map_append, List.append_assoc] at nd
      have ham : a ∈ more.map (·.2) := by
        rw [hmore] at hao
        rcases List.mem_append.mp hao with h1 | h1
        · exact List.mem_map_of_mem (f := Prod.snd) h1
        · exact absurd (List.mem_map_of_mem (f := Prod.fst) h1) hl
      exact (List.nodup_append.mp nd).2.2 _ ham _ (List.mem_append_left _ hm) rfl
    · exact S.disj (List.mem_map_of_mem (f := Prod.snd) hao) (List.mem_append_right _ hm) rfl
  cases d with
  | lst ds => obtain ⟨a', vs, n, e, g, rr⟩ := e3; cases e; exact In.lst_iff.mpr ⟨_, vs, n, rfl, hideAll_get _ g haW, rr.mono kF⟩
  | dct kvs => obtain ⟨a', o, kv, e, g, q1, q2, rr⟩ := e3; cases e; exact In.dct_iff.mpr ⟨_, o, kv, rfl, hideAll_get _ g haW, q1, q2, rr.mono kF⟩
  | none => exact In.mono kF e3
  | bool b => exact In.mono kF e3
  | int i => exact In.mono kF e3
  | tup ds => exact In.mono kF e3
  | val u => exact In.mono kF e3
  | obj u os => exact In.mono kF e3
end Mine

namespace Mine
variable {M : Amb} {sc : Scope} {α : Act M sc} {Γ : Gam} {Ω : List Str} {μ : Str → Option Value} {own : List (Str × Addr)} {s s' : Shared} {mods mods' : List Str} {P : Pst} {tn : List (Str × Addr)} {J : List Addr → Heap → Prop}

noncomputable def Act.hide (α : Act M sc) (I : Addr) : Act M sc := { α with W₀ := I :: α.W₀ }
theorem hide_mem {I b : Addr} : b ∈ (α.hide I).W own ↔ b ∈ α.W own ∨ b = I := by
  show b ∈ own.map (·.2) ++ (α.ca ++ I :: α.W₀) ↔ b ∈ own.map (·.2) ++ (α.ca ++ α.W₀) ∨ b = I
  simp only [List.mem_append, List.mem_cons]
  constructor
  · rintro (h | h | h | h)
    · exact .inl (.inl h)
    · exact .inl (.inr (.inl h))
    · exact .inr h
    · exact .inl (.inr (.inr h))
  · rintro ((h | h | h) | h)
    · exact .inl h
    · exact .inr (.inl h)
    · exact .inr (.inr (.inr h))
    · exact .inr (.inr (.inl h))
theorem VarOk.re {β : Act M sc} {h h' : Heap} {x : Str} {r : Bool × D} {v : Value} (h0 : β.h₀ = α.h₀) (kF : Ks (Fz (α.W own) h) (Fz (β.W own) h')) (hc : ∀ a, (x, a) ∈ own → ∀ o, h.get? a = some o → h'.get? a = some o) (x3 : VarOk α Ω own h x r v) : VarOk β Ω own h' x r v := by
  unfold VarOk at x3 ⊢
  split at x3
  · rename_i q; rw [if_pos q]; exact x3.mono kF
  · rename_i q
    rw [if_neg q]
    split at x3
    · rename_i q2
      rw [if_pos q2]
      obtain ⟨b, rfl, h5, h6⟩ := x3
      refine ⟨b, rfl, h5, ?_⟩
      obtain ⟨rb, d⟩ := r
      dsimp only at h6 ⊢
      cases d with
      | lst ds => obtain ⟨a', vs, n, e, g, rr⟩ := h6; cases e; exact ⟨_, vs, n, rfl, hc _ h5 _ g, rr.mono kF⟩
      | dct kvs => obtain ⟨a', o, kv, e, g, q1, q2, rr⟩ := h6; cases e; exact ⟨_, o, kv, rfl, hc _ h5 _ g, q1, q2, rr.mono kF⟩
      | none => exact In.mono kF h6
      | bool b => exact In.mono kF h6
      | int i => exact In.mono kF h6
      | tup ds => exact In.mono kF h6
      | val u => exact In.mono kF h6
      | obj u os => exact In.mono kF h6
    · rename_i q2
      rw [if_neg q2, h0]
      exact x3.mono (fun _ _ e => e) kF
theorem St.hide (S : St α Γ Ω μ own s) (k : Keeps s s') {I : Addr} (hI : s.heap.get? I = none) (hal : ∃ o, s'.heap.get? I = some o) : St (α.hide I) Γ Ω μ own s' where
  names := S.names
  nd := by
    show (own.map (·.2) ++ (α.ca ++ I :: α.W₀)).Nodup
    have h1 : (I :: α.W own).Nodup := List.nodup_cons.mpr ⟨(fun hm => by (obtain ⟨o, e⟩ := S.low I hm); rw [hI] at e; cases e), S.nd⟩
    have hp : (I :: (own.map (·.2) ++ (α.ca ++ α.W₀))).Perm (own.map (·.2) ++ (α.ca ++ I :: α.W₀)) := by
      rw [← List.append_assoc, ← List.append_assoc]
      exact List.perm_middle.symm
    exact hp.nodup_iff.mp h1
  fr := have F := S.fr.keeps (Kp.ks k); ⟨F.m, F.c⟩
  ownN := S.ownN
  lent := S.lent
  low := fun b hb => by
    rcases hide_mem.mp hb with hb | rfl
    · exact (S.low b hb).imp fun o e => Kp.ks k _ _ e
    · exact hal
  vars := fun x r e => by
    obtain ⟨h1, v, h2, h3⟩ := S.vars x r e
    refine ⟨h1, v, h2, VarOk.re (α := α) rfl (fz_new (Kp.ks k) fun b hb => ?_) (fun a _ o e => Kp.ks k _ _ e) h3⟩
    rcases hide_mem.mp hb with hb | rfl
    · exact .inl hb
    · exact .inr hI
theorem St.unhide {I : Addr} (S : St (α.hide I) Γ Ω μ own s) : St α Γ Ω μ own s where
  names := S.names
  nd := by
    have h1 : (own.map (·.2) ++ (α.ca ++ I :: α.W₀)).Nodup := S.nd
    have hp : (I :: (own.map (·.2) ++ (α.ca ++ α.W₀))).Perm (own.map (·.2) ++ (α.ca ++ I :: α.W₀)) := by
      rw [← List.append_assoc, ← List.append_assoc]
      exact List.perm_middle.symm
    exact (List.nodup_cons.mp (hp.nodup_iff.mpr h1)).2
  fr := ⟨S.fr.m, S.fr.c⟩
  ownN := S.ownN
  lent := S.lent
  low := fun b hb => S.low b (hide_mem.mpr (.inl hb))
  vars := fun x r e => by
    obtain ⟨h1, v, h2, h3⟩ := S.vars x r e
    exact ⟨h1, v, h2, VarOk.re (α := α.hide I) (β := α) rfl (fz_less fun b hb => hide_mem.mpr (.inl hb)) (fun _ _ _ e => e) h3⟩
theorem hide_not {I : Addr} (S : St (α.hide I) Γ Ω μ own s) : I ∉ own.map (·.2) ++ α.ca := fun hm => by
  have h1 : (own.map (·.2) ++ (α.ca ++ I :: α.W₀)).Nodup := S.nd
  rw [← List.append_assoc] at h1
  exact (List.nodup_append.mp h1).2.2 _ hm _ (List.mem_cons_self ..) rfl
/-- the iterator takes a step -/
theorem St.stepI {I : Addr} (S : St (α.hide I) Γ Ω μ own s) {h' : Heap} (t : Nat) (hs : ∀ b o, b ≠ I → s.heap.get? b = some o → h'.get? b = some o) (hal : ∃ o, h'.get? I = some o) (h0 : α.h₀.get? I = none) : St (α.hide I) Γ Ω μ own { s with heap := h', toks := t } where
  names := S.names
  nd := S.nd
  fr := by
    have hn := hide_not S
    obtain ⟨⟨m, f, e⟩, c⟩ := S.fr
    refine ⟨⟨m, ⟨f.ns.extBut hs (fun q => hn (q ▸ List.mem_append_right _ α.L_mem)), fun b o eb => hs b o (fun q => ?_) (f.keep b o eb), f.above⟩, e⟩, fun y hy => ?_⟩
    · rw [q] at eb
      rw [show (α.hide I).h₀ = α.h₀ from rfl, h0] at eb; cases eb
    · obtain ⟨c', h1, o, h2, h3⟩ := c y hy
      exact ⟨c', h1, o, hs _ _ (fun q => hn (q ▸ List.mem_append_right _ (Act.c_mem (α := α) h1))) h2, h3⟩
  ownN := S.ownN
  lent := S.lent
  low := fun b hb => by
    by_cases hbI : b = I
    · rw [hbI]; exact hal
    · exact (S.low b hb).imp fun o e => hs b o hbI e
  vars := fun x r e => by
    obtain ⟨h1, v, h2, h3⟩ := S.vars x r e
    have hn := hide_not S
    exact ⟨h1, v, h2, VarOk.re (α := α.hide I) rfl (fz_ext (hide_mem.mpr (.inr rfl)) hs) (fun a ha o e => hs a o (fun q => hn (q ▸ List.mem_append_left _ (List.mem_map_of_mem (f := Prod.snd) ha))) e) h3⟩

theorem St.leaveI {I : Addr} (S : St (α.hide I) Γ Ω μ own s) {h' : Heap} (t : Nat) (hs : ∀ b o, b ≠ I → s.heap.get? b = some o → h'.get? b = some o) (h0 : α.h₀.get? I = none) : St α Γ Ω μ own { s with heap := h', toks := t } where
  names := S.names
  nd := S.unhide.nd
  fr := by
    have hn := hide_not S
    obtain ⟨⟨m, f, e⟩, c⟩ := S.fr
    refine ⟨⟨m, ⟨f.ns.extBut hs (fun q => hn (q ▸ List.mem_append_right _ α.L_mem)), fun b o eb => hs b o (fun q => ?_) (f.keep b o eb), f.above⟩, e⟩, fun y hy => ?_⟩
    · rw [q, h0] at eb; cases eb
    · obtain ⟨c', h1, o, h2, h3⟩ := c y hy
      exact ⟨c', h1, o, hs _ _ (fun q => hn (q ▸ List.mem_append_right _ (Act.c_mem (α := α) h1))) h2, h3⟩
  ownN := S.ownN
  lent := S.lent
  low := fun b hb => by
    by_cases hbI : b = I
    · subst hbI
      have h1 : (own.map (·.2) ++ (α.ca ++ b :: α.W₀)).Nodup := S.nd
      have hp : (b :: (own.map (·.2) ++ (α.ca ++ α.W₀))).Perm (own.map (·.2) ++ (α.ca ++ b :: α.W₀)) := by
        rw [← List.append_assoc, ← List.append_assoc]
        exact List.perm_middle.symm
      exact absurd hb (List.nodup_cons.mp (hp.nodup_iff.mpr h1)).1
    · exact (S.low b (hide_mem.mpr (.inl hb))).imp fun o e => hs b o hbI e
  vars := fun x r e => by
    obtain ⟨h1, v, h2, h3⟩ := S.vars x r e
    have hn := hide_not S
    refine ⟨h1, v, h2, VarOk.re (α := α.hide I) (β := α) rfl (fun b o e => ?_) (fun a ha o e => hs a o (fun q => hn (q ▸ List.mem_append_left _ (List.mem_map_of_mem (f := Prod.snd) ha))) e) h3⟩
    have hb : b ∉ (α.hide I).W own := fun hb => by have := hideAll_none _ (h := s.heap) hb; rw [e] at this; cases this
    exact hideAll_get _ (hs b o (fun q => hb (hide_mem.mpr (.inr q))) (of_hideAll _ e)) fun hm => hb (hide_mem.mpr (.inl hm))

/-- as Tn, but for the iterator -/
structure TnI (α : Act M sc) (I : Addr) (mods : List Str) (own own' : List (Str × Addr)) (s s' : Shared) : Prop where
  rest : ∃ h tk, s' = { s with heap := h, toks := tk }
  kf : ∀ b o, b ≠ I → b ∉ own.map (·.2) ++ α.ca → s.heap.get? b = some o → s'.heap.get? b = some o
  km : ∀ p ∈ own, p.1 ∉ mods → p.2 ≠ I → ∀ o, s.heap.get? p.2 = some o → s'.heap.get? p.2 = some o
  al : ∀ b o, b ≠ I → s.heap.get? b = some o → ∃ o', s'.heap.get? b = some o'
  new : ∀ p ∈ own', p ∈ own ∨ s.heap.get? p.2 = none

theorem TnI.step {I : Addr} {own₂ own₃ : List (Str × Addr)} {s₁ s₂ s₃ : Shared} (S : St (α.hide I) Γ Ω μ own s₁) (S₂ : ∃ Γ Ω μ, St (α.hide I) Γ Ω μ own₂ s₂) (x : TnI α I mods own own₂ s₁ s₂) (y : Tn (α.hide I) mods own₂ own₃ s₂ s₃) : TnI α I mods own own₃ s₁ s₃ where
  rest := by
    obtain ⟨h, t, rfl⟩ := x.rest
    obtain ⟨h', t', rfl⟩ := y.rest
    exact ⟨h', t', rfl⟩
  kf := fun b o hI hb e => by
    refine y.kf b o (fun hm => ?_) (x.kf b o hI hb e)
    rcases List.mem_append.mp hm with hm | hm
    · obtain ⟨p, hp, rfl⟩ := List.mem_map.mp hm
      rcases x.new p hp with h | h
      · exact hb (List.mem_append_left _ (List.mem_map_of_mem h))
      · rw [e] at h; cases h
    · exact hb (List.mem_append_right _ hm)
  km := fun p hp hn hI o e => by
    have nd1 : (own.map (·.2)).Nodup := (List.nodup_append.mp S.nd).1
    have e2 := x.km p hp hn hI o e
    by_cases h2 : p ∈ own₂
    · exact y.km p h2 hn o e2
    · refine y.kf p.2 o (fun hm => ?_) e2
      rcases List.mem_append.mp hm with hm | hm
      · obtain ⟨q, hq, hqp⟩ := List.mem_map.mp hm
        rcases x.new q hq with h | h
        · have := inj_of_nodup (·.2) nd1 h hp hqp
          exact h2 (this ▸ hq)
        · rw [hqp, e] at h; cases h
      · exact S.disj (List.mem_map_of_mem (f := Prod.snd) hp) (List.mem_append_left _ hm) rfl
  al := fun b o hI e => by
    obtain ⟨o', e'⟩ := x.al b o hI e
    exact y.al b o' e'
  new := fun p hp => by
    rcases y.new p hp with h | h
    · exact x.new p h
    · by_cases hI : p.2 = I
      · exfalso
        obtain ⟨Γ₂, Ω₂, μ₂, S₂⟩ := S₂
        obtain ⟨o, e⟩ := S₂.low I (hide_mem.mpr (.inr rfl))
        rw [hI, e] at h; cases h
      · refine .inr ?_
        cases e : s₁.heap.get? p.2 with
        | none => rfl
        | some o =>
          obtain ⟨o', e'⟩ := x.al _ o hI e
          rw [h] at e'; cases e'
theorem TnI.stepI {I : Addr} {own₂ : List (Str × Addr)} {s₁ s₂ : Shared} {h' : Heap} (t : Nat) (x : TnI α I mods own own₂ s₁ s₂) (hs : ∀ b o, b ≠ I → s₂.heap.get? b = some o → h'.get? b = some o) : TnI α I mods own own₂ s₁ { s₂ with heap := h', toks := t } where
  rest := by
    obtain ⟨h, t, rfl⟩ := x.rest
    exact ⟨h', _, rfl⟩
  kf := fun b o hI hb e => hs b o hI (x.kf b o hI hb e)
  km := fun p hp hn hI o e => hs _ o hI (x.km p hp hn hI o e)
  al := fun b o hI e => by
    obtain ⟨o', e'⟩ := x.al b o hI e
    exact ⟨o', hs b o' hI e'⟩
  new := x.new
theorem TnI.refl {I : Addr} : TnI α I mods own own s s := ⟨⟨_, _, rfl⟩, fun _ _ _ _ e => e, fun _ _ _ _ _ e => e, fun b o _ e => ⟨o, e⟩, fun p hp => .inl hp⟩
theorem TnI.fin {I : Addr} {own₂ : List (Str × Addr)} {s₁ s₂ : Shared} (k : Keeps s s₁) (hI : s.heap.get? I = none) (hm : ∀ x ∈ mods', x ∈ mods) (x : TnI α I mods' own own₂ s₁ s₂) : Tn α mods own own₂ s s₂ where
  rest := by
    obtain ⟨h, t, rfl⟩ := x.rest
    obtain ⟨h1, t1, rfl, _⟩ := k
    exact ⟨h, t, rfl⟩
  kf := fun b o hb e => x.kf b o (fun q => by rw [q, hI] at e; cases e) hb (Kp.ks k _ _ e)
  km := fun p hp hn o e => x.km p hp (fun h => hn (hm _ h)) (fun q => by rw [q, hI] at e; cases e) o (Kp.ks k _ _ e)
  al := fun b o e => x.al b o (fun q => by rw [q, hI] at e; cases e) (Kp.ks k _ _ e)
  new := fun p hp => by
    rcases x.new p hp with h | h
    · exact .inl h
    · refine .inr ?_
      cases e : s.heap.get? p.2 with
      | none => rfl
      | some o => rw [Kp.ks k _ _ e] at h; cases h

/-- what a for goes over -/
noncomputable def ItA (α : Act M sc) (mods' : List Str) (Γ : Gam) (Ω : List Str) (e tgt : Expr) (ds : List D) : Prop :=
  ∀ μ own s Q, St α Γ Ω μ own s → (∀ I fp st s', Keeps s s' → Wk M.prog M.w α.A tgt ds (Fz (I :: α.W own) s'.heap) I fp st → st 0 s'.heap → s.heap.get? I = none → (∃ o, s'.heap.get? I = some o) →
      (∀ b ∈ fp, b = I ∨ ((∃ o, s'.heap.get? b = some o) ∧ (b ∉ own.map (·.2) ++ α.ca ∨ ∃ x, x ∉ mods' ∧ (x, b) ∈ own))) → Q (.ref I) s') →
    wpAny (model M.prog M.w) α.A (eval e α.env) (fun x s₁ => wpAny (model M.prog M.w) α.A (pyIter x) Q NoE s₁) NoE s

theorem TJ.hide (t : TJ tn J α) {I : Addr} : TJ tn J (α.hide I) := ⟨t.ok, t.lent⟩
theorem S1T.for {tgt it : Expr} {body : List Stmt} {pos : Pos} {ds : List D} (t : TJ tn J α) (JJ : Nat → Gam → List Str → Prop) (hit : ItA α (tn.map (·.1) ++ mods') Γ Ω it tgt ds) (h0 : JJ 0 Γ Ω)
    (turn : ∀ i d Γ' Ω', ds[i]? = some d → JJ i Γ' Ω' → ∃ Γ'', Tgt sc Ω' tgt d Γ' Γ'' ∧ ∀ I, SpT tn J (α.hide I) mods' Γ'' Ω' body (PTurn JJ i P))
    (fin : ∀ Γ' Ω', JJ ds.length Γ' Ω' → P .next Γ' Ω') (hm : ∀ x ∈ mods', x ∈ mods := by simp)
    (hs : ∀ x, foldedSetIterable it α.env x = pure x := by intro _; rfl) : S1T tn J α mods Γ Ω (.For tgt it body [] pos) P := fun μ own s Q S hJ₀ hQ => by
  have hm2 : ∀ x ∈ tn.map (·.1) ++ mods', x ∈ tn.map (·.1) ++ mods := fun x hx => (List.mem_append.mp hx).elim (fun h => List.mem_append_left _ h) fun h => List.mem_append_right _ (hm x h)
  refine wpAny_For (hit μ own s _ S fun I fp st s₁ k Wl hst hIn hal hfp => ?_) hs
  have S₁ := S.hide k hIn hal
  have hJ₁ : J ((α.hide I).W own) s₁.heap := t.ok _ _ _ _ hJ₀ (fun b o _ e => Kp.ks k _ _ e) fun b hb => (hide_mem.mp hb).imp id (fun q => by rw [q]; exact hIn)
  have hI0 : α.h₀.get? I = none := by
    cases e : α.h₀.get? I with
    | none => rfl
    | some o => have := S.fr.keep _ _ e; rw [hIn] at this; cases this
  refine codeAny_forLoop_any (fun n s' => ∃ i Γ' Ω' μ' own', n = ds.length + 1 - i ∧ i ≤ ds.length ∧ St (α.hide I) Γ' Ω' μ' own' s' ∧ TnI α I (tn.map (·.1) ++ mods') own own' s₁ s' ∧ st i s'.heap ∧ J ((α.hide I).W own') s'.heap ∧ JJ i Γ' Ω') ?_ (ds.length + 1) ⟨0, Γ, Ω, μ, own, rfl, Nat.zero_le _, S₁, TnI.refl, hst, hJ₁, h0⟩
  rintro n s' ⟨i, Γ', Ω', μ', own', rfl, hi, S', T', hst', hJt, hJ⟩
  by_cases hlt : i < ds.length
  · obtain ⟨d, hd⟩ : ∃ d, ds[i]? = some d := ⟨_, List.getElem?_eq_getElem hlt⟩
    obtain ⟨Γ'', hT, hbody⟩ := turn i d Γ' Ω' hd hJ
    refine wpAny_mono (Wl.item i d s' (fun v s₂ => wpAny (model M.prog M.w) α.A (PySem.assign tgt α.env v) (fun _ s₂ => wpAny (model M.prog M.w) α.A (execs body α.env) (fun f s₃ => match f with
            | .next | .cont => ∃ m, m < ds.length + 1 - i ∧ (∃ i Γ' Ω' μ' own', m = ds.length + 1 - i ∧ i ≤ ds.length ∧ St (α.hide I) Γ' Ω' μ' own' s₃ ∧ TnI α I (tn.map (·.1) ++ mods') own own' s₁ s₃ ∧ st i s₃.heap ∧ J ((α.hide I).W own') s₃.heap ∧ JJ i Γ' Ω')
            | .brk => Q .next s₃
            | .ret v => Q (.ret v) s₃) NoE s₂) NoE s₂) hd hst' fun v h' tk hv hst₂ hk₂ hal₂ => ?_) (fun r s₂ h₂ => ?_) fun _ _ f => f.elim
    · have S₂ := S'.stepI tk hk₂ hal₂ hI0
      have hIW : I ∈ (α.hide I).W own' := hide_mem.mpr (.inr rfl)
      have hIT : I ∉ tn.map (·.2) := fun hm' => by
        obtain ⟨p, hp, e⟩ := List.mem_map.mp hm'
        exact hide_not S' (List.mem_append_left _ (e ▸ List.mem_map_of_mem (t.hide.inOwn S' hp)))
      have hJ₂ : J ((α.hide I).W own') h' := t.ok _ _ _ _ hJt (fun b o hb e => hk₂ b o (fun q => by subst q; rcases hb with hb | hb; exact hb hIW; exact hIT hb) e) fun b hb => .inl hb
      have T₂ := T'.stepI tk hk₂
      have hFF : Ks (Fz (I :: α.W own) s₁.heap) (Fz ((α.hide I).W own') h') := by
        intro b o e
        have hb : b ∉ I :: α.W own := fun hb => by have := hideAll_none _ (h := s₁.heap) hb; rw [e] at this; cases this
        have e' := of_hideAll _ e
        have hbI : b ≠ I := fun q => hb (q ▸ List.mem_cons_self ..)
        have hbW : b ∉ α.W own := fun q => hb (List.mem_cons_of_mem _ q)
        refine hideAll_get _ (T₂.kf b o hbI (fun hm => hbW ?_) e') fun hm => ?_
        · rcases List.mem_append.mp hm with hm | hm
          · exact List.mem_append_left _ hm
          · exact List.mem_append_right _ (List.mem_append_left _ hm)
        · rcases hide_mem.mp hm with hm | hm
          · rcases List.mem_append.mp hm with hm | hm
            · obtain ⟨p, hp, rfl⟩ := List.mem_map.mp hm
              rcases T'.new p hp with h | h
              · exact hbW (List.mem_append_left _ (List.mem_map_of_mem h))
              · rw [e'] at h; cases h
            · exact hbW (List.mem_append_right _ hm)
          · exact hbI hm
      have hst' : ∀ {own₃ : List (Str × Addr)} {s₃ : Shared}, Tn (α.hide I) (tn.map (·.1) ++ mods') own' own₃ { s' with heap := h', toks := tk } s₃ → st (i + 1) s₃.heap := fun {own₃ s₃} T₃ => by
        have Tall := TnI.step S₁ ⟨_, _, _, S₂⟩ T₂ T₃
        refine Wl.frame _ _ _ hst₂ (fun b hb o e => ?_) fun o e => T₃.kf _ o (hide_not (α := α) S₂) e
        rcases hfp b hb with rfl | ⟨⟨o₁, e₁⟩, hok⟩
        · exact T₃.kf _ o (hide_not (α := α) S₂) e
        · by_cases hbI : b = I
          · subst hbI; exact T₃.kf _ o (hide_not (α := α) S₂) e
          · rcases hok with hok | ⟨x, hx, hxo⟩
            · have e2 := T₂.kf b o₁ hbI hok e₁
              rw [e] at e2; cases e2
              exact Tall.kf b o hbI hok e₁
            · have e2 := T₂.km (x, b) hxo hx hbI o₁ e₁
              rw [e] at e2; cases e2
              exact Tall.km (x, b) hxo hx hbI o e₁
      refine S₂.assignT (mods := []) hT (hv _ (fun b hb => S'.low b hb) hFF) fun μ₃ s₃ S₃ T₃ => ?_
      have hJ₃ := t.hide.turn S₂ T₃ (fun _ _ h => nomatch h) hJ₂
      refine hbody I μ₃ own' s₃ _ S₃ hJ₃ fun f fl Γ₄ Ω₄ μ₄ own₄ s₄ S₄ T₄ hJ₄ hf hP => ?_
      have T₃₄ := Tn.trans S₂ (T₃.wide fun _ h => nomatch h) T₄
      have Tall := TnI.step S₁ ⟨_, _, _, S₂⟩ T₂ T₃₄
      have Tend := TnI.fin (mods := tn.map (·.1) ++ mods) k hIn hm2 Tall
      have hJend : J (α.W own₄) s₄.heap := t.ok _ _ _ _ hJ₄ (fun b o _ e => e) fun b hb => .inl (hide_mem.mpr (.inl hb))
      cases fl with
      | next => cases f <;> first | exact hf.elim | exact ⟨_, by omega, i + 1, Γ₄, Ω₄, μ₄, own₄, rfl, hlt, S₄, Tall, hst' T₃₄, hJ₄, hP⟩
      | cont => cases f <;> first | exact hf.elim | exact ⟨_, by omega, i + 1, Γ₄, Ω₄, μ₄, own₄, rfl, hlt, S₄, Tall, hst' T₃₄, hJ₄, hP⟩
      | brk => cases f <;> first | exact hf.elim | exact hQ .next .next _ _ _ _ _ S₄.unhide Tend hJend trivial hP
      | ret d =>
        cases f <;> first | exact hf.elim | skip
        refine hQ (.ret _) (.ret d) _ _ _ _ _ S₄.unhide Tend hJend ?_ hP
        exact In.mono (fz_less fun b hb => by
          rcases List.mem_append.mp hb with hb | hb
          · exact List.mem_append_left _ hb
          · exact List.mem_append_right _ (List.mem_cons_of_mem _ hb)) hf
    · cases r with
      | none => exact h₂.elim
      | some v =>
        dsimp only at h₂ ⊢
        refine wpAny_mono h₂ (fun _ s₃ h₃ => wpAny_mono h₃ (fun _ s₄ h₄ => wpAny_mono h₄ (fun f s₅ h₅ => ?_) fun _ _ f => f.elim) fun _ _ f => f.elim) fun _ _ f => f.elim
        cases f <;> exact h₅
  · obtain rfl : i = ds.length := by omega
    refine wpAny_mono (Wl.done s' (fun r s₂ => r = none ∧ Q .next s₂) hst' fun h' tk hk₂ => ?_) (fun r s₂ h₂ => ?_) fun _ _ f => f.elim
    · refine ⟨rfl, ?_⟩
      have hIT : I ∉ tn.map (·.2) := fun hm' => by
        obtain ⟨p, hp, e⟩ := List.mem_map.mp hm'
        exact hide_not S' (List.mem_append_left _ (e ▸ List.mem_map_of_mem (t.hide.inOwn S' hp)))
      exact hQ .next .next _ _ _ _ _ (S'.leaveI tk hk₂ hI0) (TnI.fin k hIn hm2 (T'.stepI tk hk₂)) (t.ok _ _ _ _ hJt (fun b o hb e => hk₂ b o (fun q => by subst q; rcases hb with hb | hb; exact hb (hide_mem.mpr (.inr rfl)); exact hIT hb) e) fun b hb => .inl (hide_mem.mpr (.inl hb))) trivial (fin _ _ hJ)
    · obtain ⟨rfl, h₂⟩ := h₂
      exact wpAny_execs_nil h₂
theorem S1.for {tgt it : Expr} {body : List Stmt} {pos : Pos} {ds : List D} (J : Nat → Gam → List Str → Prop) (hit : ItA α mods' Γ Ω it tgt ds) (h0 : J 0 Γ Ω)
    (turn : ∀ i d Γ' Ω', ds[i]? = some d → J i Γ' Ω' → ∃ Γ'', Tgt sc Ω' tgt d Γ' Γ'' ∧ ∀ I, Sp (α.hide I) mods' Γ'' Ω' body (PTurn J i P))
    (fin : ∀ Γ' Ω', J ds.length Γ' Ω' → P .next Γ' Ω') (hm : ∀ x ∈ mods', x ∈ mods := by simp)
    (hs : ∀ x, foldedSetIterable it α.env x = pure x := by intro _; rfl) : S1 α mods Γ Ω (.For tgt it body [] pos) P :=
  S1.ofT (S1T.for tj0 J hit h0 (fun i d Γ' Ω' h1 h2 =>
    let ⟨Γ'', h3, h4⟩ := turn i d Γ' Ω' h1 h2
    ⟨Γ'', h3, fun I => SpT.of0 (h4 I)⟩) fin hm hs)
end Mine

namespace Mine

/-- what an expression is walked over -/
noncomputable def EvI (prog : Program) (w : World) (X : Cx) (Γ : Gam) (e tgt : Expr) (ds : List D) : Prop :=
  ∀ s Q, X.I s → Sees prog w X Γ s → (∀ I fp st s', Keeps s s' → Wk prog w X.A tgt ds (Fz (I :: X.W) s'.heap) I fp st → st 0 s'.heap → s.heap.get? I = none → (∃ o, s'.heap.get? I = some o) →
      (∀ b ∈ fp, b = I ∨ ((∃ o, s'.heap.get? b = some o) ∧ b ∉ X.W)) → Q (.ref I) s') →
    wpAny (model prog w) X.A (eval e X.env) (fun x s₁ => wpAny (model prog w) X.A (pyIter x) Q NoE s₁) NoE s

section
variable {prog : Program} {w : World} {X : Cx} {Γ : Gam}

theorem fz_in {W : List Addr} {h : Heap} {a : Addr} {o : Obj} (g : (Fz W h).get? a = some o) : a ∉ W ∧ h.get? a = some o :=
  ⟨(fun hb => by have := hideAll_none W (h := h) hb; rw [g] at this; cases this), of_hideAll W g⟩
theorem none_of {s s' : Shared} (k : Keeps s s') {a : Addr} (h : s'.heap.get? a = none) : s.heap.get? a = none := by
  cases e : s.heap.get? a with
  | none => rfl
  | some o => rw [Kp.ks k _ _ e] at h; cases h
theorem fz_pushI {W : List Addr} {h : Heap} {o : Obj} : Ks (Fz W h) (Fz (h.objs.size :: W) (h.push o)) :=
  fz_new (fun _ _ e => Heap.get?_push_of_some _ e) fun b hb => by
    rcases List.mem_cons.mp hb with rfl | hb
    · exact .inr (size_none _)
    · exact .inl hb

theorem EvI.list {e : Expr} {x : Str} {px : Pos} {ds : List D} (he : Ev prog w X Γ e (true, .lst ds)) : EvI prog w X Γ e (.Name x px) ds := fun s Q hI hS hQ =>
  he s _ hI hS fun v s₁ k₁ i₁ => by
    obtain ⟨a, vs, n, rfl, g, r⟩ := In.lst_iff.mp i₁.infz
    obtain ⟨hW, g'⟩ := fz_in g
    have hne := ne_fresh g'
    refine wpAny_pyIter_list (isList_of g') (hQ _ [_, a] _ _ (Kp.trans k₁ (Kp.push s₁ _)) (Wk.list X.hh hne (r.mono fz_pushI)) ⟨⟨_, Heap.get?_push_size _ rfl, rfl, rfl⟩, ?_⟩ (none_of k₁ (size_none _)) ⟨_, Heap.get?_push_size _ rfl⟩ fun b hb => ?_)
    · exact isList_of (Heap.get?_push_of_some _ g')
    · simp only [List.mem_cons, List.not_mem_nil, or_false] at hb
      rcases hb with rfl | rfl
      · exact .inl rfl
      · exact .inr ⟨⟨_, Heap.get?_push_of_some _ g'⟩, hW⟩
theorem EvI.listTup {e : Expr} {elts : List Expr} {x1 : Nat} {px : Pos} {ds : List D} (he : Ev prog w X Γ e (true, .lst ds)) (ht : ∀ d ∈ ds, ∃ es, d = .tup es) : EvI prog w X Γ e (.Tuple elts x1 px) ds := fun s Q hI hS hQ =>
  he s _ hI hS fun v s₁ k₁ i₁ => by
    obtain ⟨a, vs, n, rfl, g, r⟩ := In.lst_iff.mp i₁.infz
    obtain ⟨hW, g'⟩ := fz_in g
    have hne := ne_fresh g'
    refine wpAny_pyIter_list (isList_of g') (hQ _ [_, a] _ _ (Kp.trans k₁ (Kp.push s₁ _)) (Wk.listTup X.hh hne (r.mono fz_pushI) ht) ⟨⟨_, Heap.get?_push_size _ rfl, rfl, rfl⟩, ?_⟩ (none_of k₁ (size_none _)) ⟨_, Heap.get?_push_size _ rfl⟩ fun b hb => ?_)
    · exact isList_of (Heap.get?_push_of_some _ g')
    · simp only [List.mem_cons, List.not_mem_nil, or_false] at hb
      rcases hb with rfl | rfl
      · exact .inl rfl
      · exact .inr ⟨⟨_, Heap.get?_push_of_some _ g'⟩, hW⟩
theorem EvI.keys {e : Expr} {x : Str} {px : Pos} {kvs : List (Int × D)} (he : Ev prog w X Γ e (true, .dct kvs)) : EvI prog w X Γ e (.Name x px) (kvs.map fun p => D.int p.1) := fun s Q hI hS hQ =>
  he s _ hI hS fun v s₁ k₁ i₁ => by
    obtain ⟨a, o, kv, rfl, g, q, hsy, r⟩ := In.dct_iff.mp i₁.infz
    obtain ⟨hW, g'⟩ := fz_in g
    have hne := ne_fresh g'
    obtain ⟨ep, hat⟩ := (dictOf_of g' q).dictAt
    refine wpAny_pyIter_dict hsy hat (hQ _ [_, a] _ _ (Kp.trans k₁ (Kp.push s₁ _)) (Wk.keys (ep := ep) X.hh hne (r.mono fz_pushI)) ⟨⟨_, Heap.get?_push_size _ rfl, rfl, rfl⟩, hat.push _⟩ (none_of k₁ (size_none _)) ⟨_, Heap.get?_push_size _ rfl⟩ fun b hb => ?_)
    simp only [List.mem_cons, List.not_mem_nil, or_false] at hb
    rcases hb with rfl | rfl
    · exact .inl rfl
    · exact .inr ⟨⟨_, Heap.get?_push_of_some _ g'⟩, hW⟩

theorem rangeSize_nat (a b : Int) : Builtin.Range.rangeSize a b 1 = ((b - a).toNat : Int) := by
  rw [rangeSize_one]; split <;> omega
theorem EvI.range2 {M : Amb} {x : Str} {px p1 pos : Pos} {e₁ : Expr} {es : List Expr} {b₁ b₂ : Bool} {a b : Int} (g : Glob1 M X (Str.ofString "range") (.type "range")) (ha : EvM M.prog M.w X Γ (e₁ :: es) [(b₁, .int a), (b₂, .int b)]) (h1 : -(2 ^ 62) ≤ a) (h2 : a < 2 ^ 62) (h3 : -(2 ^ 62) ≤ b) (h4 : b < 2 ^ 62)
    (he : starEach (e₁ :: es) X.env = (false, eval e₁ X.env) :: starEach es X.env := by rfl) (hp : ∀ pos, (backTo pos (starEach es X.env)).any (·.1) = false := by intro _; rfl) :
    EvI M.prog M.w X Γ (.Call (.Name (Str.ofString "range") p1) (e₁ :: es) [] pos) (.Name x px) ((List.range (b - a).toNat).map fun (i : Nat) => D.int (a + i)) := fun s Q hI hS hQ => by
  refine wpAny_Call_NameR (g s p1 _ hI (callWith_type1 (ha s pos _ hI hS fun vs s₂ k₂ i₂ => ?_) he (hp pos)))
  cases i₂ with
  | cons i₁ i₂ =>
    cases i₂ with
    | cons i₂ i₃ =>
      cases i₃
      obtain ⟨t₁, rfl⟩ := i₁.int
      obtain ⟨t₂, rfl⟩ := i₂.int
      refine call_range_2 ?_
      refine wpAny_pyIter_range (a := a) (b := b) (c := 1) (Heap.get?_push_size _ rfl) (small_one h1 h2 h3 h4) ?_
      generalize hs3 : ({ s₂ with heap := s₂.heap.push { cls := .type "range", data := .fields #[.int a t₁, .int b t₂, .int 1 s₂.toks] }, toks := s₂.toks + 1 } : Shared) = s₃
      have k₃ : Keeps s₂ s₃ := by rw [← hs3]; exact ⟨_, _, rfl, fun _ _ e => Heap.get?_push_of_some _ e⟩
      refine hQ _ [_] _ _ (Kp.trans (Kp.trans k₂ k₃) (Kp.push s₃ _)) (Wk.range (a := a) (n := (b - a).toNat) X.hh) ?_ (none_of (Kp.trans k₂ k₃) (size_none _)) ⟨_, Heap.get?_push_size _ rfl⟩ fun b hb => .inl (by simpa using hb)
      rw [rangeSize_nat]
      show IsRangeIter _ _ (a + ((0 : Nat) : Int) * 1) (((b - a).toNat : Int) - ((0 : Nat) : Int)) 1
      simp only [Int.natCast_zero, Int.zero_mul, Int.add_zero, Int.sub_zero]
      exact Heap.get?_push_size _ rfl
theorem EvI.range1 {M : Amb} {x : Str} {px p1 pos : Pos} {e₁ : Expr} {b₁ : Bool} {b : Int} (g : Glob1 M X (Str.ofString "range") (.type "range")) (ha : EvM M.prog M.w X Γ [e₁] [(b₁, .int b)]) (h3 : -(2 ^ 62) ≤ b) (h4 : b < 2 ^ 62)
    (he : starEach [e₁] X.env = (false, eval e₁ X.env) :: starEach [] X.env := by rfl) :
    EvI M.prog M.w X Γ (.Call (.Name (Str.ofString "range") p1) [e₁] [] pos) (.Name x px) ((List.range b.toNat).map fun (i : Nat) => D.int i) := fun s Q hI hS hQ => by
  refine wpAny_Call_NameR (g s p1 _ hI (callWith_type1 (ha s pos _ hI hS fun vs s₂ k₂ i₂ => ?_) he rfl))
  cases i₂ with
  | cons i₂ i₃ =>
      cases i₃
      obtain ⟨t₂, rfl⟩ := i₂.int
      refine call_range_1 ?_
      refine wpAny_pyIter_range (a := 0) (b := b) (c := 1) (Heap.get?_push_size _ rfl) (small_one (by decide) (by decide) h3 h4) ?_
      generalize hs3 : ({ s₂ with heap := s₂.heap.push { cls := .type "range", data := .fields #[.int 0 s₂.toks, .int b t₂, .int 1 (s₂.toks + 1)] }, toks := s₂.toks + 1 + 1 } : Shared) = s₃
      have k₃ : Keeps s₂ s₃ := by rw [← hs3]; exact ⟨_, _, rfl, fun _ _ e => Heap.get?_push_of_some _ e⟩
      have W := Wk.range (prog := M.prog) (w := M.w) (F := Fz (s₃.heap.objs.size :: X.W) (s₃.heap.push { cls := .type "range_iterator", data := .fields #[rawInt 0, rawInt (Builtin.Range.rangeSize 0 b 1), rawInt 1] })) (I := s₃.heap.objs.size) (x := x) (px := px) (a := 0) (n := b.toNat) X.hh
      simp only [Int.zero_add] at W
      refine hQ _ [_] _ _ (Kp.trans (Kp.trans k₂ k₃) (Kp.push s₃ _)) W ?_ (none_of (Kp.trans k₂ k₃) (size_none _)) ⟨_, Heap.get?_push_size _ rfl⟩ fun b hb => .inl (by simpa using hb)
      rw [rangeSize_nat, Int.sub_zero]
      show IsRangeIter _ _ (((0 : Nat) : Int) * 1) ((b.toNat : Int) - ((0 : Nat) : Int)) 1
      simp only [Int.natCast_zero, Int.zero_mul, Int.sub_zero]
      exact Heap.get?_push_size _ rfl

theorem MethodOn.dict {prog : Program} {w : World} {A : Around} {a : Addr} {o : Obj} {kv : List (Int × Value)} {s : Shared} {E : Value → Shared → Prop} (g : s.heap.get? a = some o) (q : o.IsDictOf (intKind prog w) kv) : o.cls = .type "dict" ∧ o.dict = none := by
  obtain ⟨es, ep, hx, _⟩ := q
  exact ⟨hx.1, hx.2.1⟩
/-- o.values(), o.items() -/
theorem EvI.values {o : Expr} {x : Str} {px apos pos : Pos} {kvs : List (Int × D)} (ho : Ev prog w X Γ o (true, .dct kvs)) (hbase : attributeBase o "values" X.env (eval o X.env) = eval o X.env := by rfl) (hline : (apos.endLine == pos.line) = true := by rfl) :
    EvI prog w X Γ (.Call (.Attribute o (Str.ofString "values") apos) [] [] pos) (.Name x px) (kvs.map fun p => p.2) := fun s Q hI hS hQ => by
  refine wpAny_Call_method0_late hbase hline (ho s _ hI hS fun v s₁ k₁ i₁ => ?_)
  obtain ⟨a, o, kv, rfl, g, q, hsy, r⟩ := In.dct_iff.mp i₁.infz
  obtain ⟨hW, g'⟩ := fz_in g
  have hne := ne_fresh g'
  have hD := dictOf_of g' q
  obtain ⟨c1, c2⟩ := MethodOn.dict (A := X.A) (E := NoE) g' q
  refine ⟨"dict", "dict.values", PySem.F.plainAttrs_dict, PySem.F.slot_dict_values, PySem.F.type_dict_values, hD.typeIs, (fun b e => by cases e; exact ⟨_, g', c2⟩), ?_⟩
  refine method_meetsIn PySem.F.slot_dict_values PySem.F.entry_dict_values rfl (PySem.evalArgs_none ⟨rfl, hD.typeIs, PySem.F.args_dict_values_1 _, _, meets_dict_values (intKind prog w) a hsy, ⟨kv, hD⟩, ?_⟩)
  obtain ⟨ep, hat⟩ := hD.dictAt
  generalize hs3 : ({ s₁ with heap := s₁.heap.push { cls := .type "dict_values", data := .fields #[.ref a] } } : Shared) = s₃
  have k₃ : Keeps s₁ s₃ := by rw [← hs3]; exact Kp.push s₁ _
  have hat₃ : s₃.heap.DictAt (intKind prog w) a kv ep := hat.keep (Kp.ks k₃)
  have g₃ := Kp.ks k₃ _ _ g'
  refine wpAny_pyIter_values (d := a) (kvs := kv) (ep := ep) (by rw [← hs3]; exact ⟨_, Heap.get?_push_size _ rfl, rfl, rfl⟩) hat₃ ?_
  refine hQ _ [_, a] _ _ (Kp.trans (Kp.trans k₁ k₃) (Kp.push s₃ _)) (Wk.values (ep := ep) X.hh (ne_fresh g₃) ((r.mono (fz_ks (Kp.ks k₃))).mono fz_pushI)) ⟨⟨_, Heap.get?_push_size _ rfl, rfl, rfl⟩, hat₃.push _⟩ (none_of (Kp.trans k₁ k₃) (size_none _)) ⟨_, Heap.get?_push_size _ rfl⟩ fun b hb => ?_
  simp only [List.mem_cons, List.not_mem_nil, or_false] at hb
  rcases hb with rfl | rfl
  · exact .inl rfl
  · exact .inr ⟨⟨_, Heap.get?_push_of_some _ g₃⟩, hW⟩
theorem EvI.items {o : Expr} {elts : List Expr} {x1 : Nat} {px apos pos : Pos} {kvs : List (Int × D)} (ho : Ev prog w X Γ o (true, .dct kvs)) (hbase : attributeBase o "items" X.env (eval o X.env) = eval o X.env := by rfl) (hline : (apos.endLine == pos.line) = true := by rfl) :
    EvI prog w X Γ (.Call (.Attribute o (Str.ofString "items") apos) [] [] pos) (.Tuple elts x1 px) (kvs.map fun p => D.tup [.int p.1, p.2]) := fun s Q hI hS hQ => by
  refine wpAny_Call_method0_late hbase hline (ho s _ hI hS fun v s₁ k₁ i₁ => ?_)
  obtain ⟨a, o, kv, rfl, g, q, hsy, r⟩ := In.dct_iff.mp i₁.infz
  obtain ⟨hW, g'⟩ := fz_in g
  have hne := ne_fresh g'
  have hD := dictOf_of g' q
  obtain ⟨c1, c2⟩ := MethodOn.dict (A := X.A) (E := NoE) g' q
  refine ⟨"dict", "dict.items", PySem.F.plainAttrs_dict, PySem.F.slot_dict_items, PySem.F.type_dict_items, hD.typeIs, (fun b e => by cases e; exact ⟨_, g', c2⟩), ?_⟩
  refine method_meetsIn PySem.F.slot_dict_items PySem.F.entry_dict_items rfl (PySem.evalArgs_none ⟨rfl, hD.typeIs, PySem.F.args_dict_items_1 _, _, meets_dict_items (intKind prog w) a hsy, ⟨kv, hD⟩, ?_⟩)
  obtain ⟨ep, hat⟩ := hD.dictAt
  generalize hs3 : ({ s₁ with heap := s₁.heap.push { cls := .type "dict_items", data := .fields #[.ref a] } } : Shared) = s₃
  have k₃ : Keeps s₁ s₃ := by rw [← hs3]; exact Kp.push s₁ _
  have hat₃ : s₃.heap.DictAt (intKind prog w) a kv ep := hat.keep (Kp.ks k₃)
  have g₃ := Kp.ks k₃ _ _ g'
  refine wpAny_pyIter_items (d := a) (kvs := kv) (ep := ep) (by rw [← hs3]; exact ⟨_, Heap.get?_push_size _ rfl, rfl, rfl⟩) hat₃ ?_
  refine hQ _ [_, a] _ _ (Kp.trans (Kp.trans k₁ k₃) (Kp.push s₃ _)) (Wk.items (ep := ep) X.hh (ne_fresh g₃) ((r.mono (fz_ks (Kp.ks k₃))).mono fz_pushI)) ⟨⟨_, _, Heap.get?_push_size _ rfl⟩, hat₃.push _⟩ (none_of (Kp.trans k₁ k₃) (size_none _)) ⟨_, Heap.get?_push_size _ rfl⟩ fun b hb => ?_
  simp only [List.mem_cons, List.not_mem_nil, or_false] at hb
  rcases hb with rfl | rfl
  · exact .inl rfl
  · exact .inr ⟨⟨_, Heap.get?_push_of_some _ g₃⟩, hW⟩
end

section
variable {M : Amb} {sc : Scope} {α : Act M sc} {Γ : Gam} {Ω mods' : List Str} {μ : Str → Option Value} {own : List (Str × Addr)} {s s' : Shared}
theorem ItA.of {e tgt : Expr} {ds : List D} (h : ∀ own, EvI M.prog M.w (α.cx own) Γ e tgt ds) : ItA α mods' Γ Ω e tgt ds := fun μ own s Q S hQ =>
  h own s Q S.cxI S.sees fun I fp st s' k W h0 hI hal hfp => hQ I fp st s' k W h0 hI hal fun b hb => (hfp b hb).imp id fun h => ⟨h.1, .inl fun hm => h.2 (by
    show b ∈ own.map (·.2) ++ (α.ca ++ α.W₀)
    rcases List.mem_append.mp hm with hm | hm
    · exact List.mem_append_left _ hm
    · exact List.mem_append_right _ (List.mem_append_left _ hm))⟩
theorem ItA.ofOwn {y x : Str} {py px : Pos} {ds : List D} (hy : Γ y = some (false, .lst ds)) (ho : y ∈ Ω) (hm : y ∉ mods') : ItA α mods' Γ Ω (.Name y py) (.Name x px) ds := fun μ own s Q S hQ => by
  obtain ⟨a, hv, hao, hi⟩ := S.ownAt hy ho
  obtain ⟨a', vs, n, ea, g, r⟩ := hi
  cases ea
  refine S.nameAt hy hv ?_
  have hne := ne_fresh g
  refine wpAny_pyIter_list (isList_of g) (hQ _ [_, a] _ _ (Kp.push s _) (Wk.list α.hh hne (r.mono fz_pushI)) ⟨⟨_, Heap.get?_push_size _ rfl, rfl, rfl⟩, ?_⟩ (size_none _) ⟨_, Heap.get?_push_size _ rfl⟩ fun b hb => ?_)
  · exact isList_of (Heap.get?_push_of_some _ g)
  · simp only [List.mem_cons, List.not_mem_nil, or_false] at hb
    rcases hb with rfl | rfl
    · exact .inl rfl
    · exact .inr ⟨⟨_, Heap.get?_push_of_some _ g⟩, .inr ⟨y, hm, hao⟩⟩
end
end Mine

namespace Mine

noncomputable def relab (scope outer : Scope) : Scope :=
  { scope with names := scope.names.map fun (n, k) => if (k == .free && outer.kind == .function && outer.names.lookup n == some .cell) then (n, .cell) else (n, k) }
theorem relabel_eq {scope : Scope} {env : Env} {sc : Scope} (h : env.scope = sc) : relabel scope env = relab scope sc := by subst h; rfl
theorem lookup_relab {outer : Scope} {y : Str} : ∀ {names : List (Str × NameKind)}, (names.map fun (n, k) => if (k == NameKind.free && outer.kind == .function && outer.names.lookup n == some .cell) then (n, NameKind.cell) else (n, k)).lookup y =
    (names.lookup y).map fun k => if (k == NameKind.free && outer.kind == .function && outer.names.lookup y == some .cell) then NameKind.cell else k
  | [] => rfl
  | (n, k) :: r => by
    have ih := @lookup_relab outer y r
    rw [List.map_cons]
    dsimp only
    by_cases hc : (k == NameKind.free && outer.kind == .function && outer.names.lookup n == some .cell) = true
    · rw [if_pos hc, List.lookup_cons, List.lookup_cons]
      cases hy : y == n with
      | true =>
        have := beq_iff_eq.mp hy
        subst this
        simp only [Option.map_some, if_pos hc]
      | false => exact ih
    · rw [if_neg hc, List.lookup_cons, List.lookup_cons]
      cases hy : y == n with
      | true =>
        have := beq_iff_eq.mp hy
        subst this
        simp only [Option.map_some, if_neg hc]
      | false => exact ih

theorem cellsFrom_append : ∀ (names : List (Str × NameKind)) (n : Nat) (acc : List (Str × Addr)), cellsFrom n names acc = cellsFrom n names [] ++ acc
  | [], n, acc => rfl
  | (name, kind) :: r, n, acc => by
    unfold cellsFrom
    split
    · rw [cellsFrom_append r (n + 1) ((name, n) :: acc), cellsFrom_append r (n + 1) [(name, n)]]
      simp
    · exact cellsFrom_append r n acc
theorem cellsFrom_names : ∀ (names : List (Str × NameKind)) (n : Nat) (acc : List (Str × Addr)) (p : Str × Addr), p ∈ cellsFrom n names acc → p ∈ acc ∨ (p.1, NameKind.cell) ∈ names
  | [], n, acc, p, h => .inl h
  | (name, kind) :: r, n, acc, p, h => by
    unfold cellsFrom at h
    split at h
    · rename_i hk
      rcases cellsFrom_names r (n + 1) _ p h with h1 | h1
      · rcases List.mem_cons.mp h1 with h1 | h1
        · subst h1; exact .inr (by rw [beq_iff_eq.mp hk]; exact List.mem_cons_self ..)
        · exact .inl h1
      · exact .inr (List.mem_cons_of_mem _ h1)
    · rcases cellsFrom_names r n _ p h with h1 | h1
      · exact .inl h1
      · exact .inr (List.mem_cons_of_mem _ h1)
theorem cellsFrom_has : ∀ (names : List (Str × NameKind)) (n : Nat) (acc : List (Str × Addr)) (x : Str), (x, NameKind.cell) ∈ names ∨ (∃ c, (x, c) ∈ acc) → ∃ c, (x, c) ∈ cellsFrom n names acc
  | [], n, acc, x, h => by
    rcases h with h | h
    · nomatch h
    · exact h
  | (name, kind) :: r, n, acc, x, h => by
    unfold cellsFrom
    split
    · rename_i hk
      refine cellsFrom_has r (n + 1) _ x ?_
      rcases h with h | ⟨c, h⟩
      · rcases List.mem_cons.mp h with h | h
        · cases h; exact .inr ⟨_, List.mem_cons_self ..⟩
        · exact .inl h
      · exact .inr ⟨c, List.mem_cons_of_mem _ h⟩
    · rename_i hk
      refine cellsFrom_has r n _ x ?_
      rcases h with h | ⟨c, h⟩
      · rcases List.mem_cons.mp h with h | h
        · cases h; exact absurd rfl hk
        · exact .inl h
      · exact .inr ⟨c, h⟩

/-- the cells that a block closes over -/
noncomputable def clo (cells : List (Str × Addr)) : List (Str × NameKind) → List (Str × Addr) → List (Str × Addr)
  | [], acc => acc
  | (name, kind) :: r, acc => if kind == .free then clo cells r ((name, (cells.lookup name).getD 0) :: acc) else clo cells r acc
theorem closureFor_eq {scope : Scope} {env : Env} (h : ∀ x ∈ scope.names, x.2 = .free → ∃ c, env.cells.lookup x.1 = some c) : closureFor scope env = pure (clo env.cells scope.names []) := by
  have go : ∀ (names : List (Str × NameKind)) (acc : List (Str × Addr)), (∀ x ∈ names, x.2 = .free → ∃ c, env.cells.lookup x.1 = some c) →
      (forIn names acc (fun (x : Str × NameKind) (r : List (Str × Addr)) => if (x.2 == .free) = true then (do let c ← cellOf env x.1; pure (ForInStep.yield ((x.1, c) :: r))) else pure (ForInStep.yield r)) : Sem (List (Str × Addr))) = pure (clo env.cells names acc) := by
    intro names
    induction names with
    | nil => intro acc _; rfl
    | cons p names ih =>
      intro acc h
      obtain ⟨n, k⟩ := p
      rw [List.forIn_cons]
      unfold clo
      by_cases hk : (k == NameKind.free) = true
      · obtain ⟨c, hc⟩ := h (n, k) (List.mem_cons_self ..) (beq_iff_eq.mp hk)
        rw [if_pos hk, if_pos hk]
        unfold cellOf
        dsimp only at hc ⊢
        rw [hc]
        exact ih _ fun x hx => h x (List.mem_cons_of_mem _ hx)
      · rw [if_neg hk, if_neg hk]
        exact ih _ fun x hx => h x (List.mem_cons_of_mem _ hx)
  have := go scope.names [] h
  unfold closureFor
  simp only [bind_pure]
  exact this
theorem clo_mem {cells : List (Str × Addr)} : ∀ {names : List (Str × NameKind)} {acc : List (Str × Addr)} {p : Str × Addr}, p ∈ clo cells names acc → p ∈ acc ∨ ((p.1, NameKind.free) ∈ names ∧ p.2 = (cells.lookup p.1).getD 0)
  | [], acc, p, h => .inl h
  | (name, kind) :: r, acc, p, h => by
    unfold clo at h
    split at h
    · rename_i hk
      rcases clo_mem h with h1 | h1
      · rcases List.mem_cons.mp h1 with h1 | h1
        · subst h1; exact .inr ⟨by rw [beq_iff_eq.mp hk]; exact List.mem_cons_self .., rfl⟩
        · exact .inl h1
      · exact .inr ⟨List.mem_cons_of_mem _ h1.1, h1.2⟩
    · rcases clo_mem h with h1 | h1
      · exact .inl h1
      · exact .inr ⟨List.mem_cons_of_mem _ h1.1, h1.2⟩
theorem clo_has {cells : List (Str × Addr)} : ∀ {names : List (Str × NameKind)} {acc : List (Str × Addr)} {y : Str}, (y, NameKind.free) ∈ names ∨ (∃ c, (y, c) ∈ acc) → ∃ c, (y, c) ∈ clo cells names acc
  | [], acc, y, h => by
    rcases h with h | h
    · nomatch h
    · exact h
  | (name, kind) :: r, acc, y, h => by
    unfold clo
    split
    · refine clo_has ?_
      rcases h with h | ⟨c, h⟩
      · rcases List.mem_cons.mp h with h | h
        · cases h; exact .inr ⟨_, List.mem_cons_self ..⟩
        · exact .inl h
      · exact .inr ⟨c, List.mem_cons_of_mem _ h⟩
    · rename_i hk
      refine clo_has ?_
      rcases h with h | ⟨c, h⟩
      · rcases List.mem_cons.mp h with h | h
        · cases h; exact absurd rfl hk
        · exact .inl h
      · exact .inr ⟨c, h⟩
theorem lookup_some_of_mem {β : Type} {y : Str} {c : β} : ∀ {l : List (Str × β)}, (y, c) ∈ l → ∃ c', l.lookup y = some c'
  | [], h => nomatch h
  | (z, d) :: l, h => by
    rw [List.lookup_cons]
    cases hyz : y == z with
    | true => exact ⟨d, rfl⟩
    | false =>
      rcases List.mem_cons.mp h with h | h
      · cases h; simp at hyz
      · exact lookup_some_of_mem h
theorem clo_lookup {cells : List (Str × Addr)} {names : List (Str × NameKind)} {y : Str} {c : Addr} (hy : (y, NameKind.free) ∈ names) (hc : cells.lookup y = some c) : (clo cells names []).lookup y = some c := by
  obtain ⟨c', hm⟩ := clo_has (cells := cells) (names := names) (acc := []) (.inl hy)
  obtain ⟨c'', hl⟩ := lookup_some_of_mem hm
  rw [hl]
  rcases clo_mem (lookup_mem hl) with h | h
  · nomatch h
  · have h2 := h.2
    dsimp only at h2
    rw [h2, hc]; rfl
theorem lookup_append_none {β : Type} {y : Str} {l l' : List (Str × β)} (h : ∀ p ∈ l, p.1 ≠ y) : (l ++ l').lookup y = l'.lookup y := by
  induction l with
  | nil => rfl
  | cons p l ih =>
    obtain ⟨z, d⟩ := p
    rw [List.cons_append, List.lookup_cons]
    have : (y == z) = false := by simpa using fun e => h (z, d) (List.mem_cons_self ..) e.symm
    rw [this]
    exact ih fun p hp => h p (List.mem_cons_of_mem _ hp)
theorem lookup_append_some {β : Type} {y : Str} {l l' : List (Str × β)} {c : β} (h : l.lookup y = some c) : (l ++ l').lookup y = some c := by
  induction l with
  | nil => simp at h
  | cons p l ih =>
    obtain ⟨z, d⟩ := p
    rw [List.cons_append, List.lookup_cons]
    rw [List.lookup_cons] at h
    cases hyz : y == z with
    | true => rw [hyz] at h; exact h
    | false => rw [hyz] at h; exact ih h
end Mine

namespace Mine

section
variable {prog : Program} {w : World} {A : Around} {R : Result → Shared → Prop} {s : Shared}
theorem compLoopL {elt target iter : Expr} {ifs : List Expr} {scope : Scope} {pos : Pos} {it acc : Value} {env : Env} (I : Nat → Shared → Prop)
    (turn : ∀ n s, I n s → wpAny (model prog w) A (pyNext it) (fun r s₁ => match r with
      | none => R (.ok .next) s₁
      | some v => wpAny (model prog w) A (letOwnedTupleGo target it v) (fun _ s₁' => wpAny (model prog w) A (PySem.assign target env v) (fun _ s₂ =>
          wpAny (model prog w) A (forIn ifs true fun c r => if r = true then do let ok ← isTrue c env (eval c env); pure (ForInStep.yield ok) else pure (ForInStep.yield r)) (fun ok s₃ =>
            if ok = true then wpAny (model prog w) A (eval elt env) (fun x s₄ =>
              wpAny (model prog w) A (call (.builtin "list.append") [acc, x]) (fun _ s₅ => ∃ m, m < n ∧ I m s₅) NoE s₄) NoE s₃
            else ∃ m, m < n ∧ I m s₃) NoE s₂) NoE s₁') NoE s₁) NoE s)
    (n : Nat) (h : I n s) :
    codeAny (model prog w) A (.compLoop (.ListComp elt [⟨target, iter, ifs, 0⟩] scope pos) 0 it acc env) R s := by
  refine codeAny_loop rfl I (fun n s hI => ?_) n h
  show wpAny _ A ((compTurn (.ListComp elt [⟨target, iter, ifs, 0⟩] scope pos) 0 it acc env).onRaise (fun x => do noteFrame x env; theTreesLotGoes x)) _ _ s
  refine wpAny_noted ?_
  rw [compTurn_list]
  refine wpAny_bind (wpAny_standAt (wpAny_bind (wpAny_mono (turn n s hI) (fun r s₁ h₁ => ?_) fun _ _ h' => h'.elim)))
  cases r with
  | none => exact wpAny_pure h₁
  | some v =>
    refine wpAny_bind (wpAny_mono h₁ (fun _ s₁' h₁' => ?_) fun _ _ h' => h'.elim)
    refine wpAny_bind (wpAny_mono h₁' (fun _ s₂ h₂ => wpAny_bind (wpAny_mono h₂ (fun ok s₃ h₃ => ?_) fun _ _ h' => h'.elim)) fun _ _ h' => h'.elim)
    cases ok with
    | false => exact wpAny_pure ⟨rfl, h₃⟩
    | true =>
      exact wpAny_bind (wpAny_bind (wpAny_mono h₃ (fun x s₄ h₄ => wpAny_bind (wpAny_mono h₄ (fun _ s₅ h₅ => wpAny_pure (wpAny_pure ⟨rfl, h₅⟩)) fun _ _ h' => h'.elim)) fun _ _ h' => h'.elim))
theorem compLoopD {kx vx target iter : Expr} {ifs : List Expr} {scope : Scope} {pos : Pos} {it : Value} {D : Addr} {env : Env} (I : Nat → Shared → Prop)
    (turn : ∀ n s, I n s → wpAny (model prog w) A (pyNext it) (fun r s₁ => match r with
      | none => R (.ok .next) s₁
      | some v => wpAny (model prog w) A (letOwnedTupleGo target it v) (fun _ s₁' => wpAny (model prog w) A (PySem.assign target env v) (fun _ s₂ =>
          wpAny (model prog w) A (forIn ifs true fun c r => if r = true then do let ok ← isTrue c env (eval c env); pure (ForInStep.yield ok) else pure (ForInStep.yield r)) (fun ok s₃ =>
            if ok = true then wpAny (model prog w) A (eval kx env) (fun kv s₄ => wpAny (model prog w) A (eval vx env) (fun vv s₅ =>
              wpAny (model prog w) A (dictSet D kv vv) (fun _ s₆ => ∃ m, m < n ∧ I m s₆) NoE s₅) NoE s₄) NoE s₃
            else ∃ m, m < n ∧ I m s₃) NoE s₂) NoE s₁') NoE s₁) NoE s)
    (n : Nat) (h : I n s) :
    codeAny (model prog w) A (.compLoop (.DictComp kx vx [⟨target, iter, ifs, 0⟩] scope pos) 0 it (.ref D) env) R s := by
  refine codeAny_loop rfl I (fun n s hI => ?_) n h
  show wpAny _ A ((compTurn (.DictComp kx vx [⟨target, iter, ifs, 0⟩] scope pos) 0 it (.ref D) env).onRaise (fun x => do noteFrame x env; theTreesLotGoes x)) _ _ s
  refine wpAny_noted ?_
  rw [compTurn_dict]
  refine wpAny_bind (wpAny_standAt (wpAny_bind (wpAny_mono (turn n s hI) (fun r s₁ h₁ => ?_) fun _ _ h' => h'.elim)))
  cases r with
  | none => exact wpAny_pure h₁
  | some v =>
    refine wpAny_bind (wpAny_mono h₁ (fun _ s₁' h₁' => ?_) fun _ _ h' => h'.elim)
    refine wpAny_bind (wpAny_mono h₁' (fun _ s₂ h₂ => wpAny_bind (wpAny_mono h₂ (fun ok s₃ h₃ => ?_) fun _ _ h' => h'.elim)) fun _ _ h' => h'.elim)
    cases ok with
    | false => exact wpAny_pure ⟨rfl, h₃⟩
    | true =>
      exact wpAny_bind (wpAny_bind (wpAny_mono h₃ (fun kv s₄ h₄ => wpAny_bind (wpAny_holding (wpAny_mono h₄ (fun vv s₅ h₅ => wpAny_bind (wpAny_standAt (wpAny_holding (wpAny_mono h₅ (fun _ s₆ h₆ => wpAny_pure ⟨rfl, h₆⟩) fun _ _ h' => h'.elim)))) fun _ _ h' => h'.elim))) fun _ _ h' => h'.elim))

/-- a block's environment, laid -/
theorem newBlockEnv {scope : Scope} {globals : Addr} {cl : List (Str × Addr)} {qual : Str} {outer : Env} {M : Model} {E : Value → Shared → Prop} {Q : Env → Shared → Prop}
    (hQ : ∀ ocs h', (∀ n c, (n, c) ∈ ocs → h'.IsCell c none ∧ s.heap.objs.size + 1 ≤ c) → ocs.Pairwise (fun x y => x.2 ≠ y.2) → (∀ p ∈ ocs, (p.1, NameKind.cell) ∈ scope.names) → (∀ x, (x, NameKind.cell) ∈ scope.names → ∃ c, (x, c) ∈ ocs) →
      h'.Ns s.heap.objs.size (fun _ => none) → Ks s.heap h' →
      Q { scope := scope, locals := s.heap.objs.size, globals := globals, cells := ocs ++ cl, qual := qual, func := none, code := outer.code, frame := outer.frame, builtins := outer.builtins } { s with heap := h' }) :
    wpAny M A (newFunctionEnv scope globals cl [] qual none .none (some outer)) Q E s := by
  simp only [newFunctionEnv, Option.isSome_some, if_true]
  refine wpAny_bind (wpAny_alloc ?_)
  refine wpAny_bind (wpAny_layCells _ (fun name kind cells => by cases hkc : kind == NameKind.cell <;> simp [hkc]) _ _ _ _ ?_)
  rw [show ({ s with heap := s.heap.push { cls := .type "dict", data := .dict #[] } } : Shared).heap.objs.size = s.heap.objs.size + 1 from Heap.size_push ..]
  have ok := cellsFrom_ok scope.names (s.heap.push { cls := .type "dict", data := .dict #[] }) (s.heap.objs.size + 1) [] ⟨fun _ _ hm => (nomatch hm), List.Pairwise.nil⟩ (by rw [Heap.size_push]; exact Nat.le_refl _)
  rw [Heap.size_push] at ok
  rw [List.forIn_nil]
  refine wpAny_bind (wpAny_pure (wpAny_pure ?_))
  rw [cellsFrom_append]
  refine hQ _ _ ok.empty ok.apart (fun p hp => ?_) (fun x hx => cellsFrom_has _ _ _ x (.inl hx)) ((Heap.Ns.new s.heap (.type "dict")).keeps (pushCells_keeps _ _)) fun b o e => pushCells_keeps _ _ b o (Heap.get?_push_of_some _ e)
  rcases cellsFrom_names _ _ _ p hp with h | h
  · nomatch h
  · exact h
end
end Mine

namespace Mine

/-- a block over X: its environment and its objects -/
structure Blk (X : Cx) (scope : Scope) where
  env : Env
  D : Addr
  I : Addr
  ocs : List (Str × Addr)
  s₀ : Shared
  hI : X.I s₀
  hs : env.scope = relab scope X.scp
  hg : env.globals = mainGlobals
  hb : env.builtins = builtinsNs
  nd : (env.locals :: D :: I :: ocs.map (·.2)).Nodup
  fresh : ∀ a ∈ env.locals :: D :: I :: ocs.map (·.2), s₀.heap.get? a = none
  hkf : scope.kind = .function
  cell : ∀ x, scope.names.lookup x = some .cell → ∃ c, (x, c) ∈ ocs ∧ env.cells.lookup x = some c
  free : ∀ x c, scope.names.lookup x = some .free → X.env.cells.lookup x = some c → env.cells.lookup x = some c
  wild : ∀ x, scope.names.lookup x = some .free → X.scp.names.lookup x = some .cell ∧ (x == ("__debug__" : Str)) = false

variable {prog : Program} {w : World} {X : Cx} {scope : Scope} {Γ : Gam}

noncomputable def Blk.ob (B : Blk X scope) : List Addr := B.env.locals :: B.D :: B.I :: B.ocs.map (·.2)
noncomputable def Blk.W (B : Blk X scope) : List Addr := B.ob ++ X.W
structure CV (B : Blk X scope) (μ : Str → Option Value) (h : Heap) : Prop where
  m : ∃ m, h.Ns B.env.locals m ∧ ∀ x, scope.names.lookup x = some .local → m x = μ x
  c : ∀ x c, scope.names.lookup x = some .cell → (x, c) ∈ B.ocs → B.env.cells.lookup x = some c → h.IsCell c (μ x)
theorem CV.keeps {B : Blk X scope} {μ : Str → Option Value} {h h' : Heap} (F : CV B μ h) (k : Ks h h') : CV B μ h' := by
  obtain ⟨⟨m, f, e⟩, c⟩ := F
  refine ⟨⟨m, f.keeps k, e⟩, fun x c' hx h1 h1' => ?_⟩
  obtain ⟨o, h2, h3⟩ := c x c' hx h1 h1'
  exact ⟨o, k _ _ h2, h3⟩

noncomputable def Blk.cx (B : Blk X scope) : Cx where
  A := X.A
  env := B.env
  W := B.W
  I := fun s => (Keeps B.s₀ s ∧ ∃ μ, CV B μ s.heap) ∧ ∀ a ∈ B.W, ∃ o, s.heap.get? a = some o
  mono := fun s s' h k => ⟨⟨Kp.trans h.1.1 k, h.1.2.imp fun μ F => F.keeps (Kp.ks k)⟩, fun a ha => (h.2 a ha).imp fun o e => Kp.ks k _ _ e⟩
  hh := X.hh
  room := X.room
  low := fun s h => h.2
  gl := X.gl
  hgl := fun x v hv M env' s pos Q hI => X.hgl x v hv M env' s pos Q (X.mono _ _ B.hI hI.1.1)
  scp := relab scope X.scp
  hscp := B.hs
  hfun := B.hkf
  hglo := B.hg
  hblt := B.hb
  big := fun s hI => X.big _ (X.mono _ _ B.hI hI.1.1)

/-- the state in a block -/
structure BSt (prog : Program) (w : World) (Γ : Gam) (B : Blk X scope) (Γ' : Gam) (μ : Str → Option Value) (s : Shared) : Prop where
  keep : Keeps B.s₀ s
  cv : CV B μ s.heap
  low : ∀ a ∈ B.W, ∃ o, s.heap.get? a = some o
  vars : ∀ y r, Γ' y = some r → (scope.names.lookup y = some .free ∧ Γ y = some r) ∨ ((isVar scope y ∧ (y == ("__debug__" : Str)) = false) ∧ ∃ v, μ y = some v ∧ r.1 = true ∧ In prog w (Fz B.W s.heap) r.2 v)

section
variable {B : Blk X scope} {Γ' : Gam} {μ : Str → Option Value} {s s' : Shared}
theorem BSt.cxI (S : BSt prog w Γ B Γ' μ s) : B.cx.I s := ⟨⟨S.keep, μ, S.cv⟩, S.low⟩
theorem BSt.keeps (S : BSt prog w Γ B Γ' μ s) (k : Keeps s s') : BSt prog w Γ B Γ' μ s' where
  keep := Kp.trans S.keep k
  cv := S.cv.keeps (Kp.ks k)
  low := fun a ha => (S.low a ha).imp fun o e => Kp.ks k _ _ e
  vars := fun y r e => (S.vars y r e).imp id fun ⟨h1, v, h2, h3, h4⟩ => ⟨h1, v, h2, h3, h4.mono (fz_ks (Kp.ks k))⟩
theorem relab_local {y : Str} (h : scope.names.lookup y = some .local) : (relab scope X.scp).names.lookup y = some .local := by
  show (scope.names.map _).lookup y = _
  rw [lookup_relab, h]; rfl
theorem relab_cell {y : Str} (h : scope.names.lookup y = some .cell) : (relab scope X.scp).names.lookup y = some .cell := by
  show (scope.names.map _).lookup y = _
  rw [lookup_relab, h]; rfl
theorem relab_free {y : Str} (h : scope.names.lookup y = some .free) (h' : X.scp.names.lookup y = some .cell) : (relab scope X.scp).names.lookup y = some .cell := by
  show (scope.names.map _).lookup y = _
  rw [lookup_relab, h, h', X.hfun]; rfl
theorem Blk.kind (B : Blk X scope) (y : Str) : B.env.kindOf y = (relab scope X.scp).names.lookup y := by
  show B.env.scope.names.lookup y = _
  rw [B.hs]
theorem Blk.fun (B : Blk X scope) : B.env.scope.kind = .function := by rw [B.hs]; exact B.hkf
theorem BSt.sees (S : BSt prog w Γ B Γ' μ s) (hS : Sees prog w X Γ B.s₀) : Sees prog w B.cx Γ' s := fun y r e => by
  rcases S.vars y r e with ⟨h1, h2⟩ | ⟨⟨h1, hdb⟩, v, h2, h3, h4⟩
  · obtain ⟨v, i, f, g⟩ := hS y r h2
    obtain ⟨hw, hdb⟩ := B.wild y h1
    obtain ⟨c, hc, hcell⟩ := g hw
    have hc' := B.free y c h1 hc
    have kF : Ks (Fz X.W B.s₀.heap) (Fz B.W s.heap) := fz_new (Kp.ks S.keep) fun b hb => by
      rcases List.mem_append.mp hb with hb | hb
      · exact .inr (B.fresh b hb)
      · exact .inl hb
    have hk : B.env.kindOf y = some .cell := (B.kind _).trans (relab_free h1 hw)
    refine ⟨v, ?_, fun s' pos Q k _ hQ => ?_, fun _ => ⟨c, hc', isCell_keeps (Kp.ks S.keep) hcell⟩⟩
    · obtain ⟨b, d⟩ := r
      cases b with
      | true => exact Vi.fz (i.infz.mono kF)
      | false => exact Vi.rt (i.inr.mono (Kp.ks S.keep) kF)
    · exact wpAny_Name (wpAny_loadName_cell B.fun hk hc' (isCell_keeps (Kp.ks (Kp.trans S.keep k)) hcell) hQ) hdb
  · obtain ⟨b, d⟩ := r
    dsimp only at h3 h4
    subst h3
    refine ⟨v, Vi.fz h4, fun s' pos Q k _ hQ => ?_, fun hk => ?_⟩
    · have F := S.cv.keeps (Kp.ks k)
      rcases h1 with h1 | h1
      · obtain ⟨m, hn, e⟩ := F.m
        exact wpAny_Name (wpAny_loadName_local B.fun ((B.kind _).trans (relab_local h1)) hn ((e y h1).trans h2) hQ) hdb
      · obtain ⟨c, hm, hc⟩ := B.cell y h1
        exact wpAny_Name (wpAny_loadName_cell B.fun ((B.kind _).trans (relab_cell h1)) hc (h2 ▸ F.c y c h1 hm hc) hQ) hdb
    · rcases h1 with h1 | h1
      · rw [show B.cx.scp = relab scope X.scp from rfl, relab_local h1] at hk; cases hk
      · obtain ⟨c, hm, hc⟩ := B.cell y h1
        exact ⟨c, hc, h2 ▸ S.cv.c y c h1 hm hc⟩
theorem fz_extW {W : List Addr} {h h' : Heap} {a : Addr} (ha : a ∈ W) (hs : ∀ b o, b ≠ a → h.get? b = some o → h'.get? b = some o) : Ks (Fz W h) (Fz W h') := fz_ext ha hs
theorem Blk.ne {B : Blk X scope} {a b : Addr} {l : List Addr} (h : (a :: l).Nodup) (hb : b ∈ l) : b ≠ a := fun e => (List.nodup_cons.mp h).1 (e ▸ hb)
/-- the walk's or the result's object is turned -/
theorem BSt.but (S : BSt prog w Γ B Γ' μ s) {a : Addr} {h' : Heap} (t : Nat) (ha : a = B.D ∨ a = B.I) (hs : ∀ b o, b ≠ a → s.heap.get? b = some o → h'.get? b = some o) (hal : ∃ o, h'.get? a = some o) : BSt prog w Γ B Γ' μ { s with heap := h', toks := t } := by
  have haO : a ∈ B.ob := by
    unfold Blk.ob
    rcases ha with rfl | rfl
    · exact .tail _ (.head _)
    · exact .tail _ (.tail _ (.head _))
  have haC : B.env.locals ≠ a := by
    intro e
    have := (List.nodup_cons.mp B.nd).1
    rcases ha with rfl | rfl
    · exact this (e ▸ List.mem_cons_self ..)
    · exact this (e ▸ List.mem_cons_of_mem _ (List.mem_cons_self ..))
  have hoc : a ∉ B.ocs.map (·.2) := by
    have h1 := (List.nodup_cons.mp B.nd).2
    have h2 := List.nodup_cons.mp h1
    have h3 := List.nodup_cons.mp h2.2
    rcases ha with rfl | rfl
    · exact fun hm => h2.1 (List.mem_cons_of_mem _ hm)
    · exact h3.1
  have haW : a ∈ B.W := List.mem_append_left _ haO
  refine ⟨?_, ⟨?_, fun x c h1 h2 h2' => ?_⟩, fun b hb => ?_, fun y r e => (S.vars y r e).imp id fun ⟨h1, v, h2, h3, h4⟩ => ⟨h1, v, h2, h3, h4.mono (fz_ext haW hs)⟩⟩
  · obtain ⟨h1, t1, rfl, k1⟩ := S.keep
    exact ⟨h', t, rfl, fun b o e => hs b o (fun q => by rw [q, B.fresh a haO] at e; cases e) (k1 b o e)⟩
  · obtain ⟨m, hn, e⟩ := S.cv.m
    exact ⟨m, hn.extBut hs haC, e⟩
  · obtain ⟨o, h3, h4⟩ := S.cv.c x c h1 h2 h2'
    exact ⟨o, hs c o (fun q => hoc (q ▸ List.mem_map_of_mem (f := Prod.snd) h2)) h3, h4⟩
  · by_cases hba : b = a
    · rw [hba]; exact hal
    · exact (S.low b hb).imp fun o e => hs b o hba e
/-- a name of the block is stored -/
theorem BSt.store {x : Str} {v : Value} {d : D} {Q : Unit → Shared → Prop} (S : BSt prog w Γ B Γ' μ s) (hi : In prog w (Fz B.W s.heap) d v) (hdb : (x == ("__debug__" : Str)) = false) (hk : isVar scope x)
    (hQ : ∀ s', BSt prog w Γ B (Γ'.set x (true, d)) (Mst μ x v) s' → (∃ a ∈ B.ob, a ≠ B.D ∧ a ≠ B.I ∧ ∃ h t, s' = { s with heap := h, toks := t } ∧ ∀ b o, b ≠ a → s.heap.get? b = some o → h.get? b = some o) → Q () s') : wpAny (model prog w) X.A (storeName B.env x v) Q NoE s := by
  have fin : ∀ {a : Addr} {h' : Heap} (t : Nat), a ∈ B.ob → Heap.SameBut a s.heap h' → (∃ o, h'.get? a = some o) → CV B (Mst μ x v) h' → BSt prog w Γ B (Γ'.set x (true, d)) (Mst μ x v) { s with heap := h', toks := t } := by
    intro a h' t haO hs hal F'
    have haW : a ∈ B.W := List.mem_append_left _ haO
    refine ⟨?_, F', fun b hb => ?_, fun y r e => ?_⟩
    · obtain ⟨h1, t1, rfl, k1⟩ := S.keep
      exact ⟨h', t, rfl, fun b o e => hs.extBut b o (fun q => by rw [q, B.fresh a haO] at e; cases e) (k1 b o e)⟩
    · by_cases hba : b = a
      · rw [hba]; exact hal
      · exact (S.low b hb).imp fun o e => hs.extBut b o hba e
    · by_cases hy : y = x
      · subst hy
        rw [Gam.set, if_pos rfl] at e
        cases e
        exact .inr ⟨⟨hk, hdb⟩, v, by rw [Mst, if_pos rfl], rfl, hi.mono (fz_but haW hs)⟩
      · rw [Gam.set, if_neg hy] at e
        exact (S.vars y r e).imp id fun ⟨h1, v, h2, h3, h4⟩ => ⟨h1, v, by rw [Mst, if_neg hy]; exact h2, h3, h4.mono (fz_but haW hs)⟩
  have nd1 := List.nodup_cons.mp B.nd
  have nd2 := List.nodup_cons.mp nd1.2
  have nd3 := List.nodup_cons.mp nd2.2
  rcases hk with hk | hk
  · obtain ⟨m, hn, e⟩ := S.cv.m
    refine wpAny_storeName_local ((B.kind _).trans (relab_local hk)) hn (fun h' hn' hs => ?_) (by rw [B.fun]; rfl)
    have hCO : B.env.locals ∈ B.ob := .head _
    have hal : ∃ o, h'.get? B.env.locals = some o := by obtain ⟨o, _, _, ho, _⟩ := hn'; exact ⟨o, ho⟩
    refine hQ _ (fin _ hCO hs hal ⟨⟨_, hn', fun y hy => ?_⟩, fun y c h1 h2 h2' => ?_⟩) ⟨_, hCO, fun e => nd1.1 (e ▸ List.mem_cons_self ..), fun e => nd1.1 (e ▸ List.mem_cons_of_mem _ (List.mem_cons_self ..)), _, _, rfl, hs.extBut⟩
    · unfold Mst; split
      · rfl
      · exact e y hy
    · obtain ⟨o, h3, h4⟩ := S.cv.c y c h1 h2 h2'
      have hyx : y ≠ x := fun q => by rw [q, hk] at h1; cases h1
      exact ⟨o, hs.extBut _ _ (fun q => nd1.1 (q ▸ List.mem_cons_of_mem _ (List.mem_cons_of_mem _ (List.mem_map_of_mem (f := Prod.snd) h2)))) h3, by rw [Mst, if_neg hyx]; exact h4⟩
  · obtain ⟨c, hm, hc⟩ := B.cell x hk
    have hcm : c ∈ B.ocs.map (·.2) := List.mem_map_of_mem (f := Prod.snd) hm
    have hCO : c ∈ B.ob := .tail _ (.tail _ (.tail _ hcm))
    refine wpAny_storeName_cell B.fun ((B.kind _).trans (relab_cell hk)) hc (S.cv.c x c hk hm hc) (fun h' hv hs => ?_)
    have hal : ∃ o, h'.get? c = some o := by obtain ⟨o, ho, _⟩ := hv; exact ⟨o, ho⟩
    refine hQ _ (fin _ hCO hs hal ⟨?_, fun y c' h1 h2 h2' => ?_⟩) ⟨_, hCO, fun e => nd2.1 (e ▸ List.mem_cons_of_mem _ hcm), fun e => nd3.1 (e ▸ hcm), _, _, rfl, hs.extBut⟩
    · obtain ⟨m, hn, e⟩ := S.cv.m
      exact ⟨m, hn.extBut hs.extBut fun q => nd1.1 (q ▸ List.mem_cons_of_mem _ (List.mem_cons_of_mem _ hcm)), fun y hy => by
        have hyx : y ≠ x := fun q => by rw [q, hk] at hy; cases hy
        rw [Mst, if_neg hyx]; exact e y hy⟩
    · by_cases hyx : y = x
      · subst hyx
        rw [hc] at h2'; cases h2'
        rw [Mst, if_pos rfl]; exact hv
      · obtain ⟨o, h3, h4⟩ := S.cv.c y c' h1 h2 h2'
        have hne : c' ≠ c := fun q => hyx (congrArg Prod.fst (inj_of_nodup (·.2) nd3.2 h2 hm q))
        exact ⟨o, hs.extBut _ _ hne h3, by rw [Mst, if_neg hyx]; exact h4⟩
end
end Mine

namespace Mine
variable {prog : Program} {w : World} {X : Cx} {scope : Scope} {Γ : Gam}

/-- what the storing of a block's names turns -/
noncomputable def BTn (B : Blk X scope) (s s' : Shared) : Prop := (∃ h t, s' = { s with heap := h, toks := t }) ∧ ∀ b o, (b ∉ B.ob ∨ b = B.D ∨ b = B.I) → s.heap.get? b = some o → s'.heap.get? b = some o
theorem BTn.refl {B : Blk X scope} {s : Shared} : BTn B s s := ⟨⟨_, _, rfl⟩, fun _ _ _ e => e⟩
theorem BTn.of_keeps {B : Blk X scope} {s s' : Shared} (k : Keeps s s') : BTn B s s' := by
  obtain ⟨h, t, rfl, k⟩ := k
  exact ⟨⟨h, t, rfl⟩, fun b o _ e => k b o e⟩
theorem BTn.trans {B : Blk X scope} {a b c : Shared} (x : BTn B a b) (y : BTn B b c) : BTn B a c := by
  obtain ⟨⟨h, t, rfl⟩, k⟩ := x
  obtain ⟨⟨h', t', rfl⟩, k'⟩ := y
  exact ⟨⟨h', t', rfl⟩, fun b o hb e => k' b o hb (k b o hb e)⟩

theorem BSt.assignT {B : Blk X scope} {Γ' Γ'' : Gam} {μ : Str → Option Value} {s : Shared} {tgt : Expr} {d : D} {v : Value} {Q : Unit → Shared → Prop} (S : BSt prog w Γ B Γ' μ s) (T : Tgt scope [] tgt d Γ' Γ'') (hi : In prog w (Fz B.W s.heap) d v)
    (hQ : ∀ μ' s', BSt prog w Γ B Γ'' μ' s' → BTn B s s' → Q () s') : wpAny (model prog w) X.A (PySem.assign tgt B.env v) Q NoE s := by
  have nameGo : ∀ {Γ₁ : Gam} {μ : Str → Option Value} {s : Shared} {x : Str} {px : Pos} {d : D} {v : Value} {Q : Unit → Shared → Prop}, BSt prog w Γ B Γ₁ μ s → isVar scope x → (x == ("__debug__" : Str)) = false → In prog w (Fz B.W s.heap) d v →
      (∀ μ' s', BSt prog w Γ B (Γ₁.set x (true, d)) μ' s' → BTn B s s' → Q () s') → wpAny (model prog w) X.A (PySem.assign (.Name x px) B.env v) Q NoE s := fun {Γ₁ μ s x px d v Q} S hk hdb hi hQ =>
    wpAny_assign_Name (S.store hi hdb hk fun s' S' ⟨a, ha, hD, hI, h, t, e, hs⟩ => hQ _ s' S' ⟨⟨h, t, e⟩, fun b o hb eb => by
      subst e
      exact hs b o (fun q => by
        subst q
        rcases hb with hb | hb | hb
        · exact hb ha
        · exact hD hb
        · exact hI hb) eb⟩)
  have go : ∀ {elts : List Expr} {n : Nat} {pos : Pos} {ds : List D} {v : Value} {Q : Unit → Shared → Prop}, In prog w (Fz B.W s.heap) (.tup ds) v → (assignEach elts B.env).length = ds.length → (assignEach elts B.env).findIdx? (·.1) = none →
      (∀ vs s', InL prog w (Fz B.W s'.heap) ds vs → BSt prog w Γ B Γ' μ s' → BTn B s s' → wpAny (model prog w) X.A (assignInOrder ((assignEach elts B.env).map (·.2)) vs) Q NoE s') → wpAny (model prog w) X.A (PySem.assign (.Tuple elts n pos) B.env v) Q NoE s := fun hi hn hst h => by
    obtain ⟨a, vs, n, rfl, g, r⟩ := In.tup_iff.mp hi
    refine wpAny_assign_Tuple X.hh (isTup_get (fz_le _ _ g)) (by rw [hn, List.size_toArray, r.length]) hst fun h' hx => ?_
    have k : Keeps s { s with heap := h' } := ⟨h', s.toks, rfl, fun b o e => hx b o (ne_fresh e) e⟩
    exact h vs _ (r.mono (fz_ks (Kp.ks k))) (S.keeps k) (BTn.of_keeps k)
  have kf : ∀ {s s' : Shared} {d : D} {v : Value}, In prog w (Fz B.W s.heap) d v → BTn B s s' → In prog w (Fz B.W s'.heap) d v := fun {s s' d v} hi T => hi.mono fun b o e => by
    have hb : b ∉ B.W := fun hb => by have := hideAll_none _ (h := s.heap) hb; rw [e] at this; cases this
    exact hideAll_get _ (T.2 b o (.inl fun hm => hb (List.mem_append_left _ hm)) (of_hideAll _ e)) hb
  cases T with
  | name h1 h2 h3 => exact nameGo S h1 h3 hi hQ
  | tup2 h1 h2 h3 h4 h5 h6 =>
    refine go hi rfl rfl fun vs s' r S' T' => ?_
    obtain ⟨v1, r1, rfl, i1, l1⟩ := InL.cons_iff.mp r
    obtain ⟨v2, r2, rfl, i2, l2⟩ := InL.cons_iff.mp l1
    cases InL.nil_iff.mp l2
    refine assignInOrder_cons (nameGo S' h1 h3 i1 fun μ1 s1 S1 T1 => assignInOrder_cons (nameGo S1 h4 h6 (kf i2 T1) fun μ2 s2 S2 T2 => assignInOrder_nil ?_))
    exact hQ μ2 s2 S2 (BTn.trans T' (BTn.trans T1 T2))
  | tup3 h1 h2 h3 h4 h5 h6 h7 h8 h9 =>
    refine go hi rfl rfl fun vs s' r S' T' => ?_
    obtain ⟨v1, r1, rfl, i1, l1⟩ := InL.cons_iff.mp r
    obtain ⟨v2, r2, rfl, i2, l2⟩ := InL.cons_iff.mp l1
    obtain ⟨v3, r3, rfl, i3, l3⟩ := InL.cons_iff.mp l2
    cases InL.nil_iff.mp l3
    refine assignInOrder_cons (nameGo S' h1 h3 i1 fun μ1 s1 S1 T1 => assignInOrder_cons (nameGo S1 h4 h6 (kf i2 T1) fun μ2 s2 S2 T2 => assignInOrder_cons (nameGo S2 h7 h9 (kf (kf i3 T1) T2) fun μ3 s3 S3 T3 => assignInOrder_nil ?_)))
    exact hQ μ3 s3 S3 (BTn.trans T' (BTn.trans T1 (BTn.trans T2 T3)))
  | tup5 h1 h2 h3 h4 h5 h6 h7 h8 h9 a1 a2 a3 b1 b2 b3 =>
    refine go hi rfl rfl fun vs s' r S' T' => ?_
    obtain ⟨v1, r1, rfl, i1, l1⟩ := InL.cons_iff.mp r
    obtain ⟨v2, r2, rfl, i2, l2⟩ := InL.cons_iff.mp l1
    obtain ⟨v3, r3, rfl, i3, l3⟩ := InL.cons_iff.mp l2
    obtain ⟨v4, r4, rfl, i4, l4⟩ := InL.cons_iff.mp l3
    obtain ⟨v5, r5, rfl, i5, l5⟩ := InL.cons_iff.mp l4
    cases InL.nil_iff.mp l5
    refine assignInOrder_cons (nameGo S' h1 h3 i1 fun μ1 s1 S1 T1 => assignInOrder_cons (nameGo S1 h4 h6 (kf i2 T1) fun μ2 s2 S2 T2 => assignInOrder_cons (nameGo S2 h7 h9 (kf (kf i3 T1) T2) fun μ3 s3 S3 T3 =>
      assignInOrder_cons (nameGo S3 a1 a3 (kf (kf (kf i4 T1) T2) T3) fun μ4 s4 S4 T4 => assignInOrder_cons (nameGo S4 b1 b3 (kf (kf (kf (kf i5 T1) T2) T3) T4) fun μ5 s5 S5 T5 => assignInOrder_nil ?_)))))
    exact hQ μ5 s5 S5 (BTn.trans T' (BTn.trans T1 (BTn.trans T2 (BTn.trans T3 (BTn.trans T4 T5)))))

/-- the tests of a block -/
noncomputable def TrL (prog : Program) (w : World) (X : Cx) (Γ : Gam) (ifs : List Expr) (b : Bool) : Prop :=
  ∀ s Q, X.I s → Sees prog w X Γ s → (∀ s', Keeps s s' → Q b s') → wpAny (model prog w) X.A (forIn ifs true fun c r => if r = true then do let ok ← isTrue c X.env (eval c X.env); pure (ForInStep.yield ok) else pure (ForInStep.yield r)) Q NoE s
theorem TrL.nil {X : Cx} {Γ : Gam} : TrL prog w X Γ [] true := fun s Q hI hS hQ => by
  rw [List.forIn_nil]
  exact wpAny_pure (hQ s (Kp.refl s))
theorem TrL.one {X : Cx} {Γ : Gam} {t : Expr} {b : Bool} (h : Tr prog w X Γ t b) : TrL prog w X Γ [t] b := fun s Q hI hS hQ => by
  rw [List.forIn_cons, if_pos rfl]
  refine wpAny_bind (wpAny_bind (h s _ hI hS fun s' k => wpAny_pure ?_))
  show wpAny _ _ (forIn [] b _) _ _ _
  rw [List.forIn_nil]
  exact wpAny_pure (hQ s' k)

noncomputable def Gam.free (names : List (Str × NameKind)) (Γ : Gam) : Gam := fun y => if names.lookup y = some .free then Γ y else none
theorem Gam.free_eq {names : List (Str × NameKind)} {Γ : Gam} {y : Str} (h : names.lookup y = some .free) : Gam.free names Γ y = Γ y := if_pos h

/-- what is asked of a block's names -/
structure BlkOk (X : Cx) (Γ : Gam) (scope : Scope) : Prop where
  hk : scope.kind = .function
  nm : ∀ x ∈ scope.names, x.2 = .local → scope.names.lookup x.1 = some .local
  fr : ∀ x ∈ scope.names, x.2 = .free → (scope.names.lookup x.1 = some .free ∧ X.scp.names.lookup x.1 = some .cell ∧ (x.1 == ("__debug__" : Str)) = false) ∧ ∃ r, Γ x.1 = some r
  ce : ∀ x ∈ scope.names, x.2 = .cell → scope.names.lookup x.1 = some .cell

theorem blk_closure (ok : BlkOk X Γ scope) {s : Shared} (hS : Sees prog w X Γ s) : closureFor scope X.env = pure (clo X.env.cells scope.names []) := closureFor_eq fun x hx hf => by
  obtain ⟨⟨_, hw, _⟩, r, hr⟩ := ok.fr x hx hf
  obtain ⟨v, _, _, g⟩ := hS _ r hr
  obtain ⟨c, hc, _⟩ := g hw
  exact ⟨c, hc⟩

/-- the block as it is entered -/
theorem blk_enter (ok : BlkOk X Γ scope) {s₀ s : Shared} {M : Model} {D I : Addr} {Q : Env → Shared → Prop} (hI : X.I s₀) (hS : Sees prog w X Γ s₀) (k : Keeps s₀ s) (hD : s₀.heap.get? D = none) (hI' : s₀.heap.get? I = none) (hDI : D ≠ I) (haD : ∃ o, s.heap.get? D = some o) (haI : ∃ o, s.heap.get? I = some o)
    (hQ : ∀ (B : Blk X scope) (env : Env) s', { env with scope := relabel scope X.env } = B.env → env.locals = B.env.locals → B.D = D → B.I = I → B.s₀ = s₀ → Keeps s s' → (∀ a ∈ B.ob, a = D ∨ a = I ∨ s.heap.get? a = none) → BSt prog w Γ B (Gam.free scope.names Γ) (fun _ => none) s' → Q env s') :
    wpAny M X.A (newFunctionEnv scope X.env.globals (clo X.env.cells scope.names []) [] X.env.qual none .none (some X.env)) Q NoE s := by
  refine newBlockEnv fun ocs h' h1 h2 h3 h4 h5 h6 => ?_
  have kk : Keeps s { s with heap := h' } := ⟨h', s.toks, rfl, h6⟩
  have hDlt : D < s.heap.objs.size := by obtain ⟨o, e⟩ := haD; exact Heap.lt_size e
  have hIlt : I < s.heap.objs.size := by obtain ⟨o, e⟩ := haI; exact Heap.lt_size e
  have oc_lt : ∀ p ∈ ocs, s.heap.objs.size + 1 ≤ p.2 := fun p hp => (h1 p.1 p.2 hp).2
  have fresh_ge : ∀ a, s.heap.objs.size ≤ a → s.heap.get? a = none := fun a ha => by
    cases e : s.heap.get? a with
    | none => rfl
    | some o => exact absurd (Heap.lt_size e) (Nat.not_lt.mpr ha)
  have nd : (s.heap.objs.size :: D :: I :: ocs.map (·.2)).Nodup := by
    have big : ∀ a ∈ ocs.map (·.2), s.heap.objs.size + 1 ≤ a := fun a ha => by
      obtain ⟨p, hp, rfl⟩ := List.mem_map.mp ha
      exact oc_lt p hp
    refine List.nodup_cons.mpr ⟨fun hm => ?_, List.nodup_cons.mpr ⟨fun hm => ?_, List.nodup_cons.mpr ⟨fun hm => ?_, ?_⟩⟩⟩
    · rcases List.mem_cons.mp hm with e | hm
      · exact Nat.ne_of_gt hDlt e
      · rcases List.mem_cons.mp hm with e | hm
        · exact Nat.ne_of_gt hIlt e
        · exact Nat.not_succ_le_self _ (big _ hm)
    · rcases List.mem_cons.mp hm with e | hm
      · exact hDI e
      · exact Nat.not_succ_le_self _ (Nat.le_of_lt (Nat.lt_of_lt_of_le (Nat.succ_lt_succ hDlt) (big _ hm)))
    · exact Nat.not_succ_le_self _ (Nat.le_of_lt (Nat.lt_of_lt_of_le (Nat.succ_lt_succ hIlt) (big _ hm)))
    · exact List.pairwise_map.mpr h2
  have fr0 : ∀ a ∈ s.heap.objs.size :: D :: I :: ocs.map (·.2), s₀.heap.get? a = none := fun a ha => by
    rcases List.mem_cons.mp ha with rfl | ha
    · exact none_of k (size_none _)
    · rcases List.mem_cons.mp ha with rfl | ha
      · exact hD
      · rcases List.mem_cons.mp ha with rfl | ha
        · exact hI'
        · obtain ⟨p, hp, rfl⟩ := List.mem_map.mp ha
          exact none_of k (fresh_ge _ (Nat.le_of_lt (oc_lt p hp)))
  have cl_lk : ∀ x, scope.names.lookup x = some .cell → ∃ c, (x, c) ∈ ocs ∧ (ocs ++ clo X.env.cells scope.names []).lookup x = some c := fun x hx => by
    obtain ⟨c, hc⟩ := h4 x (lookup_mem hx)
    obtain ⟨c', hc'⟩ := lookup_some_of_mem hc
    exact ⟨c', lookup_mem hc', lookup_append_some hc'⟩
  let B : Blk X scope := {
    env := { scope := relabel scope X.env, locals := s.heap.objs.size, globals := X.env.globals, cells := ocs ++ clo X.env.cells scope.names [], qual := X.env.qual, func := none, code := X.env.code, frame := X.env.frame, builtins := X.env.builtins }
    D := D, I := I, ocs := ocs, s₀ := s₀, hI := hI
    hs := relabel_eq X.hscp
    hg := X.hglo
    hb := X.hblt
    nd := nd
    fresh := fr0
    hkf := ok.hk
    cell := cl_lk
    free := fun x c hx hc => by
      have hm := lookup_mem hx
      refine (lookup_append_none fun p hp e => ?_).trans (clo_lookup hm hc)
      have := ok.ce _ (h3 p hp) rfl
      dsimp only at this
      rw [e, hx] at this; cases this
    wild := fun x hx => by
      obtain ⟨⟨_, h1, h2⟩, _⟩ := ok.fr _ (lookup_mem hx) rfl
      exact ⟨h1, h2⟩ }
  have hob : ∀ a ∈ B.ob, a = D ∨ a = I ∨ s.heap.get? a = none := fun a ha => by
    rcases List.mem_cons.mp ha with rfl | ha
    · exact .inr (.inr (size_none _))
    · rcases List.mem_cons.mp ha with rfl | ha
      · exact .inl rfl
      · rcases List.mem_cons.mp ha with rfl | ha
        · exact .inr (.inl rfl)
        · obtain ⟨p, hp, rfl⟩ := List.mem_map.mp ha
          exact .inr (.inr (fresh_ge _ (Nat.le_of_lt (oc_lt p hp))))
  refine hQ B _ _ rfl rfl rfl rfl rfl kk hob ⟨Kp.trans k kk, ⟨⟨_, h5, fun _ _ => rfl⟩, fun x c hx hm hc => (h1 x c hm).1⟩, fun a ha => ?_, fun y r e => ?_⟩
  · rcases List.mem_append.mp ha with ha | ha
    · rcases List.mem_cons.mp ha with rfl | ha
      · obtain ⟨o, _, _, ho, _⟩ := h5
        exact ⟨o, ho⟩
      · rcases List.mem_cons.mp ha with rfl | ha
        · exact haD.imp fun o e => h6 _ _ e
        · rcases List.mem_cons.mp ha with rfl | ha
          · exact haI.imp fun o e => h6 _ _ e
          · obtain ⟨p, hp, rfl⟩ := List.mem_map.mp ha
            obtain ⟨⟨o, ho, _⟩, _⟩ := h1 p.1 p.2 hp
            exact ⟨o, ho⟩
    · exact (X.low _ (X.mono _ _ hI k) a ha).imp fun o e => h6 _ _ e
  · by_cases hy : scope.names.lookup y = some .free
    · rw [Gam.free_eq hy] at e
      exact .inl ⟨hy, e⟩
    · rw [Gam.free, if_neg hy] at e; cases e
end Mine

namespace Mine
variable {prog : Program} {w : World} {X : Cx} {scope : Scope} {Γ : Gam}

theorem BSt.weak {B : Blk X scope} {Γ' : Gam} {μ : Str → Option Value} {s : Shared} (S : BSt prog w Γ B Γ' μ s) : BSt prog w Γ B (Gam.free scope.names Γ) μ s :=
  ⟨S.keep, S.cv, S.low, fun y r e => by
    by_cases hy : scope.names.lookup y = some .free
    · rw [Gam.free_eq hy] at e
      exact .inl ⟨hy, e⟩
    · rw [Gam.free, if_neg hy] at e; cases e⟩

theorem fz_kept {W W' : List Addr} {h h' : Heap} (k : ∀ b o, b ∉ W → h.get? b = some o → h'.get? b = some o) (hW : ∀ b o, h.get? b = some o → b ∉ W → b ∉ W') : Ks (Fz W h) (Fz W' h') := fun b o e => by
  have hb := fz_in e
  exact hideAll_get _ (k b o hb.1 hb.2) (hW b o hb.2 hb.1)

theorem block_list {elt iter tgt : Expr} {ifs : List Expr} {pos : Pos} {ds : List D} (out : D → Option D) (ok : BlkOk X Γ scope) (hit : EvI prog w X Γ iter tgt ds)
    (turn : ∀ (i : Nat) d, ds[i]? = some d → ∃ Γ', Tgt scope [] tgt d (Gam.free scope.names Γ) Γ' ∧ ∀ B : Blk X scope, TrL prog w B.cx Γ' ifs (out d).isSome ∧ ∀ y, out d = some y → Ev prog w B.cx Γ' elt (true, y))
    (hz : ds.length ≤ sizeLine) {s : Shared} (hI : X.I s) (hS : Sees prog w X Γ s) {RR : Value → Addr → Result → Shared → Prop}
    (hRR : ∀ a C s', Keeps s s' → s.heap.get? a = none → s.heap.get? C = none → a ≠ C → (∃ m, s'.heap.Ns C m) → (∃ o, s'.heap.get? a = some o) → InR prog w s'.heap (Fz (a :: C :: X.W) s'.heap) (.lst (ds.filterMap out)) (.ref a) → RR (.ref a) C (.ok .next) s') :
    wpAny (model prog w) X.A (eval iter X.env) (fun x s₁ => wpAny (model prog w) X.A (pyIter x) (fun it s₂ => wpAny (model prog w) X.A (newList []) (fun acc s₃ => wpAny (model prog w) X.A (newFunctionEnv scope X.env.globals (clo X.env.cells scope.names []) [] X.env.qual none .none (some X.env)) (fun cenv s₄ =>
      codeAny (model prog w) X.A (.compStart (.ListComp elt [⟨tgt, iter, ifs, 0⟩] scope pos) 0 it acc { cenv with scope := relabel scope X.env }) (RR acc cenv.locals) s₄) NoE s₃) NoE s₂) NoE s₁) NoE s := by
  refine hit s _ hI hS fun I fp st s₂ k₂ Wl hst hIn hal hfp => ?_
  refine wpAny_newObj_type ?_
  generalize hs3 : ({ s₂ with heap := s₂.heap.push { cls := .type "list", data := .seq ([] : List Value).toArray } } : Shared) = s₃
  have hs3' : s₃.heap = s₂.heap.push { cls := .type "list", data := .seq ([] : List Value).toArray } := by rw [← hs3]
  generalize hDs : s₂.heap.objs.size = D at hs3'
  have hDn : s₂.heap.get? D = none := hDs ▸ size_none _
  have k₃ : Keeps s₂ s₃ := by rw [← hs3]; exact Kp.push s₂ _
  have hD0 : s₃.heap.PlainList D [].toArray := ⟨0, by rw [hs3', ← hDs]; exact Heap.get?_push_size _ rfl⟩
  have hDI : D ≠ I := fun e => by obtain ⟨o, ho⟩ := hal; rw [← e, hDn] at ho; cases ho
  refine blk_enter (D := D) (I := I) ok hI hS (Kp.trans k₂ k₃) (none_of k₂ hDn) hIn hDI (by obtain ⟨n, e⟩ := hD0; exact ⟨_, e⟩) (hal.imp fun o e => Kp.ks k₃ _ _ e) fun B env s₄ hB hL hBD hBI hB0 k₄ hfr S₄ => ?_
  rw [hB, hL]
  have hob : ∀ b o, s₂.heap.get? b = some o → b ≠ I → b ∉ B.ob := fun b o e hbI hm => by
    rcases hfr b hm with h | h | h
    · rw [h, hDn] at e; cases e
    · exact hbI h
    · rw [Kp.ks k₃ _ _ e] at h; cases h
  have hDob : D ∈ B.ob := by rw [← hBD]; exact .tail _ (.head _)
  have hIob : I ∈ B.ob := by rw [← hBI]; exact .tail _ (.tail _ (.head _))
  have hCD : B.env.locals ≠ D := fun e => (List.nodup_cons.mp B.nd).1 (by rw [e, hBD]; exact List.mem_cons_self ..)
  have hCI : B.env.locals ≠ I := fun e => (List.nodup_cons.mp B.nd).1 (by rw [e, hBI]; exact List.mem_cons_of_mem _ (List.mem_cons_self ..))
  have hSB : Sees prog w X Γ B.s₀ := by rw [hB0]; exact hS
  have hst4 : st 0 s₄.heap := Wl.frame _ _ _ hst (fun b _ o e => Kp.ks (Kp.trans k₃ k₄) _ _ e) fun o e => Kp.ks (Kp.trans k₃ k₄) _ _ e
  have loop : codeAny (model prog w) X.A (.compLoop (.ListComp elt [⟨tgt, iter, ifs, 0⟩] scope pos) 0 (.ref I) (.ref D) B.env) (RR (.ref D) B.env.locals) s₄ := by
    refine compLoopL (fun n s' => ∃ i μ ys, n = ds.length + 1 - i ∧ i ≤ ds.length ∧ BSt prog w Γ B (Gam.free scope.names Γ) μ s' ∧ st i s'.heap ∧ s'.heap.PlainList D ys.toArray ∧ InL prog w (Fz B.W s'.heap) ((ds.take i).filterMap out) ys ∧
      ∀ b o, b ∉ B.ob → s₂.heap.get? b = some o → s'.heap.get? b = some o) ?_ (ds.length + 1) ⟨0, _, [], rfl, Nat.zero_le _, S₄, hst4, hD0.at fun o e => Kp.ks k₄ _ _ e, by rw [List.take_zero]; exact InL.nil, fun b o _ e => Kp.ks (Kp.trans k₃ k₄) _ _ e⟩
    rintro n s' ⟨i, μ, ys, rfl, hi, S', hst', hD', hys, hkp⟩
    have hlen : ys.length ≤ i := by
      have h1 := hys.length
      have h2 := List.length_filterMap_le out (ds.take i)
      rw [List.length_take] at h2
      omega
    by_cases hlt : i < ds.length
    · obtain ⟨d, hd⟩ : ∃ d, ds[i]? = some d := ⟨_, List.getElem?_eq_getElem hlt⟩
      obtain ⟨Γ', hT, hB'⟩ := turn i d hd
      obtain ⟨htests, helt⟩ := hB' B
      have htake : (ds.take (i + 1)).filterMap out = (ds.take i).filterMap out ++ (out d).toList := by
        rw [List.take_add_one, hd, List.filterMap_append]
        cases ho : out d <;> simp [ho]
      refine wpAny_mono (Wl.item i d s' (fun v t₁ => wpAny (model prog w) X.A (PySem.assign tgt B.env v) (fun _ t₂ =>
          wpAny (model prog w) X.A (forIn ifs true fun c r => if r = true then do let ok ← isTrue c B.env (eval c B.env); pure (ForInStep.yield ok) else pure (ForInStep.yield r)) (fun ok s₃ =>
            if ok = true then wpAny (model prog w) X.A (eval elt B.env) (fun x s₄ =>
              wpAny (model prog w) X.A (call (.builtin "list.append") [.ref D, x]) (fun _ s₅ => ∃ m, m < ds.length + 1 - i ∧ (∃ i μ ys, m = ds.length + 1 - i ∧ i ≤ ds.length ∧ BSt prog w Γ B (Gam.free scope.names Γ) μ s₅ ∧ st i s₅.heap ∧ s₅.heap.PlainList D ys.toArray ∧ InL prog w (Fz B.W s₅.heap) ((ds.take i).filterMap out) ys ∧
      ∀ b o, b ∉ B.ob → s₂.heap.get? b = some o → s₅.heap.get? b = some o)) NoE s₄) NoE s₃
            else ∃ m, m < ds.length + 1 - i ∧ (∃ i μ ys, m = ds.length + 1 - i ∧ i ≤ ds.length ∧ BSt prog w Γ B (Gam.free scope.names Γ) μ s₃ ∧ st i s₃.heap ∧ s₃.heap.PlainList D ys.toArray ∧ InL prog w (Fz B.W s₃.heap) ((ds.take i).filterMap out) ys ∧
      ∀ b o, b ∉ B.ob → s₂.heap.get? b = some o → s₃.heap.get? b = some o)) NoE t₂) NoE t₁) hd hst' fun v h' tk hv hst₂ hk₂ hal₂ => ?_) (fun r s₅ h₅ => ?_) fun _ _ f => f.elim
      · have S₅ := S'.but tk (.inr hBI.symm) hk₂ hal₂
        have kF5 : Ks (Fz B.W s'.heap) (Fz B.W h') := fz_ext (List.mem_append_left _ hIob) hk₂
        have hkp5 : ∀ b o, b ∉ B.ob → s₂.heap.get? b = some o → h'.get? b = some o := fun b o hb e => hk₂ b o (fun q => hb (q ▸ hIob)) (hkp b o hb e)
        refine S₅.assignT hT (hv _ (fun b hb => S'.low b hb) (fun b o e => ?_)) fun μ₆ s₆ S₆ T₆ => ?_
        · have hb := fz_in e
          have hbI : b ≠ I := fun q => hb.1 (q ▸ List.mem_cons_self ..)
          have hbo := hob b o hb.2 hbI
          refine hideAll_get _ (hkp5 b o hbo hb.2) fun hm => ?_
          rcases List.mem_append.mp hm with hm | hm
          · exact hbo hm
          · exact hb.1 (List.mem_cons_of_mem _ hm)
        · have kF6 : Ks (Fz B.W h') (Fz B.W s₆.heap) := fz_kept (fun b o hb e => T₆.2 b o (.inl fun hm => hb (List.mem_append_left _ hm)) e) fun _ _ _ h => h
          have hst₆ : st (i + 1) s₆.heap := Wl.frame _ _ _ hst₂ (fun b hb o e => T₆.2 b o (by
            rcases hfp b hb with rfl | ⟨⟨o₁, e₁⟩, _⟩
            · exact .inr (.inr hBI.symm)
            · by_cases hbI : b = I
              · exact .inr (.inr (hbI.trans hBI.symm))
              · exact .inl (hob b o₁ e₁ hbI)) e) fun o e => T₆.2 _ o (.inr (.inr hBI.symm)) e
          have hD6 : s₆.heap.PlainList D ys.toArray := (hD'.at fun o e => hk₂ _ o hDI e).at fun o e => T₆.2 _ o (.inr (.inl hBD.symm)) e
          have hkp6 : ∀ b o, b ∉ B.ob → s₂.heap.get? b = some o → s₆.heap.get? b = some o := fun b o hb e => T₆.2 b o (.inl hb) (hkp5 b o hb e)
          refine htests s₆ _ S₆.cxI (S₆.sees hSB) fun s₇ k₇ => ?_
          have S₇ := S₆.keeps k₇
          have hys7 : InL prog w (Fz B.W s₇.heap) ((ds.take i).filterMap out) ys := ((hys.mono kF5).mono kF6).mono (fz_ks (Kp.ks k₇))
          have hst₇ : st (i + 1) s₇.heap := Wl.frame _ _ _ hst₆ (fun b _ o e => Kp.ks k₇ _ _ e) fun o e => Kp.ks k₇ _ _ e
          cases ho : out d with
          | none =>
            simp only [Option.isSome_none, Bool.false_eq_true, if_false]
            exact ⟨_, by omega, i + 1, μ₆, ys, rfl, hlt, S₇.weak, hst₇, hD6.at fun o e => Kp.ks k₇ _ _ e, by rw [htake, ho]; simpa using hys7, fun b o hb e => Kp.ks k₇ _ _ (hkp6 b o hb e)⟩
          | some y =>
            simp only [Option.isSome_some, if_true]
            refine helt y ho s₇ _ S₇.cxI (S₇.sees hSB) fun v₈ s₈ k₈ i₈ => ?_
            have S₈ := S₇.keeps k₈
            have k78 := Kp.trans k₇ k₈
            refine wpAny_list_append_plain (hD6.at fun o e => Kp.ks k78 _ _ e) (fun h₉ hp₉ hs₉ => ?_) (by rw [List.size_toArray]; omega)
            have kF9 : Ks (Fz B.W s₈.heap) (Fz B.W h₉) := fz_ext (List.mem_append_left _ hDob) hs₉.extBut
            refine ⟨_, by omega, i + 1, μ₆, ys ++ [v₈], rfl, hlt, (S₈.but s₈.toks (.inl hBD.symm) hs₉.extBut (by obtain ⟨n, e⟩ := hp₉; exact ⟨_, e⟩)).weak, ?_, by rw [← List.push_toArray]; exact hp₉, ?_, fun b o hb e => hs₉.extBut b o (fun q => hb (q ▸ hDob)) (Kp.ks k78 _ _ (hkp6 b o hb e))⟩
            · refine Wl.frame _ _ _ hst₇ (fun b hb o e => hs₉.extBut b o (fun q => ?_) (Kp.ks k₈ _ _ e)) fun o e => hs₉.extBut _ o hDI.symm (Kp.ks k₈ _ _ e)
              rcases hfp b hb with rfl | ⟨⟨o₁, e₁⟩, _⟩
              · exact hDI q.symm
              · rw [q, hDn] at e₁; cases e₁
            · rw [htake, ho]
              exact ((hys7.mono (fz_ks (Kp.ks k₈))).mono kF9).append (InL.cons (i₈.infz.mono kF9) InL.nil)
      · cases r with
        | none => exact h₅.elim
        | some v => exact h₅
    · obtain rfl : i = ds.length := by omega
      refine wpAny_mono (Wl.done s' (fun r s₅ => r = none ∧ RR (.ref D) B.env.locals (.ok .next) s₅) hst' fun h' tk hk₂ => ⟨rfl, ?_⟩) (fun r s₅ h₅ => ?_) fun _ _ f => f.elim
      · have hD5 : h'.PlainList D ys.toArray := hD'.at fun o e => hk₂ _ o hDI e
        refine hRR D B.env.locals _ ?_ (none_of k₂ hDn) (by rw [← hB0]; exact B.fresh _ (List.mem_cons_self ..)) hCD.symm ?_ (by obtain ⟨n, e⟩ := hD5; exact ⟨_, e⟩) ?_
        · obtain ⟨h1, t1, e1, k1⟩ := S'.keep
          rw [hB0] at e1 k1
          subst e1
          exact ⟨h', tk, rfl, fun b o e => hk₂ b o (fun q => by rw [q, hIn] at e; cases e) (k1 b o e)⟩
        · obtain ⟨m, hn, _⟩ := S'.cv.m
          exact ⟨m, hn.extBut hk₂ hCI⟩
        · obtain ⟨n, e⟩ := hD5
          rw [List.take_length] at hys
          refine ⟨D, ys, n, rfl, e, hys.mono (fz_kept (fun b o hb e => hk₂ b o (fun q => hb (q ▸ List.mem_append_left _ hIob)) e) fun b o e hb hm => ?_)⟩
          rcases List.mem_cons.mp hm with rfl | hm
          · exact hb (List.mem_append_left _ hDob)
          · rcases List.mem_cons.mp hm with rfl | hm
            · exact hb (List.mem_append_left _ (List.mem_cons_self ..))
            · exact hb (List.mem_append_right _ hm)
      · obtain ⟨rfl, h₅⟩ := h₅
        exact h₅
  exact codeAny_compStart_list loop (wpAny_mono (Wl.self 0 s₄ (fun it' s' => codeAny (model prog w) X.A (.compLoop (.ListComp elt [⟨tgt, iter, ifs, 0⟩] scope pos) 0 it' (.ref D) B.env) (RR (.ref D) B.env.locals) s') hst4 loop) (fun _ _ h => h) fun _ _ f => f.elim)
end Mine

namespace Mine
variable {prog : Program} {w : World} {X : Cx} {scope : Scope} {Γ : Gam}

noncomputable def dmade (out : D → Int × D) (ds : List D) : List (Int × D) := ds.foldl (fun acc d => stor acc (out d).1 (out d).2) []
theorem stor_length (kvs : List (Int × D)) (k : Int) (d : D) : (stor kvs k d).length ≤ kvs.length + 1 := by
  unfold stor; split <;> simp
theorem dmade_length (out : D → Int × D) (ds : List D) : (dmade out ds).length ≤ ds.length := by
  unfold dmade
  have go : ∀ (ds : List D) (acc : List (Int × D)), (ds.foldl (fun acc d => stor acc (out d).1 (out d).2) acc).length ≤ acc.length + ds.length := by
    intro ds
    induction ds with
    | nil => intro acc; simp
    | cons d ds ih =>
      intro acc
      rw [List.foldl_cons, List.length_cons]
      have := ih (stor acc (out d).1 (out d).2)
      have := stor_length acc (out d).1 (out d).2
      omega
  simpa using go ds []

theorem block_dict {kx vx iter tgt : Expr} {ifs : List Expr} {pos : Pos} {ds : List D} (out : D → Int × D) (ok : BlkOk X Γ scope) (hit : EvI prog w X Γ iter tgt ds)
    (turn : ∀ (i : Nat) d, ds[i]? = some d → ∃ Γ', Tgt scope [] tgt d (Gam.free scope.names Γ) Γ' ∧ ∀ B : Blk X scope, TrL prog w B.cx Γ' ifs true ∧ Ev prog w B.cx Γ' kx (true, .int (out d).1) ∧ Ev prog w B.cx Γ' vx (true, (out d).2))
    (hz : ds.length ≤ sizeLine) {s : Shared} (hI : X.I s) (hS : Sees prog w X Γ s) {RR : Value → Addr → Result → Shared → Prop}
    (hRR : ∀ a C s', Keeps s s' → s.heap.get? a = none → s.heap.get? C = none → a ≠ C → (∃ m, s'.heap.Ns C m) → (∃ o, s'.heap.get? a = some o) → InR prog w s'.heap (Fz (a :: C :: X.W) s'.heap) (.dct (dmade out ds)) (.ref a) → RR (.ref a) C (.ok .next) s') :
    wpAny (model prog w) X.A (eval iter X.env) (fun x s₁ => wpAny (model prog w) X.A (pyIter x) (fun it s₂ => wpAny (model prog w) X.A (newDict) (fun acc s₃ => wpAny (model prog w) X.A (newFunctionEnv scope X.env.globals (clo X.env.cells scope.names []) [] X.env.qual none .none (some X.env)) (fun cenv s₄ =>
      codeAny (model prog w) X.A (.compStart (.DictComp kx vx [⟨tgt, iter, ifs, 0⟩] scope pos) 0 it acc { cenv with scope := relabel scope X.env }) (RR acc cenv.locals) s₄) NoE s₃) NoE s₂) NoE s₁) NoE s := by
  refine hit s _ hI hS fun I fp st s₂ k₂ Wl hst hIn hal hfp => ?_
  refine wpAny_newObj_type ?_
  generalize hs3 : ({ s₂ with heap := s₂.heap.push { cls := .type "dict", dict := none, data := .dict #[] } } : Shared) = s₃
  have hs3' : s₃.heap = s₂.heap.push { cls := .type "dict", dict := none, data := .dict #[] } := by rw [← hs3]
  generalize hDs : s₂.heap.objs.size = D at hs3'
  have hDn : s₂.heap.get? D = none := hDs ▸ size_none _
  have k₃ : Keeps s₂ s₃ := by rw [← hs3]; exact Kp.push s₂ _
  have hD0 : s₃.heap.DictOf (intKind prog w) D [] := by rw [hs3', ← hDs]; exact Heap.DictOf.new s₂.heap
  have hDI : D ≠ I := fun e => by obtain ⟨o, ho⟩ := hal; rw [← e, hDn] at ho; cases ho
  refine blk_enter (D := D) (I := I) ok hI hS (Kp.trans k₂ k₃) (none_of k₂ hDn) hIn hDI (by obtain ⟨o, e, _⟩ := Heap.dictOf_iff.mp hD0; exact ⟨o, e⟩) (hal.imp fun o e => Kp.ks k₃ _ _ e) fun B env s₄ hB hL hBD hBI hB0 k₄ hfr S₄ => ?_
  rw [hB, hL]
  have hob : ∀ b o, s₂.heap.get? b = some o → b ≠ I → b ∉ B.ob := fun b o e hbI hm => by
    rcases hfr b hm with h | h | h
    · rw [h, hDn] at e; cases e
    · exact hbI h
    · rw [Kp.ks k₃ _ _ e] at h; cases h
  have hDob : D ∈ B.ob := by rw [← hBD]; exact .tail _ (.head _)
  have hIob : I ∈ B.ob := by rw [← hBI]; exact .tail _ (.tail _ (.head _))
  have hCD : B.env.locals ≠ D := fun e => (List.nodup_cons.mp B.nd).1 (by rw [e, hBD]; exact List.mem_cons_self ..)
  have hCI : B.env.locals ≠ I := fun e => (List.nodup_cons.mp B.nd).1 (by rw [e, hBI]; exact List.mem_cons_of_mem _ (List.mem_cons_self ..))
  have hSB : Sees prog w X Γ B.s₀ := by rw [hB0]; exact hS
  have hst4 : st 0 s₄.heap := Wl.frame _ _ _ hst (fun b _ o e => Kp.ks (Kp.trans k₃ k₄) _ _ e) fun o e => Kp.ks (Kp.trans k₃ k₄) _ _ e
  have loop : codeAny (model prog w) X.A (.compLoop (.DictComp kx vx [⟨tgt, iter, ifs, 0⟩] scope pos) 0 (.ref I) (.ref D) B.env) (RR (.ref D) B.env.locals) s₄ := by
    refine compLoopD (fun n s' => ∃ i μ ys, n = ds.length + 1 - i ∧ i ≤ ds.length ∧ BSt prog w Γ B (Gam.free scope.names Γ) μ s' ∧ st i s'.heap ∧ s'.heap.DictOf (intKind prog w) D ys ∧ InK prog w (Fz B.W s'.heap) (dmade out (ds.take i)) ys ∧
      ∀ b o, b ∉ B.ob → s₂.heap.get? b = some o → s'.heap.get? b = some o) ?_ (ds.length + 1) ⟨0, _, [], rfl, Nat.zero_le _, S₄, hst4, hD0.at fun o e => Kp.ks k₄ _ _ e, by rw [List.take_zero]; exact InK.nil_iff.mpr rfl, fun b o _ e => Kp.ks (Kp.trans k₃ k₄) _ _ e⟩
    rintro n s' ⟨i, μ, ys, rfl, hi, S', hst', hD', hys, hkp⟩
    have hlen : ys.length ≤ i := by
      have h1 := hys.length
      have h2 := dmade_length out (ds.take i)
      rw [List.length_take] at h2
      omega
    by_cases hlt : i < ds.length
    · obtain ⟨d, hd⟩ : ∃ d, ds[i]? = some d := ⟨_, List.getElem?_eq_getElem hlt⟩
      obtain ⟨Γ', hT, hB'⟩ := turn i d hd
      obtain ⟨htests, hkx, hvx⟩ := hB' B
      have htake : dmade out (ds.take (i + 1)) = stor (dmade out (ds.take i)) (out d).1 (out d).2 := by
        rw [List.take_add_one, hd]
        unfold dmade
        rw [List.foldl_append]; rfl
      refine wpAny_mono (Wl.item i d s' (fun v t₁ => wpAny (model prog w) X.A (PySem.assign tgt B.env v) (fun _ t₂ =>
          wpAny (model prog w) X.A (forIn ifs true fun c r => if r = true then do let ok ← isTrue c B.env (eval c B.env); pure (ForInStep.yield ok) else pure (ForInStep.yield r)) (fun ok s₃ =>
            if ok = true then wpAny (model prog w) X.A (eval kx B.env) (fun kv s₄ => wpAny (model prog w) X.A (eval vx B.env) (fun vv s₅ =>
              wpAny (model prog w) X.A (dictSet D kv vv) (fun _ s₅ => ∃ m, m < ds.length + 1 - i ∧ (∃ i μ ys, m = ds.length + 1 - i ∧ i ≤ ds.length ∧ BSt prog w Γ B (Gam.free scope.names Γ) μ s₅ ∧ st i s₅.heap ∧ s₅.heap.DictOf (intKind prog w) D ys ∧ InK prog w (Fz B.W s₅.heap) (dmade out (ds.take i)) ys ∧
      ∀ b o, b ∉ B.ob → s₂.heap.get? b = some o → s₅.heap.get? b = some o)) NoE s₅) NoE s₄) NoE s₃
            else ∃ m, m < ds.length + 1 - i ∧ (∃ i μ ys, m = ds.length + 1 - i ∧ i ≤ ds.length ∧ BSt prog w Γ B (Gam.free scope.names Γ) μ s₃ ∧ st i s₃.heap ∧ s₃.heap.DictOf (intKind prog w) D ys ∧ InK prog w (Fz B.W s₃.heap) (dmade out (ds.take i)) ys ∧
      ∀ b o, b ∉ B.ob → s₂.heap.get? b = some o → s₃.heap.get? b = some o)) NoE t₂) NoE t₁) hd hst' fun v h' tk hv hst₂ hk₂ hal₂ => ?_) (fun r s₅ h₅ => ?_) fun _ _ f => f.elim
      · have S₅ := S'.but tk (.inr hBI.symm) hk₂ hal₂
        have kF5 : Ks (Fz B.W s'.heap) (Fz B.W h') := fz_ext (List.mem_append_left _ hIob) hk₂
        have hkp5 : ∀ b o, b ∉ B.ob → s₂.heap.get? b = some o → h'.get? b = some o := fun b o hb e => hk₂ b o (fun q => hb (q ▸ hIob)) (hkp b o hb e)
        refine S₅.assignT hT (hv _ (fun b hb => S'.low b hb) (fun b o e => ?_)) fun μ₆ s₆ S₆ T₆ => ?_
        · have hb := fz_in e
          have hbI : b ≠ I := fun q => hb.1 (q ▸ List.mem_cons_self ..)
          have hbo := hob b o hb.2 hbI
          refine hideAll_get _ (hkp5 b o hbo hb.2) fun hm => ?_
          rcases List.mem_append.mp hm with hm | hm
          · exact hbo hm
          · exact hb.1 (List.mem_cons_of_mem _ hm)
        · have kF6 : Ks (Fz B.W h') (Fz B.W s₆.heap) := fz_kept (fun b o hb e => T₆.2 b o (.inl fun hm => hb (List.mem_append_left _ hm)) e) fun _ _ _ h => h
          have hst₆ : st (i + 1) s₆.heap := Wl.frame _ _ _ hst₂ (fun b hb o e => T₆.2 b o (by
            rcases hfp b hb with rfl | ⟨⟨o₁, e₁⟩, _⟩
            · exact .inr (.inr hBI.symm)
            · by_cases hbI : b = I
              · exact .inr (.inr (hbI.trans hBI.symm))
              · exact .inl (hob b o₁ e₁ hbI)) e) fun o e => T₆.2 _ o (.inr (.inr hBI.symm)) e
          have hD6 : s₆.heap.DictOf (intKind prog w) D ys := (hD'.at fun o e => hk₂ _ o hDI e).at fun o e => T₆.2 _ o (.inr (.inl hBD.symm)) e
          have hkp6 : ∀ b o, b ∉ B.ob → s₂.heap.get? b = some o → s₆.heap.get? b = some o := fun b o hb e => T₆.2 b o (.inl hb) (hkp5 b o hb e)
          refine htests s₆ _ S₆.cxI (S₆.sees hSB) fun s₇ k₇ => ?_
          have S₇ := S₆.keeps k₇
          have hys7 : InK prog w (Fz B.W s₇.heap) (dmade out (ds.take i)) ys := ((hys.mono kF5).mono kF6).mono (fz_ks (Kp.ks k₇))
          have hst₇ : st (i + 1) s₇.heap := Wl.frame _ _ _ hst₆ (fun b _ o e => Kp.ks k₇ _ _ e) fun o e => Kp.ks k₇ _ _ e
          simp only [if_true]
          refine hkx s₇ _ S₇.cxI (S₇.sees hSB) fun kv₈ s₈ k₈ ik₈ => ?_
          have S₈ := S₇.keeps k₈
          refine hvx s₈ _ S₈.cxI (S₈.sees hSB) fun vv₈ s₈' k₈' i₈ => ?_
          have S₈' := S₈.keeps k₈'
          have k78 := Kp.trans k₇ (Kp.trans k₈ k₈')
          obtain ⟨tk8, rfl⟩ := ik₈.int
          refine wpAny_dictSet_pairs (intKind_is _ _ _ tk8) (hD6.at fun o e => Kp.ks k78 _ _ e) (fun h₉ hp₉ hs₉ => ?_) (by omega)
          have kF9 : Ks (Fz B.W s₈'.heap) (Fz B.W h₉) := fz_ext (List.mem_append_left _ hDob) hs₉.extBut
          refine ⟨_, by omega, i + 1, μ₆, stored ys (out d).1 vv₈, rfl, hlt, (S₈'.but (s₈'.toks + 1) (.inl hBD.symm) hs₉.extBut (by obtain ⟨o, e, _⟩ := Heap.dictOf_iff.mp hp₉; exact ⟨o, e⟩)).weak, ?_, hp₉, ?_, fun b o hb e => hs₉.extBut b o (fun q => hb (q ▸ hDob)) (Kp.ks k78 _ _ (hkp6 b o hb e))⟩
          · refine Wl.frame _ _ _ hst₇ (fun b hb o e => hs₉.extBut b o (fun q => ?_) (Kp.ks (Kp.trans k₈ k₈') _ _ e)) fun o e => hs₉.extBut _ o hDI.symm (Kp.ks (Kp.trans k₈ k₈') _ _ e)
            rcases hfp b hb with rfl | ⟨⟨o₁, e₁⟩, _⟩
            · exact hDI q.symm
            · rw [q, hDn] at e₁; cases e₁
          · rw [htake]
            exact ((hys7.mono (fz_ks (Kp.ks (Kp.trans k₈ k₈')))).mono kF9).stor (i₈.infz.mono kF9)
      · cases r with
        | none => exact h₅.elim
        | some v => exact h₅
    · obtain rfl : i = ds.length := by omega
      refine wpAny_mono (Wl.done s' (fun r s₅ => r = none ∧ RR (.ref D) B.env.locals (.ok .next) s₅) hst' fun h' tk hk₂ => ⟨rfl, ?_⟩) (fun r s₅ h₅ => ?_) fun _ _ f => f.elim
      · have hD5 : h'.DictOf (intKind prog w) D ys := hD'.at fun o e => hk₂ _ o hDI e
        refine hRR D B.env.locals _ ?_ (none_of k₂ hDn) (by rw [← hB0]; exact B.fresh _ (List.mem_cons_self ..)) hCD.symm ?_ (by obtain ⟨o, e, _⟩ := Heap.dictOf_iff.mp hD5; exact ⟨o, e⟩) ?_
        · obtain ⟨h1, t1, e1, k1⟩ := S'.keep
          rw [hB0] at e1 k1
          subst e1
          exact ⟨h', tk, rfl, fun b o e => hk₂ b o (fun q => by rw [q, hIn] at e; cases e) (k1 b o e)⟩
        · obtain ⟨m, hn, _⟩ := S'.cv.m
          exact ⟨m, hn.extBut hk₂ hCI⟩
        · obtain ⟨o, e, q⟩ := Heap.dictOf_iff.mp hD5
          rw [List.take_length] at hys
          refine ⟨D, o, ys, rfl, e, q, ?_, hys.mono (fz_kept (fun b o hb e => hk₂ b o (fun q => hb (q ▸ List.mem_append_left _ hIob)) e) fun b o e hb hm => ?_)⟩
          · have hbig := X.big _ (X.mono _ _ hI k₂)
            rw [hDs] at hbig
            have : D ≠ sysModules := fun e => by rw [e] at hbig; exact absurd hbig (by decide)
            simpa using this
          rcases List.mem_cons.mp hm with rfl | hm
          · exact hb (List.mem_append_left _ hDob)
          · rcases List.mem_cons.mp hm with rfl | hm
            · exact hb (List.mem_append_left _ (List.mem_cons_self ..))
            · exact hb (List.mem_append_right _ hm)
      · obtain ⟨rfl, h₅⟩ := h₅
        exact h₅
  exact codeAny_compStart_dict loop (wpAny_mono (Wl.self 0 s₄ (fun it' s' => codeAny (model prog w) X.A (.compLoop (.DictComp kx vx [⟨tgt, iter, ifs, 0⟩] scope pos) 0 it' (.ref D) B.env) (RR (.ref D) B.env.locals) s') hst4 loop) (fun _ _ h => h) fun _ _ f => f.elim)
end Mine

namespace Mine
variable {prog : Program} {w : World} {X : Cx} {scope : Scope} {Γ : Gam}

theorem InR.inFz {W : List Addr} {h : Heap} {d : D} {a : Addr} {ds : List D} (haW : a ∉ W) (x : InR prog w h (Fz W h) (.lst ds) (.ref a)) : In prog w (Fz W h) (.lst ds) (.ref a) := by
  obtain ⟨a', vs, n, e, g, rr⟩ := x; cases e; exact In.lst_iff.mpr ⟨_, vs, n, rfl, hideAll_get _ g haW, rr⟩
theorem InR.inFzD {W : List Addr} {h : Heap} {a : Addr} {kvs : List (Int × D)} (haW : a ∉ W) (x : InR prog w h (Fz W h) (.dct kvs) (.ref a)) : In prog w (Fz W h) (.dct kvs) (.ref a) := by
  obtain ⟨a', o, kv, e, g, q1, q2, rr⟩ := x; cases e; exact In.dct_iff.mpr ⟨_, o, kv, rfl, hideAll_get _ g haW, q1, q2, rr⟩

/-- a block makes its result: a list, or a dict -/
noncomputable def Made (prog : Program) (w : World) (X : Cx) (Γ : Gam) (e : Expr) (scope : Scope) (newAcc : Sem Value) (first : Sem Value) (d : D) : Prop :=
  ∀ s (RR : Value → Addr → Result → Shared → Prop), X.I s → Sees prog w X Γ s →
    (∀ a C s', Keeps s s' → s.heap.get? a = none → s.heap.get? C = none → a ≠ C → (∃ m, s'.heap.Ns C m) → (∃ o, s'.heap.get? a = some o) → InR prog w s'.heap (Fz (a :: C :: X.W) s'.heap) d (.ref a) → RR (.ref a) C (.ok .next) s') →
    wpAny (model prog w) X.A first (fun x s₁ => wpAny (model prog w) X.A (pyIter x) (fun it s₂ => wpAny (model prog w) X.A newAcc (fun acc s₃ => wpAny (model prog w) X.A (newFunctionEnv scope X.env.globals (clo X.env.cells scope.names []) [] X.env.qual none .none (some X.env)) (fun cenv s₄ =>
      codeAny (model prog w) X.A (.compStart e 0 it acc { cenv with scope := relabel scope X.env }) (RR acc cenv.locals) s₄) NoE s₃) NoE s₂) NoE s₁) NoE s

theorem In.of_root {W : List Addr} {h : Heap} {d : D} {a : Addr} (haW : a ∉ W) (x : InR prog w h (Fz W h) d (.ref a)) : In prog w (Fz W h) d (.ref a) := by
  cases d with
  | lst ds => exact InR.inFz (d := .none) haW x
  | dct kvs => exact InR.inFzD haW x
  | none => exact x
  | bool b => exact x
  | int i => exact x
  | tup ds => exact x
  | val u => exact x
  | obj u os => exact x

theorem Ev.made {e : Expr} {pos : Pos} {newAcc first : Sem Value} {g : Comprehension} {gs : List Comprehension} {d : D} (ok : BlkOk X Γ scope) (h : Made prog w X Γ e scope newAcc first d)
    (he : eval e X.env = comprehension e scope X.env pos newAcc false first) (hcl : clausesOf e = g :: gs) (hs : ∀ x, foldedSetIterable g.iter X.env x = pure x) : Ev prog w X Γ e (true, d) := fun s Q hI hS hQ => by
  rw [he]
  refine wpAny_comprehension_free (use := Option.none) hcl hs (blk_closure ok hS) ok.hk ok.nm (h s (fun acc C => compPost (model prog w) X.A NoE Option.none Q acc C) hI hS fun a C s' k ha hC haC hn hal i => ?_)
  obtain ⟨m, hn⟩ := hn
  refine ⟨m, hn, fun h'' hs'' => ?_⟩
  have hCW : C ∉ X.W := fun hm => by obtain ⟨o, e⟩ := X.low _ hI C hm; rw [hC] at e; cases e
  have haW : a ∉ X.W := fun hm => by obtain ⟨o, e⟩ := X.low _ hI a hm; rw [ha] at e; cases e
  have k'' : Keeps s { s' with heap := h'' } := by
    obtain ⟨h1, t1, rfl, k1⟩ := k
    exact ⟨h'', t1, rfl, fun b o e => hs''.extBut b o (fun q => by rw [q, hC] at e; cases e) (k1 b o e)⟩
  refine hQ _ _ k'' (Vi.fz (In.of_root haW ?_))
  have kF : Ks (Fz (a :: C :: X.W) s'.heap) (Fz X.W h'') := fz_kept (fun b o hb e => hs''.extBut b o (fun q => hb (q ▸ .tail _ (.head _))) e) fun b o e hb hm => hb (.tail _ (.tail _ hm))
  cases d with
  | lst ds => obtain ⟨a', vs, n, e, g, rr⟩ := i; cases e; exact ⟨_, vs, n, rfl, hs''.extBut _ _ haC g, rr.mono kF⟩
  | dct kvs => obtain ⟨a', o, kv, e, g, q1, q2, rr⟩ := i; cases e; exact ⟨_, o, kv, rfl, hs''.extBut _ _ haC g, q1, q2, rr.mono kF⟩
  | none => exact In.mono kF i
  | bool b => exact In.mono kF i
  | int n => exact In.mono kF i
  | tup ds => exact In.mono kF i
  | val u => exact In.mono kF i
  | obj u os => exact In.mono kF i

theorem Made.list {elt iter tgt : Expr} {ifs : List Expr} {pos : Pos} {ds : List D} (out : D → Option D) (ok : BlkOk X Γ scope) (hit : EvI prog w X Γ iter tgt ds)
    (turn : ∀ (i : Nat) d, ds[i]? = some d → ∃ Γ', Tgt scope [] tgt d (Gam.free scope.names Γ) Γ' ∧ ∀ B : Blk X scope, TrL prog w B.cx Γ' ifs (out d).isSome ∧ ∀ y, out d = some y → Ev prog w B.cx Γ' elt (true, y))
    (hz : ds.length ≤ sizeLine) : Made prog w X Γ (.ListComp elt [⟨tgt, iter, ifs, 0⟩] scope pos) scope (newList []) (eval iter X.env) (.lst (ds.filterMap out)) := fun s RR hI hS hRR => block_list out ok hit turn hz hI hS hRR
theorem Made.dict {kx vx iter tgt : Expr} {ifs : List Expr} {pos : Pos} {ds : List D} (out : D → Int × D) (ok : BlkOk X Γ scope) (hit : EvI prog w X Γ iter tgt ds)
    (turn : ∀ (i : Nat) d, ds[i]? = some d → ∃ Γ', Tgt scope [] tgt d (Gam.free scope.names Γ) Γ' ∧ ∀ B : Blk X scope, TrL prog w B.cx Γ' ifs true ∧ Ev prog w B.cx Γ' kx (true, .int (out d).1) ∧ Ev prog w B.cx Γ' vx (true, (out d).2))
    (hz : ds.length ≤ sizeLine) : Made prog w X Γ (.DictComp kx vx [⟨tgt, iter, ifs, 0⟩] scope pos) scope newDict (eval iter X.env) (.dct (dmade out ds)) := fun s RR hI hS hRR => block_dict out ok hit turn hz hI hS hRR
theorem Ev.listComp {elt iter tgt : Expr} {ifs : List Expr} {pos : Pos} {ds : List D} (out : D → Option D) (ok : BlkOk X Γ scope) (hit : EvI prog w X Γ iter tgt ds)
    (turn : ∀ (i : Nat) d, ds[i]? = some d → ∃ Γ', Tgt scope [] tgt d (Gam.free scope.names Γ) Γ' ∧ ∀ B : Blk X scope, TrL prog w B.cx Γ' ifs (out d).isSome ∧ ∀ y, out d = some y → Ev prog w B.cx Γ' elt (true, y))
    (hz : ds.length ≤ sizeLine) (hs : ∀ x, foldedSetIterable iter X.env x = pure x := by intro _; rfl) : Ev prog w X Γ (.ListComp elt [⟨tgt, iter, ifs, 0⟩] scope pos) (true, .lst (ds.filterMap out)) :=
  Ev.made ok (Made.list out ok hit turn hz) rfl rfl hs
theorem Ev.dictComp {kx vx iter tgt : Expr} {ifs : List Expr} {pos : Pos} {ds : List D} (out : D → Int × D) (ok : BlkOk X Γ scope) (hit : EvI prog w X Γ iter tgt ds)
    (turn : ∀ (i : Nat) d, ds[i]? = some d → ∃ Γ', Tgt scope [] tgt d (Gam.free scope.names Γ) Γ' ∧ ∀ B : Blk X scope, TrL prog w B.cx Γ' ifs true ∧ Ev prog w B.cx Γ' kx (true, .int (out d).1) ∧ Ev prog w B.cx Γ' vx (true, (out d).2))
    (hz : ds.length ≤ sizeLine) (hs : ∀ x, foldedSetIterable iter X.env x = pure x := by intro _; rfl) : Ev prog w X Γ (.DictComp kx vx [⟨tgt, iter, ifs, 0⟩] scope pos) (true, .dct (dmade out ds)) :=
  Ev.made ok (Made.dict out ok hit turn hz) rfl rfl hs
end Mine
namespace Mine
variable {M : Amb} {sc : Scope} {α : Act M sc} {Γ : Gam} {Ω : List Str} {μ : Str → Option Value} {own : List (Str × Addr)} {s s' : Shared} {mods mods' : List Str} {P : Pst} {scope : Scope}

/-- y = a block, its store swapped ahead of the letting go -/
theorem S1.assignMade {e : Expr} {y : Str} {py pos cpos : Pos} {newAcc : Sem Value} {first : Sem Value} {g : Comprehension} {gs : List Comprehension} {d : D} (ok : ∀ own, BlkOk (α.cx own) Γ scope) (h : ∀ own, Made M.prog M.w (α.cx own) Γ e scope newAcc first d)
    (hk : isVar sc y) (hy : y ∉ Ω) (hP : P .next (Γ.set y (true, d)) Ω) (hdb : (y == ("__debug__" : Str)) = false := by decide)
    (he : ∀ u, evalThenUse e α.env u = (do let _ ← comprehension e scope α.env cpos newAcc false first (some u)) := by intro _; rfl) (hcl : clausesOf e = g :: gs := by rfl) (hs : ∀ x, foldedSetIterable g.iter α.env x = pure x := by intro _; rfl)
    (hsw : swapsWith e (some (.Name y py)) pos.line α.env = pure true := by rfl) : S1 α mods Γ Ω (.Assign [.Name y py] e pos) P := fun μ own s Q S hQ => by
  rw [exec_Assign_Name_used _ _ _ _ hsw]
  refine wpAny_bind (wpAny_standAt (wpAny_bind ?_))
  rw [he]
  refine wpAny_bind (wpAny_mono (wpAny_comprehension_free (use := some (PySem.assign (.Name y py) α.env)) (Q := fun _ s' => Q .next s') hcl hs (blk_closure (ok own) S.sees) (ok own).hk (ok own).nm
    (h own s (fun acc C => compPost (model M.prog M.w) α.A NoE (some (PySem.assign (.Name y py) α.env)) (fun _ s' => Q .next s') acc C) S.cxI S.sees fun a C s' k ha hC haC hn hal i => ?_)) (fun _ s' h => wpAny_pure (wpAny_pure h)) fun _ _ f => f)
  have hCal : ∃ o, s'.heap.get? C = some o := by obtain ⟨m, o, _, _, ho, _⟩ := hn; exact ⟨o, ho⟩
  have S₁ := S.hide k hC hCal
  have hC0 : α.h₀.get? C = none := by
    cases e : α.h₀.get? C with
    | none => rfl
    | some o => have := S.fr.keep _ _ e; rw [hC] at this; cases this
  have haW : a ∉ (α.hide C).W own := fun hm => by
    rcases hide_mem.mp hm with hm | hm
    · obtain ⟨o, e⟩ := S.low a hm
      rw [ha] at e; cases e
    · exact haC hm
  have kF : Ks (Fz (a :: C :: α.W own) s'.heap) (Fz ((α.hide C).W own) s'.heap) := fz_less fun b hb => by
    rcases hide_mem.mp hb with hb | hb
    · exact .tail _ (.tail _ hb)
    · rw [hb]; exact .tail _ (.head _)
  have hin : In M.prog M.w (Fz ((α.hide C).W own) s'.heap) d (.ref a) := In.of_root haW (InR.mono (fun _ _ e => e) kF i)
  refine wpAny_assign_Name (S₁.store (mods := mods) hin hy hdb hk fun s₂ S₂ T₂ => ?_)
  obtain ⟨m, hn⟩ := hn
  have hn₂ : s₂.heap.Ns C m := hn.at' fun o e => T₂.kf _ o (hide_not (α := α) S₁) e
  refine ⟨m, hn₂, fun h' hs' => ?_⟩
  have S₃ := S₂.leaveI s₂.toks hs'.extBut hC0
  refine hQ .next .next _ _ _ _ _ S₃ ?_ trivial hP
  exact TnI.fin (mods' := mods) k hC (fun x h => h) (TnI.stepI s₂.toks (TnI.step S₁ ⟨_, _, _, S₁⟩ TnI.refl T₂) hs'.extBut)
theorem St.adoptHide (S : St α Γ Ω μ own s) (k : Keeps s s') {x : Str} {a C : Addr} (ha : s.heap.get? a = none) (hC : s.heap.get? C = none) (haC : a ≠ C) (hal : ∃ o, s'.heap.get? a = some o) (hCal : ∃ o, s'.heap.get? C = some o) (hx : ∀ d, Γ x ≠ some (false, d)) : St (α.hide C) Γ (x :: Ω) μ ((x, a) :: own) s' := by
  have S1 := S.adopt k ha hal hx
  have kF : Ks (Fz (α.W own) s.heap) (Fz ((α.hide C).W ((x, a) :: own)) s'.heap) := fz_new (Kp.ks k) fun b hb => by
    rcases hide_mem.mp hb with hb | rfl
    · rcases List.mem_cons.mp hb with rfl | hb
      · exact .inr ha
      · exact .inl hb
    · exact .inr hC
  refine ⟨S1.names, ?_, ⟨S1.fr.m, S1.fr.c⟩, S1.ownN, S1.lent, fun b hb => ?_, fun y r e => ?_⟩
  · show (((x, a) :: own).map (·.2) ++ (α.ca ++ C :: α.W₀)).Nodup
    have h1 : (C :: α.W ((x, a) :: own)).Nodup := List.nodup_cons.mpr ⟨(fun hm => by
      rcases List.mem_cons.mp hm with h | h
      · exact haC h.symm
      · obtain ⟨o, e⟩ := S.low C h
        rw [hC] at e; cases e), S1.nd⟩
    have hp : (C :: (((x, a) :: own).map (·.2) ++ (α.ca ++ α.W₀))).Perm (((x, a) :: own).map (·.2) ++ (α.ca ++ C :: α.W₀)) := by
      rw [← List.append_assoc, ← List.append_assoc]
      exact List.perm_middle.symm
    exact hp.nodup_iff.mp h1
  · rcases hide_mem.mp hb with hb | rfl
    · exact S1.low b hb
    · exact hCal
  · obtain ⟨h1, v, h2, h3⟩ := S.vars y r e
    refine ⟨h1, v, h2, ?_⟩
    unfold VarOk at h3 ⊢
    split at h3
    · rename_i q; rw [if_pos q]; exact h3.mono kF
    · rename_i q
      rw [if_neg q]
      have hyx : y ≠ x := fun e' => by
        subst e'
        obtain ⟨b, d⟩ := r
        cases b with
        | true => exact q rfl
        | false => exact hx d e
      split at h3
      · rename_i q2
        rw [if_pos (List.mem_cons_of_mem _ q2)]
        obtain ⟨b, h4, h5, h6⟩ := h3
        exact ⟨b, h4, List.mem_cons_of_mem _ h5, h6.mono (Kp.ks k) kF⟩
      · rename_i q2
        rw [if_neg (by simpa using ⟨hyx, q2⟩)]
        exact h3.mono (fun _ _ e => e) kF

/-- the same, y an own name then -/
theorem S1.assignMadeOwn {e : Expr} {y : Str} {py pos cpos : Pos} {newAcc : Sem Value} {first : Sem Value} {g : Comprehension} {gs : List Comprehension} {d : D} (ok : ∀ own, BlkOk (α.cx own) Γ scope) (h : ∀ own, Made M.prog M.w (α.cx own) Γ e scope newAcc first d)
    (hk : isVar sc y) (hx2 : ∀ d, Γ y ≠ some (false, d)) (hP : P .next (Γ.set y (false, d)) (y :: Ω)) (hdb : (y == ("__debug__" : Str)) = false := by decide)
    (he : ∀ u, evalThenUse e α.env u = (do let _ ← comprehension e scope α.env cpos newAcc false first (some u)) := by intro _; rfl) (hcl : clausesOf e = g :: gs := by rfl) (hs : ∀ x, foldedSetIterable g.iter α.env x = pure x := by intro _; rfl)
    (hsw : swapsWith e (some (.Name y py)) pos.line α.env = pure true := by rfl) : S1 α mods Γ Ω (.Assign [.Name y py] e pos) P := fun μ own s Q S hQ => by
  rw [exec_Assign_Name_used _ _ _ _ hsw]
  refine wpAny_bind (wpAny_standAt (wpAny_bind ?_))
  rw [he]
  refine wpAny_bind (wpAny_mono (wpAny_comprehension_free (use := some (PySem.assign (.Name y py) α.env)) (Q := fun _ s' => Q .next s') hcl hs (blk_closure (ok own) S.sees) (ok own).hk (ok own).nm
    (h own s (fun acc C => compPost (model M.prog M.w) α.A NoE (some (PySem.assign (.Name y py) α.env)) (fun _ s' => Q .next s') acc C) S.cxI S.sees fun a C s' k ha hC haC hn hal i => ?_)) (fun _ s' h => wpAny_pure (wpAny_pure h)) fun _ _ f => f)
  have hCal : ∃ o, s'.heap.get? C = some o := by obtain ⟨m, o, _, _, ho, _⟩ := hn; exact ⟨o, ho⟩
  have S₁ := S.adoptHide k ha hC haC hal hCal hx2
  have hC0 : α.h₀.get? C = none := by
    cases e : α.h₀.get? C with
    | none => rfl
    | some o => have := S.fr.keep _ _ e; rw [hC] at this; cases this
  have kF : Ks (Fz (a :: C :: α.W own) s'.heap) (Fz ((α.hide C).W ((y, a) :: own)) s'.heap) := fz_less fun b hb => by
    rcases hide_mem.mp hb with hb | hb
    · rcases List.mem_cons.mp hb with hb | hb
      · rw [hb]; exact .head _
      · exact .tail _ (.tail _ hb)
    · rw [hb]; exact .tail _ (.head _)
  have hin : VarOk (α.hide C) (y :: Ω) ((y, a) :: own) s'.heap y (false, d) (.ref a) := by
    unfold VarOk
    rw [if_neg (by simp), if_pos (by simp)]
    exact ⟨a, rfl, by simp, InR.mono (fun _ _ e => e) kF i⟩
  refine wpAny_assign_Name (S₁.storeV (mods := mods) hin hdb hk fun s₂ S₂ T₂ => ?_)
  obtain ⟨m, hn⟩ := hn
  have hn₂ : s₂.heap.Ns C m := hn.at' fun o e => T₂.kf _ o (hide_not (α := α) S₁) e
  refine ⟨m, hn₂, fun h' hs' => ?_⟩
  have S₃ := S₂.leaveI s₂.toks hs'.extBut hC0
  refine hQ .next .next _ _ _ _ _ S₃ ?_ trivial hP
  have T1 : TnI α C mods ((y, a) :: own) ((y, a) :: own) s' _ := TnI.stepI s₂.toks (TnI.step S₁ ⟨_, _, _, S₁⟩ TnI.refl T₂) hs'.extBut
  have k' := k
  obtain ⟨hh, tt, rfl, kk⟩ := k'
  obtain ⟨h2, t2, e2⟩ := T1.rest
  refine ⟨⟨h2, t2, e2⟩, fun b o hb e => T1.kf b o (fun q => by rw [q, hC] at e; cases e) (fun hm => ?_) (kk b o e), fun p hp hn o e => T1.km p (.tail _ hp) hn (fun q => by rw [q, hC] at e; cases e) o (kk _ o e), fun b o e => T1.al b o (fun q => by rw [q, hC] at e; cases e) (kk _ o e), fun p hp => ?_⟩
  · rcases List.mem_cons.mp hm with h | h
    · rw [h, ha] at e; cases e
    · exact hb h
  · rcases List.mem_cons.mp hp with h | h
    · rw [h]; exact .inr ha
    · exact .inl h
end Mine

namespace Mine
section
variable {prog : Program} {w : World} {X : Cx} {Γ : Gam} {b₁ b₂ : Bool}

/-- x + y, both lists -/
theorem Op2.addL {xs ys : List D} (hz : xs.length + ys.length ≤ sizeLine) : Op2 prog w X (binaryOp .Add) (b₁, .lst xs) (b₂, .lst ys) (true, .lst (xs ++ ys)) := fun s Q v₁ v₂ hI i₁ i₂ hQ => by
  obtain ⟨a, vs, n, rfl, g, r⟩ := i₁.lst
  obtain ⟨b, us, k, rfl, g', r'⟩ := i₂.lst
  refine _root_.PySem.P.add_list (show PySem.IsL s.heap a vs.toArray n from g) (show PySem.IsL s.heap b us.toArray k from g') (hQ _ _ (Kp.push s _) (Vi.fz (In.lst_iff.mpr ⟨_, vs ++ us, 0, rfl, ?_, (r.append r').mono (fz_ks (Kp.ks (Kp.push s _)))⟩))) (by rw [List.size_toArray, List.size_toArray, r.length, r'.length]; exact hz)
  rw [List.append_toArray]
  exact fz_push (X.low _ hI) _ rfl

/-- x[:n] -/
theorem Ev.sliceTo {o e : Expr} {p pos : Pos} {ds : List D} {n : Int} (ho : Ev prog w X Γ o (b₁, .lst ds)) (he : Ev prog w X Γ e (b₂, .int n)) (h0 : 0 ≤ n) (hz : ds.length ≤ sizeLine) (ht : ∀ a r, letTemporaryGo o a r = pure () := by intro _ _; rfl) : Ev prog w X Γ (.Subscript o (.Slice Option.none (some e) Option.none p) pos) (true, .lst (ds.take n.toNat)) := fun s Q hI hS hQ => by
  refine wpAny_Subscript_list_slice (ho s _ hI hS fun v s₁ k₁ i₁ => ?_) ht
  rw [evalPart_none]
  refine wpAny_pure ?_
  rw [evalPart_some]
  refine he s₁ _ (X.mono _ _ hI k₁) (hS.keeps k₁) fun u s₂ k₂ i₂ => ?_
  obtain ⟨a, vs, m, rfl, g, r⟩ := (i₁.mono (Kp.ks k₂)).lst
  obtain ⟨t, rfl⟩ := i₂.int
  refine ⟨a, vs.toArray, _, _, rfl, isList_of g, by rw [List.size_toArray, r.length]; exact hz, .none, .int n t, ?_⟩
  have hn : n = ((n.toNat : Nat) : Int) := by omega
  rw [hn, slicePick_upto']
  generalize hs3 : ({ s₂ with heap := s₂.heap.push { cls := .type "slice", data := .fields #[.none, .int ((n.toNat : Nat) : Int) t, .none] } } : Shared) = s₃
  have k₃ : Keeps s₂ s₃ := by rw [← hs3]; exact Kp.push s₂ _
  have hsz : s₃.heap.objs.size = s₂.heap.objs.size + 1 := by rw [← hs3]; exact Heap.size_push ..
  have hI₃ := X.mono _ _ (X.mono _ _ (X.mono _ _ hI k₁) k₂) k₃
  have key := hQ (.ref s₃.heap.objs.size) { s₃ with heap := s₃.heap.push { cls := .type "list", data := .seq (vs.take n.toNat).toArray } } (Kp.trans (Kp.trans (Kp.trans k₁ k₂) k₃) (Kp.push s₃ _))
    (Vi.fz (In.lst_iff.mpr ⟨_, vs.take n.toNat, 0, rfl, fz_push (X.low _ hI₃) _ rfl, ((r.take n.toNat).mono (fz_ks (Kp.ks k₃))).mono (fz_ks (Kp.ks (Kp.push s₃ _)))⟩))
  rw [hsz] at key
  rw [← hs3] at key
  exact key

/-- x[::-1] -/
theorem Ev.reversed {o e : Expr} {p pos : Pos} {ds : List D} (ho : Ev prog w X Γ o (b₁, .lst ds)) (hz : ds.length ≤ sizeLine) (he : Ev prog w X Γ e (true, .int (-1))) (ht : ∀ a r, letTemporaryGo o a r = pure () := by intro _ _; rfl)
    (hs : ∀ a b, ∃ ops, subscripted (.Slice Option.none Option.none (some e) p) false (.ref a) (.ref b) = operate ops (getItem (.ref a) (.ref b)) := by intro _ _; exact ⟨_, by with_unfolding_all rfl⟩) : Ev prog w X Γ (.Subscript o (.Slice Option.none Option.none (some e) p) pos) (true, .lst ds.reverse) := fun s Q hI hS hQ => by
  refine Subscript_ (ho s _ hI hS fun v s₁ k₁ i₁ => wpAny_Slice ?_)
  rw [evalPart_none]
  refine wpAny_pure (wpAny_pure ?_)
  rw [evalPart_some]
  refine he s₁ _ (X.mono _ _ hI k₁) (hS.keeps k₁) fun u s₂ k₂ i₂ => ?_
  obtain ⟨a, vs, m, rfl, g, r⟩ := (i₁.mono (Kp.ks k₂)).lst
  obtain ⟨t, rfl⟩ := i₂.int
  generalize hs3 : ({ s₂ with heap := s₂.heap.push { cls := .type "slice", data := .fields #[.none, .none, .int (-1) t] } } : Shared) = s₃
  have k₃ : Keeps s₂ s₃ := by rw [← hs3]; exact Kp.push s₂ _
  have hI₃ := X.mono _ _ (X.mono _ _ (X.mono _ _ hI k₁) k₂) k₃
  have hsl : s₃.heap.IsSliceOf s₂.heap.objs.size .none .none (.int (-1) t) := by rw [← hs3]; exact Heap.IsSliceOf.new ..
  have hl := isList_of (Kp.ks k₃ _ _ g)
  refine tail_any hl.typeIs slot_list_getitem.lookup (wpAny_getItem_list_slice hl hsl .none .none (.int (-1) t) (by decide) ?_ (by rw [List.size_toArray, r.length]; exact hz)) (hs _ _).choose_spec
  rw [krv_pick]
  exact hQ _ _ (Kp.trans (Kp.trans (Kp.trans k₁ k₂) k₃) (Kp.push s₃ _)) (Vi.fz (In.lst_iff.mpr ⟨_, vs.reverse, 0, rfl, fz_push (X.low _ hI₃) _ rfl, (r.reverse.mono (fz_ks (Kp.ks k₃))).mono (fz_ks (Kp.ks (Kp.push s₃ _)))⟩))
end
end Mine

namespace Mine
section
variable {prog : Program} {w : World} {X : Cx} {Γ : Gam} {b₁ b₂ b : Bool}

theorem keeps_of_moved {s s₁ : Shared} {h' : Heap} {tk : Nat} {I : Addr} (k : Keeps s s₁) (hI : s.heap.get? I = none) (hk : ∀ b o, b ∉ [I] → s₁.heap.get? b = some o → h'.get? b = some o) : Keeps s { s₁ with heap := h', toks := tk } := by
  obtain ⟨h1, t1, rfl, k1⟩ := k
  exact ⟨h', tk, rfl, fun b o e => hk b o (fun hm => by rw [List.mem_singleton.mp hm, hI] at e; cases e) (k1 b o e)⟩

theorem BltC.max2 {i j : Int} : BltC prog w X "max" [(b₁, .int i), (b₂, .int j)] (true, .int (if j > i then j else i)) := fun s vs Q hI hv hQ => by
  cases hv with
  | cons h1 hv =>
    cases hv with
    | cons h2 hv =>
      cases hv
      obtain ⟨t, rfl⟩ := h1.int
      obtain ⟨u, rfl⟩ := h2.int
      refine call_max_two ?_
      generalize hs3 : ({ s with heap := s.heap.push { cls := .type "tuple", data := .seq #[.int i t, .int j u] } } : Shared) = s₃
      have k₃ : Keeps s s₃ := by rw [← hs3]; exact Kp.push s _
      have hT : s₃.heap.IsTuple s.heap.objs.size #[.int i t, .int j u] := by rw [← hs3]; exact ⟨_, Heap.get?_push_size _ rfl, rfl, _, rfl⟩
      refine wpAny_pyIter_tuple hT ?_
      have hne : s.heap.objs.size ≠ s₃.heap.objs.size := by obtain ⟨o, e, _⟩ := hT; exact ne_fresh e
      refine ⟨s₃.heap.objs.size, [_, _], [_], 2, _, _, _, rfl, Walks.tuple (A := X.A.in1) X.hh s₃.heap.objs.size s.heap.objs.size hne #[.int i t, .int j u], ⟨⟨_, Heap.get?_push_size _ rfl, rfl, rfl⟩, hT.push _⟩, fun b hb => ?_, by decide, CmpOf.ints_gt (fun k => if k = 0 then i else j) (fun k v hv => ?_), fun v h' tk hP hk => ?_⟩
      · simp only [List.mem_cons, List.not_mem_nil, or_false] at hb
        rw [Heap.size_push]
        rcases hb with rfl | rfl
        · exact Nat.lt_succ_self _
        · obtain ⟨o, e, _⟩ := hT; exact Nat.lt_succ_of_lt (Heap.lt_size e)
      · rcases k with _ | _ | k
        · simp at hv; exact ⟨t, hv.symm⟩
        · simp at hv; exact ⟨u, hv.symm⟩
        · simp at hv
      · have kk := keeps_of_moved (tk := tk) (Kp.trans k₃ (Kp.push s₃ { cls := .type "tuple_iterator", data := .fields #[.ref s.heap.objs.size, .int 0 0] })) (none_of k₃ (size_none _)) hk
        by_cases hij : j > i
        · have : argBest (fun a b => decide ((if a = 0 then i else j) > (if b = 0 then i else j))) 1 = 1 := by simp [argBest, hij]
          rw [show (2 - 1 : Nat) = 1 from rfl, this] at hP
          simp at hP
          rw [if_pos hij] at hQ
          exact hQ _ _ kk (hP ▸ Vi.of_int j u)
        · have : argBest (fun a b => decide ((if a = 0 then i else j) > (if b = 0 then i else j))) 1 = 0 := by simp [argBest, hij]
          rw [show (2 - 1 : Nat) = 1 from rfl, this] at hP
          simp at hP
          rw [if_neg hij] at hQ
          exact hQ _ _ kk (hP ▸ Vi.of_int i t)
theorem BltC.min2 {i j : Int} : BltC prog w X "min" [(b₁, .int i), (b₂, .int j)] (true, .int (if j < i then j else i)) := fun s vs Q hI hv hQ => by
  cases hv with
  | cons h1 hv =>
    cases hv with
    | cons h2 hv =>
      cases hv
      obtain ⟨t, rfl⟩ := h1.int
      obtain ⟨u, rfl⟩ := h2.int
      refine call_min_two ?_
      generalize hs3 : ({ s with heap := s.heap.push { cls := .type "tuple", data := .seq #[.int i t, .int j u] } } : Shared) = s₃
      have k₃ : Keeps s s₃ := by rw [← hs3]; exact Kp.push s _
      have hT : s₃.heap.IsTuple s.heap.objs.size #[.int i t, .int j u] := by rw [← hs3]; exact ⟨_, Heap.get?_push_size _ rfl, rfl, _, rfl⟩
      refine wpAny_pyIter_tuple hT ?_
      have hne : s.heap.objs.size ≠ s₃.heap.objs.size := by obtain ⟨o, e, _⟩ := hT; exact ne_fresh e
      refine ⟨s₃.heap.objs.size, [_, _], [_], 2, _, _, _, rfl, Walks.tuple (A := X.A.in1) X.hh s₃.heap.objs.size s.heap.objs.size hne #[.int i t, .int j u], ⟨⟨_, Heap.get?_push_size _ rfl, rfl, rfl⟩, hT.push _⟩, fun b hb => ?_, by decide, CmpOf.ints_lt (fun k => if k = 0 then i else j) (fun k v hv => ?_), fun v h' tk hP hk => ?_⟩
      · simp only [List.mem_cons, List.not_mem_nil, or_false] at hb
        rw [Heap.size_push]
        rcases hb with rfl | rfl
        · exact Nat.lt_succ_self _
        · obtain ⟨o, e, _⟩ := hT; exact Nat.lt_succ_of_lt (Heap.lt_size e)
      · rcases k with _ | _ | k
        · simp at hv; exact ⟨t, hv.symm⟩
        · simp at hv; exact ⟨u, hv.symm⟩
        · simp at hv
      · have kk := keeps_of_moved (tk := tk) (Kp.trans k₃ (Kp.push s₃ { cls := .type "tuple_iterator", data := .fields #[.ref s.heap.objs.size, .int 0 0] })) (none_of k₃ (size_none _)) hk
        by_cases hij : j < i
        · have : argBest (fun a b => decide ((if a = 0 then i else j) < (if b = 0 then i else j))) 1 = 1 := by simp [argBest, hij]
          rw [show (2 - 1 : Nat) = 1 from rfl, this] at hP
          simp at hP
          rw [if_pos hij] at hQ
          exact hQ _ _ kk (hP ▸ Vi.of_int j u)
        · have : argBest (fun a b => decide ((if a = 0 then i else j) < (if b = 0 then i else j))) 1 = 0 := by simp [argBest, hij]
          rw [show (2 - 1 : Nat) = 1 from rfl, this] at hP
          simp at hP
          rw [if_neg hij] at hQ
          exact hQ _ _ kk (hP ▸ Vi.of_int i t)

theorem argBest_least {ns : List Int} {i : Int} : ∀ {k : Nat}, k ≤ ns.length → (i :: ns)[argBest (fun a b => decide ((i :: ns).getD a 0 < (i :: ns).getD b 0)) k]? = some (leastI i (ns.take k))
  | 0, _ => by simp [argBest, leastI]
  | k + 1, hk => by
    have ih := @argBest_least ns i k (by omega)
    have hlt : k < ns.length := hk
    have e1 : leastI i (ns.take (k + 1)) = if ns[k] < leastI i (ns.take k) then ns[k] else leastI i (ns.take k) := by
      unfold leastI
      rw [List.take_add_one, List.getElem?_eq_getElem hlt, List.foldl_append]; rfl
    have e2 : (i :: ns).getD (argBest (fun a b => decide ((i :: ns).getD a 0 < (i :: ns).getD b 0)) k) 0 = leastI i (ns.take k) := by rw [List.getD_eq_getElem?_getD, ih]; rfl
    have e3 : (i :: ns).getD (k + 1) 0 = ns[k] := by rw [List.getD_eq_getElem?_getD, List.getElem?_cons_succ, List.getElem?_eq_getElem hlt]; rfl
    rw [argBest, e2, e3, e1]
    by_cases h : ns[k] < leastI i (ns.take k)
    · rw [if_pos (by simpa using h), if_pos h, List.getElem?_cons_succ, List.getElem?_eq_getElem hlt]
    · rw [if_neg (by simpa using h), if_neg h, ih]
theorem BltC.minL {i : Int} {ns : List Int} : BltC prog w X "min" [(b, .lst ((i :: ns).map D.int))] (true, .int (leastI i ns)) := fun s vs Q hI hv hQ => by
  cases hv with
  | cons h1 hv =>
    cases hv
    obtain ⟨a, vs, n, rfl, g, r⟩ := h1.lst
    have hl := r.length
    rw [List.length_map] at hl
    refine call_min_walk (wpAny_pyIter_list (isList_of g) ?_)
    have hne := ne_fresh g
    have hval : ∀ (k : Nat) (v : Value), vs.toArray[k]? = some v → ∃ t, v = .int ((i :: ns).getD k 0) t := fun k v hv => by
      rw [List.getElem?_toArray] at hv
      have hk : k < vs.length := (List.getElem?_eq_some_iff.mp hv).1
      have hk' : k < (i :: ns).length := by omega
      obtain ⟨u, hu, iu⟩ := r.get (k := k) (d := .int (i :: ns)[k]) (by rw [List.getElem?_map, List.getElem?_eq_getElem hk']; rfl)
      rw [hv] at hu; cases hu
      obtain ⟨t, rfl⟩ := In.int_iff.mp iu
      exact ⟨t, by rw [List.getD_eq_getElem?_getD, List.getElem?_eq_getElem hk']; rfl⟩
    refine ⟨s.heap.objs.size, [_, _], [_], vs.toArray.size, _, _, _, rfl, Walks.list (A := X.A.in1) X.hh s.heap.objs.size a hne vs.toArray, ⟨⟨_, Heap.get?_push_size _ rfl, rfl, rfl⟩, isList_of (Heap.get?_push_of_some _ g)⟩, fun b hb => ?_, by rw [List.size_toArray, hl]; simp, CmpOf.ints_lt (fun k => (i :: ns).getD k 0) (fun k v hv => hval k v hv), fun v h' tk hP hk => ?_⟩
    · simp only [List.mem_cons, List.not_mem_nil, or_false] at hb
      rw [Heap.size_push]
      rcases hb with rfl | rfl
      · exact Nat.lt_succ_self _
      · exact Nat.lt_succ_of_lt (Heap.lt_size g)
    · have kk := keeps_of_moved (tk := tk) (Kp.push s { cls := .type "list_iterator", data := .fields #[.ref a, .int 0 0] }) (size_none _) hk
      obtain ⟨t, rfl⟩ := hval _ _ hP
      have e := argBest_least (i := i) (ns := ns) (Nat.le_refl _)
      rw [List.take_length] at e
      have hs1 : vs.toArray.size - 1 = ns.length := by rw [List.size_toArray, hl]; simp
      rw [hs1, List.getD_eq_getElem?_getD, e]
      exact hQ _ _ kk (Vi.of_int _ _)
theorem preSum_eq {ns : List Int} : ∀ {k : Nat}, k ≤ ns.length → preSum (fun k => ns.getD k 0) k = (ns.take k).sum
  | 0, _ => by simp [preSum]
  | k + 1, hk => by
    rw [preSum, preSum_eq (by omega), List.take_add_one, List.getElem?_eq_getElem (by omega), List.sum_append, List.getD_eq_getElem?_getD, List.getElem?_eq_getElem (by omega)]
    simp
theorem BltC.sumL {ns : List Int} : BltC prog w X "sum" [(b, .lst (ns.map D.int))] (true, .int ns.sum) := fun s vs Q hI hv hQ => by
  cases hv with
  | cons h1 hv =>
    cases hv
    obtain ⟨a, vs, n, rfl, g, r⟩ := h1.lst
    have hl := r.length
    rw [List.length_map] at hl
    refine call_sum_walkAnyS (wpAny_pyIter_list (isList_of g) ?_)
    have hne := ne_fresh g
    have hval : ∀ (k : Nat) (v : Value), vs.toArray[k]? = some v → ∃ t, v = .int (ns.getD k 0) t := fun k v hv => by
      rw [List.getElem?_toArray] at hv
      have hk : k < vs.length := (List.getElem?_eq_some_iff.mp hv).1
      have hk' : k < ns.length := by omega
      obtain ⟨u, hu, iu⟩ := r.get (k := k) (d := .int ns[k]) (by rw [List.getElem?_map, List.getElem?_eq_getElem hk']; rfl)
      rw [hv] at hu; cases hu
      obtain ⟨t, rfl⟩ := In.int_iff.mp iu
      exact ⟨t, by rw [List.getD_eq_getElem?_getD, List.getElem?_eq_getElem hk']; rfl⟩
    refine ⟨s.heap.objs.size, [_, _], [_], _, vs.toArray.size, _, _, fun k => ns.getD k 0, rfl, (Walks.list (A := X.A.in1) X.hh s.heap.objs.size a hne vs.toArray).toS, ⟨⟨_, Heap.get?_push_size _ rfl, rfl, rfl⟩, isList_of (Heap.get?_push_of_some _ g)⟩, fun b hb => ?_, fun k v hv => hval k v hv, fun s' t' hm => ?_⟩
    · simp only [List.mem_cons, List.not_mem_nil, or_false] at hb
      rw [Heap.size_push]
      rcases hb with rfl | rfl
      · exact Nat.lt_succ_self _
      · exact Nat.lt_succ_of_lt (Heap.lt_size g)
    · have e := preSum_eq (ns := ns) (Nat.le_refl _)
      rw [List.take_length] at e
      rw [Moved.eq_with hm]
      have kk : Keeps s _ := keeps_of_moved (tk := s'.toks) (Kp.push s { cls := .type "list_iterator", data := .fields #[.ref a, .int 0 0] }) (size_none _) hm.heap
      rw [List.size_toArray, hl, e]
      exact hQ _ _ kk (Vi.of_int _ _)
end
end Mine

namespace Mine
section
variable {prog : Program} {w : World} {X : Cx} {Γ : Gam} {b₁ b₂ b₃ : Bool}

theorem Ev.neg {e : Expr} {pos : Pos} {i : Int} (h : Ev prog w X Γ e (b₁, .int i)) : Ev prog w X Γ (.UnaryOp .USub e pos) (true, .int (-i)) := fun s Q hI hS hQ => by
  rw [arm_eval_UnaryOp]
  refine wpAny_bind (h s _ hI hS fun v s₁ k i₁ => wpAny_bind (wpAny_standAt (wpAny_holding ?_)))
  obtain ⟨t, rfl⟩ := i₁.int
  exact _root_.PySem.P.neg_int (hQ _ _ (Kp.trans k (Kp.tok s₁ _)) (Vi.of_int _ _))

/-- a < b < c -/
theorem Tr.chainLt {l r₁ r₂ : Expr} {pos : Pos} {i j k : Int} (h₁ : Ev prog w X Γ l (b₁, .int i)) (h₂ : Ev prog w X Γ r₁ (b₂, .int j)) (h₃ : Ev prog w X Γ r₂ (b₃, .int k)) (hm : lastMarks [CmpOp.Lt, CmpOp.Lt] [r₁, r₂] = false := by with_unfolding_all rfl) :
    Tr prog w X Γ (.Compare l [.Lt, .Lt] [r₁, r₂] pos) (decide (i < j) && decide (j < k)) := fun s Q hI hS hQ => by
  refine isTrue_chain (ops := []) (rs := []) (h₁ s _ hI hS fun v₁ s₁ k₁ i₁ => test_link (h₂ s₁ _ (X.mono _ _ hI k₁) (hS.keeps k₁) fun v₂ s₂ k₂ i₂ => ?_)) hm
  obtain ⟨t₁, rfl⟩ := i₁.int
  obtain ⟨t₂, rfl⟩ := i₂.int
  refine _root_.PySem.P.lt_int (wpAny_truthy_bool ?_)
  by_cases hij : i < j
  · rw [decide_eq_true hij, if_pos rfl]
    refine test_last (h₃ s₂ _ (X.mono _ _ (X.mono _ _ hI k₁) k₂) (hS.keeps (Kp.trans k₁ k₂)) fun v₃ s₃ k₃ i₃ => ?_)
    obtain ⟨t₃, rfl⟩ := i₃.int
    refine _root_.PySem.P.lt_int (wpAny_truthy_bool ?_)
    rw [decide_eq_true hij, Bool.true_and] at hQ
    exact hQ _ (Kp.trans (Kp.trans k₁ k₂) k₃)
  · rw [decide_eq_false hij, if_neg (by simp)]
    rw [decide_eq_false hij, Bool.false_and] at hQ
    exact hQ _ (Kp.trans k₁ k₂)

theorem new_not_sys {s : Shared} (hI : X.I s) : (s.heap.objs.size == sysModules) = false := by
  have h := X.big _ hI
  have : s.heap.objs.size ≠ sysModules := fun e => by rw [e] at h; exact absurd h (by decide)
  simpa using this
/-- {} -/
theorem Ev.dict0 {pos : Pos} : Ev prog w X Γ (.Dict [] [] pos) (true, .dct []) := fun s Q hI hS hQ => by
  rw [arm_eval_Dict]
  refine wpAny_bind (wpAny_standAt ?_)
  show wpAny _ _ (dictDisplay []) _ _ s
  have e : dictDisplay [] = newDict := by unfold dictDisplay; rfl
  rw [e]
  refine wpAny_newObj_type (hQ _ _ (Kp.push s _) (Vi.fz (In.dct_iff.mpr ⟨_, _, [], rfl, fz_push (X.low _ hI) _ rfl, ?_, new_not_sys hI, InK.nil_iff.mpr rfl⟩)))
  exact ⟨#[], 0, ⟨rfl, rfl, rfl⟩, rfl, fun _ he => by simp at he, Pairs.nil, List.nodup_nil⟩
/-- {k: v}, v an int -/
theorem Ev.dict1 {ke ve : Expr} {pos : Pos} {k v : Int} (hk : Ev prog w X Γ ke (b₁, .int k)) (hv : Ev prog w X Γ ve (b₂, .int v)) : Ev prog w X Γ (.Dict [some ke] [ve] pos) (true, .dct [(k, .int v)]) := fun s Q hI hS hQ => by
  refine wpAny_Dict_pairs (knd := intKind prog w) (pairs := [(eval ke X.env, do let x ← eval ve X.env; standAt pos; pure x)]) rfl (by simp) (by simp) ?_
  generalize hs3 : ({ s with heap := s.heap.push { cls := .type "dict", data := .dict #[] } } : Shared) = s₃
  have k₃ : Keeps s s₃ := by rw [← hs3]; exact Kp.push s _
  have hD : s₃.heap.DictOf (intKind prog w) s.heap.objs.size [] := by rw [← hs3]; exact Heap.DictOf.new s.heap
  refine evalPairs_cons (hk s₃ _ (X.mono _ _ hI k₃) (hS.keeps k₃) fun kv s₄ k₄ i₄ => wpAny_bind (hv s₄ _ (X.mono _ _ (X.mono _ _ hI k₃) k₄) (hS.keeps (Kp.trans k₃ k₄)) fun vv s₅ k₅ i₅ => wpAny_bind (wpAny_standAt (wpAny_pure (evalPairs_nil ?_)))))
  obtain ⟨t, rfl⟩ := i₄.int
  obtain ⟨u, rfl⟩ := i₅.int
  have hD5 := (hD.keep (Kp.ks k₄)).keep (Kp.ks k₅)
  refine ⟨[(k, .int v u)], ⟨intKind_is _ _ k t, rfl, trivial⟩, hD5, fun h' hm hs => ?_⟩
  obtain ⟨o, g, q⟩ := Heap.dictOf_iff.mp hm
  have kk : Keeps s { s₅ with heap := h', toks := s₅.toks + 1 } := by
    obtain ⟨h1, t1, e1, k1⟩ := Kp.trans (Kp.trans k₃ k₄) k₅
    subst e1
    exact ⟨h', _, rfl, fun b o e => hs.extBut b o (ne_fresh e) (k1 b o e)⟩
  refine hQ _ _ kk (Vi.fz (In.dct_iff.mpr ⟨_, o, [(k, .int v u)], rfl, hideAll_get _ g (fun hm => ?_), q, new_not_sys hI, InK.cons_iff.mpr ⟨_, [], rfl, In.int_iff.mpr ⟨u, rfl⟩, InK.nil_iff.mpr rfl⟩⟩))
  obtain ⟨o', e⟩ := X.low _ hI _ hm
  exact ne_fresh e rfl

/-- x != y, the same ints in both lists -/
theorem Op2.neInts {ns : List Int} : Op2 prog w X (compareOp .NotEq) (b₁, .lst (ns.map D.int)) (b₂, .lst (ns.map D.int)) (true, .bool false) := fun s Q v₁ v₂ hI i₁ i₂ hQ => by
  obtain ⟨a, vs, n, rfl, g, r⟩ := i₁.lst
  obtain ⟨b, us, k, rfl, g', r'⟩ := i₂.lst
  refine ke_ne_ints (isList_of g) (isList_of g') (intsAre_of r) (intsAre_of r') (by have := X.room; omega) ?_
  have : (!decide (ns = ns)) = false := by simp
  rw [this]
  exact hQ _ _ (Kp.refl s) (Vi.of_bool _)
theorem int_eqAt {A : Around} {s : Shared} {h : Heap} {i : Int} {v u : Value} (x : In prog w h (.int i) v) (y : In prog w h (.int i) u) : SeqAt.EqAt A s v u true := by
  obtain ⟨t, rfl⟩ := In.int_iff.mp x
  obtain ⟨t', rfl⟩ := In.int_iff.mp y
  have := SeqAt.EqAt.int_int (A := A) (s := s) i t i t'
  rwa [show (i == i) = true from by simp] at this
theorem ne_tuple_same {s : Shared} {Q : Value → Shared → Prop} {a b : Addr} {vs us : List Value} {n k : Nat} {A : Around} {E : Value → Shared → Prop} (g : s.heap.get? a = some (tupO vs n)) (g' : s.heap.get? b = some (tupO us k)) (hl : vs.length = us.length) (hu : A.units < cLine)
    (he : ∀ j (h1 : j < vs.length) (h2 : j < us.length), SeqAt.EqAt A.in1 s vs[j] us[j] true) (hQ : Q (.bool false) s) : wpAny (model prog w) A (compareOp .NotEq (.ref a) (.ref b)) Q E s := by
  refine richCompare_meets_room (op := .NotEq) (T := "tuple") ⟨_, g, rfl⟩ ⟨_, g', rfl⟩ PySem.F.slot_tuple_ne PySem.F.entry_tuple_ne (PySem.F.args_tuple_ne_2 _ _) (SeqAt.tuple_neAt a b vs.toArray us.toArray n k none none #[] #[] (fun _ => true)) ⟨g, g', fun j h1 h2 => ?_, (fun h => nomatch h), ?_⟩ hu
  · simpa using he j (by simpa using h1) (by simpa using h2)
  · have : (!((List.range (min vs.toArray.size us.toArray.size)).all (fun _ => true) && vs.toArray.size == us.toArray.size)) = false := by simp [hl]
    rw [this]; exact hQ
theorem isDict_any {prog' : Program} {w' : World} {o : Obj} {kv : List (Int × Value)} (h : o.IsDictOf (intKind prog w) kv) : o.IsDictOf (intKind prog' w') kv := by
  obtain ⟨es, ep, h1, h2, h3, h4, h5⟩ := h
  refine ⟨es, ep, h1, h2, ?_, ?_, h5⟩
  · exact h3
  · clear h2 h3 h5
    generalize es.toList = l at h4
    induction h4 with
    | nil => exact Pairs.nil
    | cons a b _ ih => exact Pairs.cons a b ih
theorem hits_same {A : Around} {s : Shared} {F : Heap} : ∀ {ds : List (Int × Int)} {ka kb : List (Int × Value)}, InK prog w F (ds.map fun p => (p.1, D.int p.2)) ka → (∀ p ∈ ds, ∃ u, valueAt kb p.1 = some u ∧ In prog w F (.int p.2) u) → KeqHits A s kb ka true
  | [], ka, kb, x, _ => by rw [InK.nil_iff.mp x]; exact .nil
  | (k, d) :: ds, ka, kb, x, h => by
    obtain ⟨v, r, rfl, i, l⟩ := InK.cons_iff.mp x
    obtain ⟨u, hu, iu⟩ := h _ (List.mem_cons_self ..)
    have := KeqHits.hit (A := A) (s := s) (kb := kb) hu (int_eqAt i iu) (hits_same l fun p hp => h p (List.mem_cons_of_mem _ hp))
    exact this
theorem value_same {F : Heap} : ∀ {ds : List (Int × Int)} {kb : List (Int × Value)}, InK prog w F (ds.map fun p => (p.1, D.int p.2)) kb → (kb.map (·.1)).Nodup → ∀ p ∈ ds, ∃ u, valueAt kb p.1 = some u ∧ In prog w F (.int p.2) u
  | [], kb, x, _, p, hp => nomatch hp
  | (k, d) :: ds, kb, x, nd, p, hp => by
    obtain ⟨v, r, rfl, i, l⟩ := InK.cons_iff.mp x
    rcases List.mem_cons.mp hp with rfl | hp
    · exact ⟨v, by simp [valueAt], i⟩
    · rw [List.map_cons, List.nodup_cons] at nd
      obtain ⟨u, hu, iu⟩ := value_same l nd.2 p hp
      have hm : p.1 ∈ r.map (·.1) := by
        rw [l.keys, List.map_map]
        exact List.mem_map_of_mem (f := (fun q : Int × D => q.1) ∘ fun q : Int × Int => (q.1, D.int q.2)) hp
      have hne : k ≠ p.1 := fun e => nd.1 (e ▸ hm)
      refine ⟨u, ?_, iu⟩
      unfold valueAt at hu ⊢
      rw [List.find?_cons_of_neg (by simpa using hne)]
      exact hu
theorem dict_eqAt {A : Around} {s : Shared} {F : Heap} {ds : List (Int × Int)} {v u : Value} (k : Ks F s.heap) (x : In prog w F (.dct (ds.map fun p => (p.1, D.int p.2))) v) (y : In prog w F (.dct (ds.map fun p => (p.1, D.int p.2))) u) (hu : A.units < cLine) : SeqAt.EqAt A s v u true := by
  obtain ⟨a, o, ka, rfl, g, q, hsy, r⟩ := In.dct_iff.mp x
  obtain ⟨b, o', kb, rfl, g', q', hsy', r'⟩ := In.dct_iff.mp y
  by_cases hab : a = b
  · subst hab; exact SeqAt.EqAt.same _
  · refine SeqAt.EqAt.of_refs hab fun prog' w' E Q hQ => ?_
    have h1 := dictOf_of (k _ _ g) (isDict_any (prog' := prog') (w' := w') q)
    have h2 := dictOf_of (k _ _ g') (isDict_any (prog' := prog') (w' := w') q')
    have hlen : ka.length = kb.length := by rw [r.length, r'.length]
    refine (keq_eq (knd := intKind prog' w') hsy hsy' h1 h2 hu (fun _ => hits_same r (value_same r' ?_)) ?_ : wpAny _ _ (compareOp .Eq _ _) _ _ _)
    · obtain ⟨_, _, _, _, _, _, h5⟩ := q'
      exact h5
    · have : (ka.length == kb.length && true) = true := by simp [hlen]
      rw [this]; exact hQ

/-- the entry of a book -/
noncomputable abbrev bk (a b c d : Int) (ds : List (Int × Int)) : D := .tup [.int a, .int b, .int c, .int d, .dct (ds.map fun p => (p.1, D.int p.2))]
theorem Op2.neBook {a b c d : Int} {ds : List (Int × Int)} : Op2 prog w X (compareOp .NotEq) (b₁, bk a b c d ds) (b₂, bk a b c d ds) (true, .bool false) := fun s Q v₁ v₂ hI i₁ i₂ hQ => by
  obtain ⟨x, vs, n, rfl, g, r⟩ := i₁.tup
  obtain ⟨y, us, k, rfl, g', r'⟩ := i₂.tup
  have hroom := X.room
  have l1 := r.length
  have l2 := r'.length
  simp only [List.length_cons, List.length_nil] at l1 l2
  refine ne_tuple_same g g' (by omega) (by omega) (fun j h1 h2 => ?_) (hQ _ _ (Kp.refl s) (Vi.of_bool _))
  have hj : j < 5 := by omega
  have at1 : ∀ (j : Nat) (e : D) (h1 : j < vs.length) (h2 : j < us.length), ([.int a, .int b, .int c, .int d, .dct (ds.map fun p => (p.1, D.int p.2))] : List D)[j]? = some e → In prog w (Fz X.W s.heap) e vs[j] ∧ In prog w (Fz X.W s.heap) e us[j] := fun j e h1 h2 he => by
    obtain ⟨v, hv, iv⟩ := r.get he
    obtain ⟨u, hu, iu⟩ := r'.get he
    rw [List.getElem?_eq_getElem h1] at hv
    rw [List.getElem?_eq_getElem h2] at hu
    cases hv; cases hu
    exact ⟨iv, iu⟩
  match j, hj with
  | 0, _ => obtain ⟨p, q⟩ := at1 0 _ h1 h2 rfl; exact int_eqAt p q
  | 1, _ => obtain ⟨p, q⟩ := at1 1 _ h1 h2 rfl; exact int_eqAt p q
  | 2, _ => obtain ⟨p, q⟩ := at1 2 _ h1 h2 rfl; exact int_eqAt p q
  | 3, _ => obtain ⟨p, q⟩ := at1 3 _ h1 h2 rfl; exact int_eqAt p q
  | 4, _ => obtain ⟨p, q⟩ := at1 4 _ h1 h2 rfl; exact dict_eqAt fz_le p q (by show X.A.units + 1 < cLine; omega)
theorem Op2.nePair {p : Int × Int} : Op2 prog w X (compareOp .NotEq) (b₁, pr p) (b₂, pr p) (true, .bool false) := fun s Q v₁ v₂ hI i₁ i₂ hQ => by
  obtain ⟨a, n, t, u, rfl, ga⟩ := pair_of i₁
  obtain ⟨b, k, t', u', rfl, gb⟩ := pair_of i₂
  have hroom := X.room
  refine ne_tuple_same ga gb rfl (by omega) (fun j h1 h2 => ?_) (hQ _ _ (Kp.refl s) (Vi.of_bool _))
  have i1 : ∀ (i : Int) (t : Tok), In prog w s.heap (.int i) (.int i t) := fun i t => In.int_iff.mpr ⟨t, rfl⟩
  have hj : j < 2 := by simpa using h1
  match j, hj with
  | 0, _ => exact int_eqAt (i1 _ _) (i1 _ _)
  | 1, _ => exact int_eqAt (i1 _ _) (i1 _ _)
end
end Mine

namespace Mine
section
variable {prog : Program} {w : World} {X : Cx} {Γ : Gam} {b₁ b₂ b₃ : Bool}

/-- o.values(), its view -/
noncomputable def EvV (prog : Program) (w : World) (X : Cx) (Γ : Gam) (e : Expr) (kvs : List (Int × D)) : Prop :=
  ∀ s Q, X.I s → Sees prog w X Γ s → (∀ v a kv s', Keeps s s' → s'.heap.IsValuesView v a → s'.heap.DictOf (intKind prog w) a kv → InK prog w (Fz X.W s'.heap) kvs kv → Q (.ref v) s') → wpAny (model prog w) X.A (eval e X.env) Q NoE s
theorem EvV.of {o : Expr} {apos pos : Pos} {kvs : List (Int × D)} (ho : Ev prog w X Γ o (b₁, .dct kvs)) (hbase : attributeBase o "values" X.env (eval o X.env) = eval o X.env := by rfl) (hline : (apos.endLine == pos.line) = true := by rfl) :
    EvV prog w X Γ (.Call (.Attribute o (Str.ofString "values") apos) [] [] pos) kvs := fun s Q hI hS hQ => by
  refine wpAny_Call_method0_late hbase hline (ho s _ hI hS fun v s₁ k₁ i₁ => ?_)
  obtain ⟨a, o, kv, rfl, g, q, hsy, r⟩ := i₁.dct
  have hD := dictOf_of g q
  obtain ⟨c1, c2⟩ := MethodOn.dict (A := X.A) (E := NoE) g q
  refine ⟨"dict", "dict.values", PySem.F.plainAttrs_dict, PySem.F.slot_dict_values, PySem.F.type_dict_values, hD.typeIs, (fun b e => by cases e; exact ⟨_, g, c2⟩), ?_⟩
  refine method_meetsIn PySem.F.slot_dict_values PySem.F.entry_dict_values rfl (PySem.evalArgs_none ⟨rfl, hD.typeIs, PySem.F.args_dict_values_1 _, _, meets_dict_values (intKind prog w) a hsy, ⟨kv, hD⟩, ?_⟩)
  exact hQ _ a kv _ (Kp.trans k₁ (Kp.push s₁ _)) ⟨_, Heap.get?_push_size _ rfl, rfl, rfl⟩ (hD.keep fun b o e => Heap.get?_push_of_some _ e) (r.mono (fz_ks (Kp.ks (Kp.push s₁ _))))

theorem vals_get {kvs : List (Int × D)} {kv : List (Int × Value)} {ns : List Int} {F : Heap} (r : InK prog w F kvs kv) (hn : kvs.map (·.2) = ns.map D.int) (i : Nat) (v : Value) (h : ∃ k, kv[i]? = some (k, v)) : ∃ t, v = .int (ns.getD i 0) t := by
  obtain ⟨k, h⟩ := h
  have hi : i < kv.length := (List.getElem?_eq_some_iff.mp h).1
  rw [r.length] at hi
  obtain ⟨⟨k', d⟩, hd⟩ : ∃ p, kvs[i]? = some p := ⟨_, List.getElem?_eq_getElem hi⟩
  obtain ⟨v', h1, h2⟩ := r.getD hd
  rw [h] at h1; cases h1
  have h3 : (kvs.map (·.2))[i]? = some d := by rw [List.getElem?_map, hd]; rfl
  rw [hn, List.getElem?_map] at h3
  obtain ⟨m, hm, rfl⟩ := Option.map_eq_some_iff.mp h3
  obtain ⟨t, rfl⟩ := In.int_iff.mp h2
  exact ⟨t, by rw [List.getD_eq_getElem?_getD, hm]; rfl⟩

/-- sum(o.values()) -/
theorem Ev.sumValues {M : Amb} {px pos : Pos} {e : Expr} {kvs : List (Int × D)} {ns : List Int} (g : Glob1 M X (Str.ofString "sum") (.builtin "sum")) (he : EvV M.prog M.w X Γ e kvs) (hn : kvs.map (·.2) = ns.map D.int)
    (hst : starEach [e] X.env = (false, eval e X.env) :: starEach [] X.env := by rfl) : Ev M.prog M.w X Γ (.Call (.Name (Str.ofString "sum") px) [e] [] pos) (true, .int ns.sum) := fun s Q hI hS hQ => by
  refine wpAny_Call_NameR (g s px _ hI (callWith_builtin1 (spliced_more (he s _ hI hS fun v a kv s₁ k₁ hv hD r => spliced_none ?_) hst) hst rfl))
  obtain ⟨ep, hat⟩ := hD.dictAt
  refine call_sum_walkAnyS ?_
  obtain ⟨oI, St, hit, Wl, st⟩ := (kdl_values (prog := M.prog) (w := M.w) (knd := intKind M.prog M.w) (r := v) (d := a) (kvs := kv) (ep := ep)).iter X.A.in1 s₁ X.hh ⟨hv, hat⟩
  refine hit _ _ ⟨s₁.heap.objs.size, _, _, _, kv.length, _, _, fun k => ns.getD k 0, rfl, Wl.toS, st, fun b hb => ?_, fun i v hv => vals_get r hn i v hv, fun s' t' hm => ?_⟩
  · simp only [List.mem_cons, List.not_mem_nil, or_false] at hb
    rw [Heap.size_push]
    rcases hb with rfl | rfl
    · exact Nat.lt_succ_self _
    · exact Nat.lt_succ_of_lt hat.lt_size
  · have e := preSum_eq (ns := ns) (Nat.le_refl _)
    rw [List.take_length] at e
    rw [Moved.eq_with hm]
    have kk : Keeps s _ := keeps_of_moved (tk := s'.toks) (Kp.trans k₁ (Kp.push s₁ oI)) (none_of k₁ (size_none _)) hm.heap
    have hl : kv.length = ns.length := by
      have := congrArg List.length hn
      rw [List.length_map, List.length_map] at this
      rw [r.length, this]
    rw [hl, e]
    exact hQ _ _ kk (Vi.of_int _ _)

/-- sorted(o.values()) -/
theorem Ev.sortedValues {M : Amb} {px pos : Pos} {e : Expr} {kvs : List (Int × D)} {ns ms : List Int} (g : Glob1 M X (Str.ofString "sorted") (.builtin "sorted")) (he : EvV M.prog M.w X Γ e kvs) (hn : kvs.map (·.2) = ns.map D.int) (h64 : ns.length < 64)
    (hms : ∀ ns' : List Int, ns'.Perm ns → ns'.Pairwise (· ≤ ·) → ns' = ms)
    (hst : starEach [e] X.env = (false, eval e X.env) :: starEach [] X.env := by rfl) : Ev M.prog M.w X Γ (.Call (.Name (Str.ofString "sorted") px) [e] [] pos) (true, .lst (ms.map D.int)) := fun s Q hI hS hQ => by
  refine wpAny_Call_NameR (g s px _ hI (callWith_builtin1 (spliced_more (he s _ hI hS fun v a kv s₁ k₁ hv hD r => spliced_none ?_) hst) hst rfl))
  obtain ⟨ep, hat⟩ := hD.dictAt
  have hl : kv.length = ns.length := by
    have := congrArg List.length hn
    rw [List.length_map, List.length_map] at this
    rw [r.length, this]
  refine Calls.call_function_entry kind_sorted plain_sorted entry_sorted (args_sorted1 _) ?_
  unfold Builtin.«sorted»
  refine wpAny_bind (m := checkCount "sorted" 1 1 _) (wpAny_pure ?_)
  refine wpAny_bind (kdu_collect (kdl_values (prog := M.prog) (w := M.w) (knd := intKind M.prog M.w) (r := v) (d := a) (kvs := kv) (ep := ep)) X.hh ⟨hv, hat⟩ (by rw [hl]; unfold sizeLine; omega) fun h' tk acc hk hacc => ?_)
  have hvs : IntsAre acc.toList ns := by
    have hsz := hacc.1
    have hlen : acc.toList.length = ns.length := by simp [hsz, hl]
    have hat' : ∀ (i : Nat) (v : Value), acc.toList[i]? = some v → ∃ t, v = .int (ns.getD i 0) t := fun i v h => vals_get r hn i v (hacc.2 i v (by simpa using h))
    generalize acc.toList = l at hlen hat'
    clear hms h64 hn hl hsz hacc r
    induction ns generalizing l with
    | nil => cases l with
      | nil => exact .nil
      | cons x l => simp at hlen
    | cons m ns ih => cases l with
      | nil => simp at hlen
      | cons x l =>
        obtain ⟨t, rfl⟩ := hat' 0 x rfl
        exact .cons _ _ (ih l (by simpa using hlen) fun i v h => hat' (i + 1) v h)
  have hlen : acc.toList.length < 64 := by simp [hacc.1, hl]; omega
  refine wpAny_bind (wpAny_newList ?_)
  generalize hs3 : ({ s₁ with heap := h', toks := tk } : Shared) = s₃
  have k₃ : Keeps s₁ s₃ := by rw [← hs3]; exact ⟨h', tk, rfl, hk⟩
  have hh3 : s₃.heap = h' := by rw [← hs3]
  have hoL : (s₃.heap.push (seqObj "list" acc.toList.toArray 0)).get? s₃.heap.objs.size = some (seqObj "list" acc.toList.toArray 0) := Heap.get?_push_size _ rfl
  show wpAny _ _ _ _ _ { s₃ with heap := s₃.heap.push (seqObj "list" acc.toList.toArray 0) }
  refine wpAny_bind (wpAny_holding (wpAny_call_entry slot_list_sort ⟨_, hoL, rfl⟩ entry_list_sort (list_sort_tree hoL hvs hlen fun out ns' a1 a2 a3 => ⟨_, rfl, ?_⟩) (args_list_sort _)))
  refine wpAny_pure ⟨_, rfl, ?_⟩
  have hne3 := size_none s₃.heap
  obtain ⟨n', hat3⟩ := sortedHeap_at (out := out) hoL
  have hem := hms ns' a2 a3
  subst hem
  have kk : Keeps s₃ { s₃ with heap := sortedHeap (s₃.heap.push (seqObj "list" acc.toList.toArray 0)) s₃.heap.objs.size acc.toList out } := ⟨_, s₃.toks, rfl, fun b o e => by
    rw [sortedHeap_old (ne_fresh e) (by rw [Heap.size_push]; exact Nat.lt_succ_of_lt (Heap.lt_size e))]
    exact Heap.get?_push_of_some _ e⟩
  refine hQ _ _ (Kp.trans (Kp.trans k₁ k₃) kk) (Vi.fz (In.lst_iff.mpr ⟨_, out.toList, n', rfl, hideAll_get _ ?_ fun hm => ?_, ?_⟩))
  · exact hat3
  · obtain ⟨o, e⟩ := X.low _ (X.mono _ _ hI (Kp.trans k₁ k₃)) _ hm
    exact ne_fresh e rfl
  · clear a2 a3 hms hat3 kk hQ
    generalize out.toList = l at a1
    induction a1 with
    | nil => exact InL.nil
    | cons i t _ ih => exact InL.cons (In.int_iff.mpr ⟨t, rfl⟩) ih
end
end Mine

namespace Mine

section
variable {prog : Program} {w : World} {A : Around} {R : Result → Shared → Prop} {I : Addr} {fp wr : List Addr} {n : Nat} {P : Nat → Value → Prop} {St : Nat → Heap → Prop}

/-- as CmpOf, over a heap in which what is compared stands -/
noncomputable def CmpIn (prog : Program) (w : World) (A : Around) (P : Nat → Value → Prop) (OK : Heap → Prop) (bt : Nat → Nat → Bool) : Prop :=
  ∀ i j vi vj (s : Shared) (Q : Value → Shared → Prop) (E : Value → Shared → Prop), OK s.heap → P i vi → P j vj → Q (.bool (bt i j)) s → wpAny (model prog w) A (richCompare .Gt vi vj) Q E s

theorem max_turns (W : Walks prog w A.in1 I fp wr n P St) (bt : Nat → Nat → Bool) (OK : Heap → Prop) (hcmp : CmpIn prog w A.in1 P OK bt) (S : Addr) (hSf : S ∉ fp)
    (okm : ∀ h h', OK h → (∀ b o, b ∉ wr → b ≠ S → h.get? b = some o → h'.get? b = some o) → OK h') :
    ∀ (k j : Nat) (s : Shared) (vb : Value) (c : Nat), n - (j + 1) = k → j + 1 ≤ n → St (j + 1) s.heap → OK s.heap → P (argBest bt j) vb →
    s.heap.get? S = some { cls := .type "list", dict := none, data := .seq #[vb, vb] c, slots := #[] } →
    (∀ v h' tk, P (argBest bt (n - 1)) v → (∀ b o, b ∉ wr → b ≠ S → s.heap.get? b = some o → h'.get? b = some o) → R (.ok (.ret v)) { s with heap := h', toks := tk }) →
    codeAny (model prog w) A (.builtin "max.loop" ⟨[.ref I, .none, .ref S], []⟩) R s := by
  have hSw : S ∉ wr := fun h => hSf (W.sub _ h)
  have hname : (toString "max" ++ toString ".loop" : String) = "max.loop" := by decide
  intro k
  induction k with
  | zero =>
    intro j s vb c hk hj hst hok hPb hS hR
    have hin : j + 1 = n := by omega
    refine codeAny_builtin PySem.F.entry_max_loop ?_
    rw [Around.under_plainId PySem.F.plain_max_loop _]
    show wpAny _ A.in1 (seqItems? (.ref S) >>= _) _ _ s
    refine wpAny_bind (wpAny_seqItems hS rfl ?_)
    show wpAny _ A.in1 (tryCatch (pyNext (.ref I)) _ >>= _) _ _ s
    refine wpAny_bind (wpAny_tryCatch (W.done s _ _ (hin ▸ hst) fun h' tk hk' => ?_))
    have hS' := hk' S _ hSw hS
    show wpAny _ A.in1 (updateSeq S (fun _ => #[]) >>= _) _ _ _
    refine wpAny_bind ?_
    refine wpAny_updateSeq hS' rfl (wpAny_bind (wpAny_letGo (wpAny_pure ?_)))
    exact hR vb _ tk (by rw [← hin]; exact hPb) fun b o hbw hbS e => (Heap.get?_update_other _ _ (Ne.symm hbS)).trans (hk' b o hbw e)
  | succ k ih =>
    intro j s vb c hk hj hst hok hPb hS hR
    have hlt : j + 1 < n := by omega
    refine codeAny_builtin PySem.F.entry_max_loop ?_
    rw [Around.under_plainId PySem.F.plain_max_loop _]
    show wpAny _ A.in1 (seqItems? (.ref S) >>= _) _ _ s
    refine wpAny_bind (wpAny_seqItems hS rfl ?_)
    show wpAny _ A.in1 (tryCatch (pyNext (.ref I)) _ >>= _) _ _ s
    refine wpAny_bind (wpAny_tryCatch (W.item (j + 1) s _ _ hlt hst fun v h' tk hP hst' hk' => ?_))
    have hS' := hk' S _ hSw hS
    have hok' : OK h' := okm _ _ hok fun b o hbw _ e => hk' b o hbw e
    show wpAny _ A.in1 (tryCatch (holding [v, v] (richCompare .Gt v vb >>= _)) _ >>= _) _ _ _
    refine wpAny_bind (wpAny_tryCatch (wpAny_holding (wpAny_bind (hcmp (j + 1) (argBest bt j) v vb _ _ _ hok' hP hPb ?_))))
    refine wpAny_bind (wpAny_holding (wpAny_truthy_bool ?_))
    refine wpAny_bind (wpAny_letGo (wpAny_pure ?_))
    cases hb : bt (j + 1) (argBest bt j) with
    | true =>
      simp only [if_true]
      refine wpAny_bind ?_
      refine wpAny_updateSeq hS' rfl (wpAny_bind (wpAny_letGo ?_))
      rw [hname]
      refine wpAny_pure ⟨plainId_quiet PySem.F.plain_max_loop _, ih (j + 1) _ v _ (by omega) hlt (W.frame _ _ _ hst' fun b hbf o e => ?_) (okm _ _ hok' fun b o _ hbS e => (Heap.get?_update_other _ _ (Ne.symm hbS)).trans e) (by simp only [argBest, hb, if_true]; exact hP) (Heap.get?_update_self _ hS' rfl)
        fun v' h'' tk'' hP' hk'' => ?_⟩
      · exact (Heap.get?_update_other _ _ (fun h : S = b => hSf (by rw [h]; exact hbf))).trans e
      · exact hR v' h'' tk'' hP' fun b o hbw hbS e => hk'' b o hbw hbS ((Heap.get?_update_other _ _ (Ne.symm hbS)).trans (hk' b o hbw e))
    | false =>
      simp only [Bool.false_eq_true, if_false]
      refine wpAny_bind (wpAny_letGo ?_)
      rw [hname]
      refine wpAny_pure ⟨plainId_quiet PySem.F.plain_max_loop _, ih (j + 1) _ vb c (by omega) hlt hst' hok' (by simp only [argBest, hb, Bool.false_eq_true, if_false]; exact hPb) hS' fun v' h'' tk'' hP' hk'' => ?_⟩
      exact hR v' h'' tk'' hP' fun b o hbw hbS e => hk'' b o hbw hbS (hk' b o hbw e)
end

section
variable {prog : Program} {w : World} {X : Cx} {Γ : Gam} {b : Bool}
theorem argBest_most {ps : List (Int × Int)} {p : Int × Int} : ∀ {k : Nat}, k ≤ ps.length → (p :: ps)[argBest (fun a b => ltp ((p :: ps).getD b (0, 0)) ((p :: ps).getD a (0, 0))) k]? = some (mostP p (ps.take k))
  | 0, _ => by simp [argBest, mostP]
  | k + 1, hk => by
    have ih := @argBest_most ps p k (by omega)
    have hlt : k < ps.length := hk
    have e1 : mostP p (ps.take (k + 1)) = if ltp (mostP p (ps.take k)) ps[k] then ps[k] else mostP p (ps.take k) := by
      unfold mostP
      rw [List.take_add_one, List.getElem?_eq_getElem hlt, List.foldl_append]; rfl
    have e2 : (p :: ps).getD (argBest (fun a b => ltp ((p :: ps).getD b (0, 0)) ((p :: ps).getD a (0, 0))) k) (0, 0) = mostP p (ps.take k) := by rw [List.getD_eq_getElem?_getD, ih]; rfl
    have e3 : (p :: ps).getD (k + 1) (0, 0) = ps[k] := by rw [List.getD_eq_getElem?_getD, List.getElem?_cons_succ, List.getElem?_eq_getElem hlt]; rfl
    rw [argBest, e2, e3, e1]
    by_cases h : ltp (mostP p (ps.take k)) ps[k] = true
    · rw [if_pos h, if_pos h, List.getElem?_cons_succ, List.getElem?_eq_getElem hlt]
    · rw [if_neg h, if_neg h, ih]

theorem gt_pair_in {A : Around} {E : Value → Shared → Prop} {s : Shared} {F : Heap} {p q : Int × Int} {v u : Value} {Q : Value → Shared → Prop} (k : Ks F s.heap) (x : In prog w F (pr p) v) (y : In prog w F (pr q) u) (hu : A.units < cLine) (h : Q (.bool (ltp q p)) s) : wpAny (model prog w) A (richCompare .Gt v u) Q E s := by
  obtain ⟨a, n, t, t', rfl, ga⟩ := pair_of (W := []) (h := s.heap) (b := true) (Vi.fz (x.mono fun b o e => hideAll_get _ (k b o e) (by simp)))
  obtain ⟨c, m, t2, t2', rfl, gb⟩ := pair_of (W := []) (h := s.heap) (b := true) (Vi.fz (y.mono fun b o e => hideAll_get _ (k b o e) (by simp)))
  exact wpAny_richCompare_same_room (op := .Gt) (T := "tuple") ⟨_, ga, rfl⟩ ⟨_, gb, rfl⟩ PySem.F.slot_tuple_gt (wpAny_call_entry PySem.F.slot_tuple_gt ⟨_, ga, rfl⟩ PySem.F.entry_tuple_gt (gt_pair_tree ga gb ⟨_, rfl, (fun h => nomatch h), h⟩) (PySem.F.args_tuple_gt_2 _ _)) hu

theorem BltC.maxPairs {p : Int × Int} {ps : List (Int × Int)} : BltC prog w X "max" [(b, .lst ((p :: ps).map pr))] (true, pr (mostP p ps)) := fun s vs Q hI hv hQ => by
  cases hv with
  | cons h1 hv =>
    cases hv
    obtain ⟨a, vs, n, rfl, g, r⟩ := h1.lst
    have hl := r.length
    rw [List.length_map] at hl
    have hname : (toString "max" ++ toString ".loop" : String) = "max.loop" := by decide
    refine call_function_tree PySem.F.kind_max PySem.F.plain_max PySem.F.entry_max (PySem.F.args_max1 _) ?_
    show wpAny _ X.A.in1 (Builtin.Builtins.bindParams "max" ["key", "default"] 0 ⟨[], []⟩ >>= _) _ _ s
    refine wpAny_bind (wpAny_of_eq (show Builtin.Builtins.bindParams "max" ["key", "default"] 0 ⟨[], []⟩ = pure [none, none] from rfl) ?_)
    refine wpAny_bind (wpAny_pure ?_)
    refine wpAny_bind (wpAny_pyIter_list (isList_of g) ?_)
    refine wpAny_bind (wpAny_newObj_type ?_)
    have hne := ne_fresh g
    generalize hs3 : ({ s with heap := s.heap.push { cls := .type "list_iterator", data := .fields #[.ref a, .int 0 0] } } : Shared) = s₃
    have k₃ : Keeps s s₃ := by rw [← hs3]; exact Kp.push s _
    have hI3 : s₃.heap.IsListIter s.heap.objs.size a 0 := by rw [← hs3]; exact ⟨_, Heap.get?_push_size _ rfl, rfl, rfl⟩
    have g3 := Kp.ks k₃ _ _ g
    have hF : Ks (Fz X.W s.heap) s₃.heap := fun b o e => Kp.ks k₃ _ _ (of_hideAll _ e)
    have hISz : s.heap.objs.size < s₃.heap.objs.size := by obtain ⟨o, e, _⟩ := hI3; exact Heap.lt_size e
    have haSz : a < s₃.heap.objs.size := Heap.lt_size g3
    have hval : ∀ (k : Nat) (v : Value), vs.toArray[k]? = some v → In prog w (Fz X.W s.heap) (pr ((p :: ps).getD k (0, 0))) v := fun k v hv => by
      rw [List.getElem?_toArray] at hv
      have hk : k < vs.length := (List.getElem?_eq_some_iff.mp hv).1
      have hk' : k < (p :: ps).length := by omega
      obtain ⟨u, hu, iu⟩ := r.get (k := k) (d := pr (p :: ps)[k]) (by rw [List.getElem?_map, List.getElem?_eq_getElem hk']; rfl)
      rw [hv] at hu; cases hu
      rw [List.getD_eq_getElem?_getD, List.getElem?_eq_getElem hk']; exact iu
    have Wl := Walks.list (prog := prog) (w := w) (A := X.A.in1) X.hh s.heap.objs.size a hne vs.toArray
    have hSf : s₃.heap.objs.size ∉ [s.heap.objs.size, a] := by
      simp only [List.mem_cons, List.not_mem_nil, or_false, not_or]
      exact ⟨Nat.ne_of_gt hISz, Nat.ne_of_gt haSz⟩
    have hn0 : 0 < vs.toArray.size := by rw [List.size_toArray, hl]; simp
    have hroom := X.room
    rw [hname]
    refine wpAny_pure ⟨plainId_quiet PySem.F.plain_max_loop _, ?_⟩
    -- the first turn
    refine codeAny_builtin PySem.F.entry_max_loop ?_
    rw [Around.under_plainId PySem.F.plain_max_loop _]
    have hS : (s₃.heap.push { cls := .type "list", data := .seq ([] : List Value).toArray }).get? s₃.heap.objs.size = some { cls := .type "list", dict := none, data := .seq #[] 0, slots := #[] } := Heap.get?_push_size _ rfl
    show wpAny _ X.A.in1 (seqItems? (.ref s₃.heap.objs.size) >>= _) _ _ { s₃ with heap := s₃.heap.push { cls := .type "list", data := .seq ([] : List Value).toArray } }
    refine wpAny_bind (wpAny_seqItems hS rfl ?_)
    show wpAny _ X.A.in1 (tryCatch (pyNext (.ref s.heap.objs.size)) _ >>= _) _ _ _
    have hst0 : (s₃.heap.push { cls := .type "list", data := .seq ([] : List Value).toArray }).IsListIter s.heap.objs.size a 0 ∧ (s₃.heap.push { cls := .type "list", data := .seq ([] : List Value).toArray }).IsList a vs.toArray :=
      ⟨hI3.at fun o e => Heap.get?_push_of_some _ e, isList_of (Heap.get?_push_of_some _ g3)⟩
    refine wpAny_bind (wpAny_tryCatch (Wl.item 0 _ _ _ hn0 hst0 fun v h' tk hP hst' hk' => ?_))
    have hSw : s₃.heap.objs.size ∉ [s.heap.objs.size] := by simpa using Nat.ne_of_gt hISz
    have hS' := hk' _ _ hSw hS
    show wpAny _ X.A.in1 (updateSeq s₃.heap.objs.size (fun _ => #[v, v]) >>= _) _ _ _
    refine wpAny_bind ?_
    refine wpAny_updateSeq hS' rfl ?_
    rw [hname]
    have old : ∀ b o, b ≠ s.heap.objs.size → b ≠ s₃.heap.objs.size → s₃.heap.get? b = some o → h'.get? b = some o := fun b o h1 h2 e => hk' b o (by simpa using h1) (Heap.get?_push_of_some _ e)
    refine wpAny_pure ⟨plainId_quiet PySem.F.plain_max_loop _, max_turns Wl (fun a b => ltp ((p :: ps).getD b (0, 0)) ((p :: ps).getD a (0, 0))) (fun h => Ks (Fz X.W s.heap) h)
      (fun i j vi vj s' Q' E' hok hi hj h => gt_pair_in hok (hval i vi hi) (hval j vj hj) (by show X.A.units + 1 < cLine; omega) h) s₃.heap.objs.size hSf (fun h h' hok hk b o e => hk b o ?_ ?_ (hok b o e))
      _ 0 _ v _ rfl hn0 (Wl.frame _ _ _ hst' fun b hbf o e => ?_) ?_ hP (Heap.get?_update_self _ hS' rfl) fun v' h'' tk'' hP' hk'' => ?_⟩
    · simpa using ne_fresh (of_hideAll _ e)
    · exact fun q => by
        have := Heap.lt_size (of_hideAll _ e)
        rw [q] at this
        exact absurd (Nat.lt_trans this hISz) (Nat.lt_irrefl _)
    · exact (Heap.get?_update_other _ _ (fun h : s₃.heap.objs.size = b => hSf (by rw [h]; exact hbf))).trans e
    · intro b o e
      have e' := of_hideAll _ e
      have hb1 : b ≠ s.heap.objs.size := ne_fresh e'
      have hb2 : b ≠ s₃.heap.objs.size := ne_fresh (Kp.ks k₃ _ _ e')
      exact (Heap.get?_update_other _ _ (Ne.symm hb2)).trans (old b o hb1 hb2 (Kp.ks k₃ _ _ e'))
    · have hv' := hval _ _ hP'
      have e := argBest_most (p := p) (ps := ps) (Nat.le_refl _)
      rw [List.take_length] at e
      have hs1 : vs.toArray.size - 1 = ps.length := by rw [List.size_toArray, hl]; simp
      rw [hs1, List.getD_eq_getElem?_getD, e] at hv'
      have kk : Keeps s { s₃ with heap := h'', toks := tk'' } := by
        obtain ⟨h1, t1, e1, k1⟩ := k₃
        subst e1
        exact ⟨h'', tk'', rfl, fun b o e => by
          have hb1 : b ≠ s.heap.objs.size := ne_fresh e
          have hb2 := ne_fresh (k1 b o e)
          exact hk'' b o (by simpa using hb1) hb2 ((Heap.get?_update_other _ _ (Ne.symm hb2)).trans (old b o hb1 hb2 (k1 b o e)))⟩
      exact hQ v' _ kk (Vi.fz (In.mono (fz_ks (Kp.ks kk)) hv'))
end
end Mine

namespace Mine
section
variable {prog : Program} {w : World} {X : Cx} {Γ : Gam} {b₁ b₂ : Bool}

theorem int_items {F : Heap} {ns : List Int} {vs : List Value} (r : InL prog w F (ns.map D.int) vs) : ∀ (j : Nat) (h : j < vs.length), ∃ t, vs[j] = .int (ns.getD j 0) t := fun j h => by
  have hl := r.length
  rw [List.length_map] at hl
  have hj : j < ns.length := by omega
  obtain ⟨u, hu, iu⟩ := r.get (k := j) (d := .int ns[j]) (by rw [List.getElem?_map, List.getElem?_eq_getElem hj]; rfl)
  rw [List.getElem?_eq_getElem h] at hu; cases hu
  obtain ⟨t, e⟩ := In.int_iff.mp iu
  exact ⟨t, by rw [e, List.getD_eq_getElem?_getD, List.getElem?_eq_getElem hj]; rfl⟩
noncomputable def isI (k : Int) : Value → Bool
  | .int i _ => i == k
  | _ => false
theorem isI_gives {F : Heap} {ns : List Int} {vs : List Value} (r : InL prog w F (ns.map D.int) vs) (k : Int) (t : Tok) : ∀ y, y ∈ vs.toArray → MeetsSeq.EqGives y (.int k t) (isI k y) := fun y hy => by
  have hy' : y ∈ vs := by simpa using hy
  obtain ⟨j, hj, rfl⟩ := List.getElem_of_mem hy'
  obtain ⟨u, e⟩ := int_items r j hj
  rw [e]
  exact MeetsSeq.EqGives.int _ _ _ _

/-- o.index(e), the first place of an int -/
theorem Ev.index {o e : Expr} {apos pos : Pos} {ns : List Int} {k : Int} {j : Nat} (ho : Ev prog w X Γ o (b₁, .lst (ns.map D.int))) (he : Ev prog w X Γ e (b₂, .int k)) (hj : ns[j]? = some k) (hm : ∀ m, m < j → ns[m]? ≠ some k) (hz : ns.length < 2 ^ 60)
    (hbase : attributeBase o "index" X.env (eval o X.env) = eval o X.env := by rfl) (hline : (apos.endLine == pos.line) = true := by rfl) (htrees : backTo pos (starEach [e] X.env) = [(false, eval e X.env)] := by rfl) :
    Ev prog w X Γ (.Call (.Attribute o (Str.ofString "index") apos) [e] [] pos) (true, .int j) := fun s Q hI hS hQ => by
  refine wpAny_Call_method1_late hbase hline htrees (ho s _ hI hS fun v s₁ k₁ i₁ => ?_)
  obtain ⟨a, vs, n, rfl, g, r⟩ := i₁.lst
  refine ⟨"list", "list.index", PySem.F.plainAttrs_list, PySem.F.slot_list_index, PySem.F.type_list_index, ⟨_, g, rfl⟩, (fun b e => by cases e; exact ⟨_, g, rfl⟩), _root_.PySem.P.index_list (he s₁ _ (X.mono _ _ hI k₁) (hS.keeps k₁) fun u s₂ k₂ i₂ => ?_)⟩
  obtain ⟨t, rfl⟩ := i₂.int
  have g₂ := Kp.ks k₂ _ _ g
  have hl := r.length
  rw [List.length_map] at hl
  have hjl : j < ns.length := (List.getElem?_eq_some_iff.mp hj).1
  have hjv : j < vs.length := by omega
  refine ⟨vs.toArray, n, isI k, j, by rw [List.size_toArray]; exact hjv, g₂, isI_gives r k t, by omega, ?_, fun m hm' hlt => ?_, hQ _ _ (Kp.trans (Kp.trans k₁ k₂) (Kp.tok s₂ _)) (Vi.of_int _ _)⟩
  · obtain ⟨u, e⟩ := int_items r j hjv
    show isI k vs[j] = true
    rw [e, List.getD_eq_getElem?_getD, hj]
    simp [isI]
  · have hmv : m < vs.length := by simpa using hm'
    obtain ⟨u, e⟩ := int_items r m hmv
    show isI k vs[m] = false
    have hml : m < ns.length := by omega
    have hne := hm m hlt
    rw [List.getElem?_eq_getElem hml] at hne
    rw [e, List.getD_eq_getElem?_getD, List.getElem?_eq_getElem hml]
    have : ns[m] ≠ k := fun q => hne (by rw [q])
    simp [isI, this]
theorem count_ints {F : Heap} {k : Int} : ∀ {ns : List Int} {vs : List Value}, InL prog w F (ns.map D.int) vs → vs.countP (isI k) = ns.count k
  | [], vs, r => by rw [InL.nil_iff.mp r]; rfl
  | m :: ns, vs, r => by
    obtain ⟨v, r', rfl, i, l⟩ := InL.cons_iff.mp r
    obtain ⟨u, rfl⟩ := In.int_iff.mp i
    rw [List.countP_cons, List.count_cons, count_ints l]
    rfl
/-- o.count(e) -/
theorem Ev.count {o e : Expr} {apos pos : Pos} {ns : List Int} {k : Int} (ho : Ev prog w X Γ o (b₁, .lst (ns.map D.int))) (he : Ev prog w X Γ e (b₂, .int k))
    (hbase : attributeBase o "count" X.env (eval o X.env) = eval o X.env := by rfl) (hline : (apos.endLine == pos.line) = true := by rfl) (htrees : backTo pos (starEach [e] X.env) = [(false, eval e X.env)] := by rfl) :
    Ev prog w X Γ (.Call (.Attribute o (Str.ofString "count") apos) [e] [] pos) (true, .int (ns.count k)) := fun s Q hI hS hQ => by
  refine wpAny_Call_method1_late hbase hline htrees (ho s _ hI hS fun v s₁ k₁ i₁ => ?_)
  obtain ⟨a, vs, n, rfl, g, r⟩ := i₁.lst
  refine ⟨"list", "list.count", PySem.F.plainAttrs_list, PySem.F.slot_list_count, PySem.F.type_list_count, ⟨_, g, rfl⟩, (fun b e => by cases e; exact ⟨_, g, rfl⟩), _root_.PySem.P.count_list (he s₁ _ (X.mono _ _ hI k₁) (hS.keeps k₁) fun u s₂ k₂ i₂ => ?_)⟩
  obtain ⟨t, rfl⟩ := i₂.int
  have g₂ := Kp.ks k₂ _ _ g
  have hc := count_ints (k := k) r
  refine ⟨vs.toArray, n, isI k, g₂, isI_gives r k t, ?_⟩
  have : (vs.toArray.toList.countP (isI k) : Int) = (ns.count k : Int) := by rw [show vs.toArray.toList = vs from rfl, hc]
  rw [this]
  exact hQ _ _ (Kp.trans (Kp.trans k₁ k₂) (Kp.tok s₂ _)) (Vi.of_int _ _)
end

section
variable {M : Amb} {sc : Scope} {α : Act M sc} {Γ : Gam} {Ω : List Str} {μ : Str → Option Value} {own : List (Str × Addr)} {s s' : Shared} {mods mods' : List Str} {P : Pst}

/-- x += e, ints -/
theorem S1.iadd {x : Str} {px pos : Pos} {e : Expr} {i j : Int} {b : Bool} (hx : Γ x = some (true, .int i)) (he : EvA α Γ e (b, .int j)) (hk : isVar sc x) (hΩ : x ∉ Ω) (h : P .next (Γ.set x (true, .int (i + j))) Ω) (hdb : (x == ("__debug__" : Str)) = false := by decide) :
    S1 α mods Γ Ω (.AugAssign (.Name x px) .Add e pos) P := fun μ own s Q S hQ => by
  obtain ⟨_, v, hv, hi⟩ := S.vars x _ hx
  have hin := hi.vi S.fr.keep
  obtain ⟨t, rfl⟩ := hin.int
  have hkf : α.env.scope.kind = .function := by rw [α.hsc]; exact α.hke
  have load : ∀ Q' : Value → Shared → Prop, Q' (.int i t) s → wpAny (model M.prog M.w) α.A (loadName α.env x) Q' NoE s := fun Q' hQ' => by
    rcases hk with hk | hk
    · obtain ⟨m, f, e⟩ := S.fr.m
      exact wpAny_loadName_local hkf (by show α.env.scope.names.lookup x = _; rw [α.hsc]; exact hk) f.ns ((e x hk).trans hv) hQ'
    · obtain ⟨c, h1, h2⟩ := S.fr.c x hk
      rw [hv] at h2
      exact wpAny_loadName_cell hkf (by show α.env.scope.names.lookup x = _; rw [α.hsc]; exact hk) h1 h2 hQ'
  refine wpAny_AugAssign_Name (load _ (he own s _ S.cxI S.sees fun u s₁ k₁ i₁ => ?_))
  obtain ⟨t', rfl⟩ := i₁.int
  refine _root_.PySem.P.iadd_int ?_
  have k₂ := Kp.trans k₁ (Kp.tok s₁ (s₁.toks + 1))
  exact (S.keeps k₂).store (In.int_iff.mpr ⟨_, rfl⟩) hΩ hdb hk fun s₂ S₂ T₂ => hQ .next .next _ _ _ _ _ S₂ (Tn.trans S (Tn.of_keeps k₂) T₂) trivial h

/-- x[i] -= e, x a dict of ints -/
theorem S1.isubKey {x : Str} {px spos pos : Pos} {i e : Expr} {kvs : List (Int × D)} {n k m : Int} {b b' : Bool} (hx : Γ x = some (false, .dct kvs)) (ho : x ∈ Ω) (hm : x ∈ mods) (hi : EvA α Γ i (b, .int k)) (he : EvA α Γ e (b', .int m)) (hd : look kvs k = some (.int n)) (hz : kvs.length ≤ sizeLine)
    (h : P .next (Γ.set x (false, .dct (stor kvs k (.int (n - m))))) Ω) (ha : ∀ ov iv new, augStore i ov iv new = (do holding [new, ov, iv] (setItem ov iv new); release [new, ov, iv] []; pure .next) := by intro _ _ _; rfl) :
    S1 α mods Γ Ω (.AugAssign (.Subscript (.Name x px) i spos) .Sub e pos) P := fun μ own s Q S hQ => by
  obtain ⟨a, hv, hao, hR⟩ := S.ownAt hx ho
  obtain ⟨a', o, kv, ea, g, q, hsy, r⟩ := hR
  cases ea
  refine wpAny_AugAssign_Subscript_any (S.nameAt hx hv (hi own s _ S.cxI S.sees fun iv s₁ k₁ i₁ => ?_)) ha
  obtain ⟨t, rfl⟩ := i₁.int
  obtain ⟨v, hv', iv⟩ := r.look hd
  have S₁ := S.keeps k₁
  have g₁ := Kp.ks k₁ _ _ g
  refine wpAny_getItem_of (intKind_is _ _ k t) (dictOf_of g₁ q).mapOf hv' ?_
  obtain ⟨t', rfl⟩ := In.int_iff.mp iv
  have kt := Kp.trans k₁ (Kp.tok s₁ (s₁.toks + 1))
  refine he own _ _ (S.keeps kt).cxI (S.keeps kt).sees fun u s₂ k₂ i₂ => ?_
  obtain ⟨t2, rfl⟩ := i₂.int
  refine _root_.PySem.P.isub_int ?_
  have kk := Kp.trans (Kp.trans kt k₂) (Kp.tok s₂ (s₂.toks + 1))
  have S₂ := S.keeps kk
  have g₂ := Kp.ks kk _ _ g
  refine wpAny_setItem_pairs (intKind_is _ _ k t) (dictOf_of g₂ q) (fun h' hD' hs => ?_) (by rw [r.length]; exact hz)
  obtain ⟨o', g₃, q'⟩ := Heap.dictOf_iff.mp hD'
  have haW : a ∈ α.W own := List.mem_append_left _ (List.mem_map_of_mem hao)
  have kF := fz_but haW hs
  obtain ⟨S₃, T₃⟩ := S₂.turn (mods := mods) (d' := .dct (stor kvs k (.int (n - m)))) (s₂.toks + 1 + 1) hx ho hv hao hs (InR.dct g₃ q' hsy (((r.mono (fz_ks (Kp.ks kk))).mono kF).stor (In.int_iff.mpr ⟨_, rfl⟩))) ⟨_, g₃⟩ hm
  exact hQ .next .next _ _ _ _ _ S₃ (Tn.trans S (Tn.of_keeps kk) T₃) trivial h

/-- if x.pop() != y: (not taken) -/
theorem S1.ifPopSame {x y : Str} {px py apos cpos pos pos' : Pos} {ds : List D} {k : Int} {b : Bool} {body : List Stmt} (hx : Γ x = some (false, .lst (ds ++ [.int k]))) (ho : x ∈ Ω) (hm : x ∈ mods) (hz : ds.length < sizeLine) (hy : Γ y = some (b, .int k)) (hyx : y ≠ x)
    (h : P .next (Γ.set x (false, .lst ds)) Ω)
    (hline : (apos.endLine == cpos.line) = true := by rfl) : S1 α mods Γ Ω (.If (.Compare (.Call (.Attribute (.Name x px) (Str.ofString "pop") apos) [] [] cpos) [.NotEq] [.Name y py] pos') body [] pos) P := fun μ own s Q S hQ => by
  refine wpAny_If (wpAny_isTrue_Compare1 (S.pop (mods := mods) hx ho hm hz (fun v s₁ S₁ T₁ i₁ => ?_) hline))
  obtain ⟨t, rfl⟩ := In.int_iff.mp i₁
  obtain ⟨_, u, hu, hi⟩ := S₁.vars y (b, .int k) ((Gam.set_ne hyx).trans hy)
  have hin := hi.vi S₁.fr.keep
  obtain ⟨t', rfl⟩ := hin.int
  refine S₁.nameAt ((Gam.set_ne hyx).trans hy) hu ?_
  refine _root_.PySem.P.ne_int ?_
  have : (k != k) = false := by simp
  first
    | rw [this]
    | skip
  refine wpAny_truthy_bool ?_
  simp only [bne_self_eq_false, Bool.false_eq_true, if_false]
  exact wpAny_execs_nil (hQ .next .next _ _ _ _ _ S₁ T₁ trivial h)

theorem unpack_pair {A : Around} {E : Value → Shared → Prop} {s : Shared} {a : Addr} {vs : List Value} {n m : Nat} {Q : List Value → Shared → Prop} (hh : A.handled = none) (g : s.heap.get? a = some (tupO vs n)) (hm : m = vs.length) (h : ∀ s', Keeps s s' → Q vs s') : wpAny (model M.prog M.w) A (unpackItems (.ref a) m none) Q E s := by
  subst hm
  have ht := isTup_get g
  have e : vs.length = vs.toArray.size := by simp
  rw [e]
  exact wpAny_unpackItems_tuple hh ht fun h' hx => h _ ⟨h', s.toks, rfl, fun b o e => hx b o (ne_fresh e) e⟩

/-- x, y = e, f; the stores swapped -/
theorem S1.assignSwap2 {x y : Str} {px py tpos pos : Pos} {n : Nat} {e : Expr} {d₁ d₂ : D} (he : EvA α Γ e (true, .tup [d₁, d₂])) (hx : isVar sc x) (hxΩ : x ∉ Ω) (hy : isVar sc y) (hyΩ : y ∉ Ω) (h : P .next ((Γ.set y (true, d₂)).set x (true, d₁)) Ω)
    (hdx : (x == ("__debug__" : Str)) = false := by decide) (hdy : (y == ("__debug__" : Str)) = false := by decide)
    (hs : swapsWithSole [.Tuple [.Name x px, .Name y py] n tpos] e pos.line α.env = pure false := by rfl) (hw : swappedStores [.Tuple [.Name x px, .Name y py] n tpos] e α.env = pure (some [x, y]) := by rfl) :
    S1 α mods Γ Ω (.Assign [.Tuple [.Name x px, .Name y py] n tpos] e pos) P := fun μ own s Q S hQ => by
  refine PyProof.Rows.Assign_Tuple_swapped (names := [x, y]) (he own s _ S.cxI S.sees fun v s₁ k₁ i₁ => ?_) hs hw
  obtain ⟨a, vs, m, rfl, g, r⟩ := i₁.tup
  obtain ⟨v1, r1, rfl, j1, l1⟩ := InL.cons_iff.mp r
  obtain ⟨v2, r2, rfl, j2, l2⟩ := InL.cons_iff.mp l1
  cases InL.nil_iff.mp l2
  refine unpack_pair α.hh g rfl fun s₂ k₂ => ?_
  have kk := Kp.trans k₁ k₂
  have S₂ := S.keeps kk
  refine assignInOrder_cons (bindName_ (S₂.store (mods := mods) (j2.mono (fz_ks (Kp.ks k₂))) hyΩ hdy hy fun s₃ S₃ T₃ => assignInOrder_cons (bindName_ (S₃.store (mods := mods) (In.mono ?_ (j1.mono (fz_ks (Kp.ks k₂)))) hxΩ hdx hx fun s₄ S₄ T₄ => assignInOrder_nil ?_))))
  · exact fz_kept (fun b o hb e => T₃.kf b o (fun hm => hb (by
      rcases List.mem_append.mp hm with hm | hm
      · exact List.mem_append_left _ hm
      · exact List.mem_append_right _ (List.mem_append_left _ hm))) e) fun _ _ _ h => h
  · exact hQ .next .next _ _ _ _ _ S₄ (Tn.trans S (Tn.of_keeps kk) (Tn.trans S₂ T₃ T₄)) trivial h

theorem Tn.weak {own' : List (Str × Addr)} (T : Tn α [] own own' s s') : Tn α mods own own' s s' := ⟨T.rest, T.kf, fun p hp _ => T.km p hp (fun h => nomatch h), T.al, T.new⟩
/-- x, y, z = [], [], []; the stores swapped -/
theorem S1.assignNil3 {x y z : Str} {px py pz tpos epos pos p1 p2 p3 : Pos} {n m : Nat} (hx : isVar sc x) (hy : isVar sc y) (hz : isVar sc z) (hne : x ≠ y ∧ x ≠ z ∧ y ≠ z) (hΓ : ∀ d, Γ x ≠ some (false, d) ∧ Γ y ≠ some (false, d) ∧ Γ z ≠ some (false, d))
    (h : P .next (((Γ.set z (false, .lst [])).set y (false, .lst [])).set x (false, .lst [])) (z :: y :: x :: Ω))
    (hdx : (x == ("__debug__" : Str)) = false := by decide) (hdy : (y == ("__debug__" : Str)) = false := by decide) (hdz : (z == ("__debug__" : Str)) = false := by decide)
    (hs : swapsWithSole [.Tuple [.Name x px, .Name y py, .Name z pz] n tpos] (.Tuple [.List [] p1, .List [] p2, .List [] p3] m epos) pos.line α.env = pure false := by rfl) (hw : swappedStores [.Tuple [.Name x px, .Name y py, .Name z pz] n tpos] (.Tuple [.List [] p1, .List [] p2, .List [] p3] m epos) α.env = pure (some [x, y, z]) := by rfl) :
    S1 α mods Γ Ω (.Assign [.Tuple [.Name x px, .Name y py, .Name z pz] n tpos] (.Tuple [.List [] p1, .List [] p2, .List [] p3] m epos) pos) P := fun μ own s Q S hQ => by
  refine PyProof.Rows.Assign_Tuple_swapped (names := [x, y, z]) ?_ hs hw
  rw [arm_eval_Tuple]
  refine wpAny_bind (wpAny_standAt (wpAny_bind ?_))
  have I₀ := S.cxI
  refine spliced_more (EvN.nil own s _ I₀ S.sees fun a₁ s₁ k₁ n₁ l₁ i₁ => spliced_more (EvN.nil own s₁ _ ((α.cx own).mono _ _ I₀ k₁) (S.sees.keeps k₁) fun a₂ s₂ k₂ n₂ l₂ i₂ => spliced_more (EvN.nil own s₂ _ ((α.cx own).mono _ _ I₀ (Kp.trans k₁ k₂)) (S.sees.keeps (Kp.trans k₁ k₂)) fun a₃ s₃ k₃ n₃ l₃ i₃ => spliced_none ?_) rfl) rfl) rfl
  refine wpAny_newObj_type ?_ (by show [Value.ref a₁, .ref a₂, .ref a₃].toArray.size ≤ sizeLine; simp [sizeLine])
  refine unpack_pair (vs := [.ref a₁, .ref a₂, .ref a₃]) (n := 0) α.hh (Heap.get?_push_size _ rfl) rfl fun s₄ k₄ => ?_
  have k₄' : Keeps s₃ s₄ := Kp.trans (Kp.push s₃ _) k₄
  have S₁ := S.adopt k₁ n₁ l₁ (x := x) (a := a₁) (fun d => (hΓ d).1)
  have S₂ := S₁.adopt k₂ n₂ l₂ (x := y) (a := a₂) (fun d => (hΓ d).2.1)
  have S₃ := S₂.adopt k₃ n₃ l₃ (x := z) (a := a₃) (fun d => (hΓ d).2.2)
  have S₄ := S₃.keeps k₄'
  have T₄ : Tn α mods own ((z, a₃) :: (y, a₂) :: (x, a₁) :: own) s s₄ := Tn.trans S (Tn.adopt k₁ n₁) (Tn.trans S₁ (Tn.adopt k₂ n₂) (Tn.trans S₂ (Tn.adopt k₃ n₃) (Tn.of_keeps k₄')))
  have emp : ∀ {a : Addr} {h F : Heap}, InR M.prog M.w h F (.lst []) (.ref a) → h.get? a = some (lobj [] 0) ∨ ∃ n, h.get? a = some (lobj [] n) := fun {a h F} i => by
    obtain ⟨a', vs, n, e, g, r⟩ := i
    cases e
    rw [InL.nil_iff.mp r] at g
    exact .inr ⟨n, g⟩
  have at1 : ∃ n, s₄.heap.get? a₁ = some (lobj [] n) := by rcases emp i₁ with g | ⟨n, g⟩ <;> exact ⟨_, Kp.ks (Kp.trans (Kp.trans k₂ k₃) k₄') _ _ g⟩
  have at2 : ∃ n, s₄.heap.get? a₂ = some (lobj [] n) := by rcases emp i₂ with g | ⟨n, g⟩ <;> exact ⟨_, Kp.ks (Kp.trans k₃ k₄') _ _ g⟩
  have at3 : ∃ n, s₄.heap.get? a₃ = some (lobj [] n) := by rcases emp i₃ with g | ⟨n, g⟩ <;> exact ⟨_, Kp.ks k₄' _ _ g⟩
  obtain ⟨m1, g1⟩ := at1
  obtain ⟨m2, g2⟩ := at2
  obtain ⟨m3, g3⟩ := at3
  have ok : ∀ {v : Str} {a : Addr} {n : Nat} {h : Heap}, (v, a) ∈ (z, a₃) :: (y, a₂) :: (x, a₁) :: own → v ∈ z :: y :: x :: Ω → h.get? a = some (lobj [] n) → VarOk α (z :: y :: x :: Ω) ((z, a₃) :: (y, a₂) :: (x, a₁) :: own) h v (false, .lst []) (.ref a) := fun hm hv g => by
    unfold VarOk
    rw [if_neg (by simp), if_pos hv]
    exact ⟨_, rfl, hm, InR.lst g InL.nil⟩
  refine assignInOrder_cons (bindName_ (S₄.storeV (mods := []) (r := (false, .lst [])) (ok (by simp) (by simp) g3) hdz hz fun s₅ S₅ T₅ => assignInOrder_cons (bindName_ (S₅.storeV (mods := []) (r := (false, .lst [])) (ok (by simp) (by simp) (T₅.km (y, a₂) (by simp) (by simp) _ g2)) hdy hy fun s₆ S₆ T₆ => assignInOrder_cons (bindName_ (S₆.storeV (mods := []) (r := (false, .lst [])) (ok (by simp) (by simp) (T₆.km (x, a₁) (by simp) (by simp) _ (T₅.km (x, a₁) (by simp) (by simp) _ g1))) hdx hx fun s₇ S₇ T₇ => assignInOrder_nil ?_))))))
  exact hQ .next .next _ _ _ _ _ S₇ (Tn.trans S T₄ (Tn.trans S₄ T₅.weak (Tn.trans S₅ T₆.weak T₇.weak))) trivial h
end
end Mine

namespace Mine
variable {M : Amb} {sc : Scope} {α : Act M sc} {Γ : Gam} {Ω : List Str} {μ : Str → Option Value} {own : List (Str × Addr)} {s s' : Shared} {mods : List Str} {P : Pst}

theorem bindL_eq {kind : Str → Option NameKind} {x : Str} (hx : kind x = some .local) : ∀ (bs : List (Str × Value)) (m : Str → Option Value), bindL kind bs m x = (bs.reverse.lookup x).or (m x)
  | [], m => by simp [bindL]
  | (n, v) :: r, m => by
    rw [bindL, bindL_eq hx r]
    rw [List.reverse_cons]
    have key : (r.reverse ++ [(n, v)]).lookup x = (r.reverse.lookup x).or (if x = n then some v else none) := by
      cases h : r.reverse.lookup x with
      | some c => rw [lookup_append_some h]; rfl
      | none =>
        rw [lookup_append_none (fun p hp e => by obtain ⟨c, hc⟩ := lookup_some_of_mem (y := x) (c := p.2) (by rw [← e]; exact hp); rw [h] at hc; cases hc)]
        rw [List.lookup_cons]
        by_cases hxn : x = n
        · subst hxn; simp
        · have : (x == n) = false := by simpa using hxn
          rw [this, if_neg hxn]; rfl
    rw [key, Option.or_assoc]
    congr 1
    by_cases hxn : x = n
    · subst hxn; rw [if_pos hx, if_pos rfl, if_pos rfl]; rfl
    · rw [if_neg hxn]
      split
      · show (if x = n then some v else m x) = _
        rw [if_neg hxn]; rfl
      · rfl
theorem bindC_eq {kind : Str → Option NameKind} {x : Str} (hx : kind x ≠ some .local) : ∀ (bs : List (Str × Value)) (m : Str → Option Value), bindC kind bs m x = (bs.reverse.lookup x).or (m x)
  | [], m => by simp [bindC]
  | (n, v) :: r, m => by
    rw [bindC, bindC_eq hx r]
    rw [List.reverse_cons]
    have key : (r.reverse ++ [(n, v)]).lookup x = (r.reverse.lookup x).or (if x = n then some v else none) := by
      cases h : r.reverse.lookup x with
      | some c => rw [lookup_append_some h]; rfl
      | none =>
        rw [lookup_append_none (fun p hp e => by obtain ⟨c, hc⟩ := lookup_some_of_mem (y := x) (c := p.2) (by rw [← e]; exact hp); rw [h] at hc; cases hc)]
        rw [List.lookup_cons]
        by_cases hxn : x = n
        · subst hxn; simp
        · have : (x == n) = false := by simpa using hxn
          rw [this, if_neg hxn]; rfl
    rw [key, Option.or_assoc]
    congr 1
    by_cases hxn : x = n
    · subst hxn; rw [if_neg hx, if_pos rfl, if_pos rfl]; rfl
    · rw [if_neg hxn]
      split
      · rfl
      · show (if x = n then some v else m x) = _
        rw [if_neg hxn]; rfl
theorem cellsFrom_nodup : ∀ (names : List (Str × NameKind)) (n : Nat) (acc : List (Str × Addr)), (names.map (·.1) ++ acc.map (·.1)).Nodup → ((cellsFrom n names acc).map (·.1)).Nodup
  | [], n, acc, h => by simpa [cellsFrom] using h
  | (name, kind) :: r, n, acc, h => by
    unfold cellsFrom
    split
    · refine cellsFrom_nodup r (n + 1) _ ?_
      rw [List.map_cons] at h ⊢
      exact (List.perm_middle.nodup_iff).mpr h
    · refine cellsFrom_nodup r n _ ?_
      rw [List.map_cons, List.cons_append] at h
      exact (List.nodup_cons.mp h).2
theorem lookup_of_nodup {β : Type} : ∀ {l : List (Str × β)} {p : Str × β}, (l.map (·.1)).Nodup → p ∈ l → l.lookup p.1 = some p.2
  | (y, d) :: l, p, nd, hp => by
    rw [List.map_cons, List.nodup_cons] at nd
    rw [List.lookup_cons]
    rcases List.mem_cons.mp hp with rfl | hp
    · simp
    · have : (p.1 == y) = false := by
        have hne : p.1 ≠ y := fun e => nd.1 (e ▸ List.mem_map.mpr ⟨p, hp, rfl⟩)
        simpa using hne
      rw [this]; exact lookup_of_nodup nd.2 hp

section
variable {f : Addr} {name qual : Str} {params : Arguments} {body : List Stmt} {scope : Scope} {dV kV doc pm cdv ct oc : Value} {an od : Option Addr} {osl : Array (Option Value)}

/-- a def with cells -/
theorem PureC.ofCells {n : Nat} {rs : List (Bool × D)} {d : D} {rs' : List (Str × (Bool × D))} {mods' : List Str} (DA : DefAt M f name qual params body scope dV kV doc pm cdv ct oc an od osl)
    (hnd : (scope.names.map (·.1)).Nodup) (hloc : ∀ y ∈ rs', isVar scope y.1 ∧ (y.1 == ("__debug__" : Str)) = false)
    (hb : ∀ {s : Shared} {W : List Addr} {vs : List Value}, ViL M.prog M.w W s.heap rs vs → ∃ binds, bindArgs (fnOf name qual params body scope dV kV doc pm an cdv ct) ⟨vs, []⟩ = pure binds ∧ BindsIn (fun _ r v => Vi M.prog M.w W s.heap r v) binds rs')
    (hbody : ∀ β : Act M scope, β.lv = n → β.lent = [] → Sp β mods' (argsG rs') [] body (RetP d)) : PureC M f n rs [] [] d := by
  intro sc α own s vs ks Q hlv hI hv hk hQ
  cases hk
  obtain ⟨⟨⟨μ, F⟩, hndW, hown0⟩, hlow⟩ := id hI
  obtain ⟨m, f₀, hm⟩ := F.m
  have hke : α.env.scope.kind = .function := by rw [α.hsc]; exact α.hke
  obtain ⟨binds, hbt, hbi⟩ := hb hv
  have N : News α.h₀ α.env.locals s.heap [] := fun q hq => nomatch hq
  obtain ⟨FG, BG, st, lv⟩ := groundX (R := fun r s' => match r with | .ok (.ret v) => Q v s' | _ => True) α.B f₀ N α.hA α.hf hke
  have hlim := α.T.nolimit.keeps f₀.keep
  refine wpAny_call (codeAny_call_cells (fd := fnX name qual params body scope [] dV kV doc pm an cdv ct) (body := body) (binds := binds) (by have := α.deep; omega) ((α.X.keeps f₀.keep) _ _ DA.ho) rfl hlim (codeRec_of (α.X.keeps f₀.keep) DA.hcd) rfl hbt rfl (fun x hx => ?_) (fun s₁ hIC => ?_) DA.hco DA.hgen DA.hk)
  · have : x.1 ∈ rs'.map (·.1) := by rw [← hbi.names]; exact List.mem_map_of_mem hx
    obtain ⟨y, hy, e⟩ := List.mem_map.mp this
    rcases (hloc y hy).1 with h | h
    · exact .inl (by rw [← e]; exact h)
    · refine .inr ⟨by rw [← e]; exact h, ?_⟩
      obtain ⟨c, hc⟩ := cellsFrom_has scope.names (s.heap.objs.size + 1) [] y.1 (.inl (lookup_mem h))
      obtain ⟨c', hc'⟩ := lookup_some_of_mem hc
      show ((cellsFrom (s.heap.objs.size + 1) scope.names []).lookup x.1).isSome = true
      rw [← e, hc']; rfl
  let env' : Env := callEnvC (fnX name qual params body scope [] dV kV doc pm an cdv ct) s.heap.objs.size f
  have hL' : ∀ b o, s.heap.get? b = some o → b ≠ s.heap.objs.size := fun b o e => Nat.ne_of_lt (Heap.lt_size e)
  have hge : ∀ p ∈ env'.cells, s.heap.objs.size < p.2 := fun p hp => hIC.above p.1 p.2 hp
  have fresh_gt : ∀ a, s.heap.objs.size < a → s.heap.get? a = none := fun a ha => by
    cases e : s.heap.get? a with
    | none => rfl
    | some o => exact absurd (Heap.lt_size e) (Nat.not_lt.mpr (Nat.le_of_lt ha))
  let g := hideAll s.heap (([] : List (Addr × Obj)).map (·.1))
  have hg : ∀ b o, s.heap.get? b = some o → g.get? b = some o := fun b o e => hideAll_get _ e (by simp)
  have hgs : ∀ b o, g.get? b = some o → s.heap.get? b = some o := fun b o e => of_hideAll _ e
  have hgn : ∀ b, s.heap.get? b = none → g.get? b = none := fun b e => by
    cases e' : g.get? b with
    | none => rfl
    | some o => rw [hgs _ _ e'] at e; cases e
  let β : Act M scope :=
    { A := α.A.deeper env', env := env', outer := α.env :: α.outer, A₀ := α.A, base := α.base, h₀ := g, W₀ := α.W own, lent := [], lv := n,
      B := BG, X := α.X.keeps st, T := α.T.keeps st,
      hA := by show (α.A.frames.map (env' :: ·)) = _; rw [α.hA]; rfl
      hf := rfl, hsc := rfl, hke := DA.hk, hg := rfl, hb := rfl, hh := α.hh
      room := by show α.A.units + 3 + 20 * n + 150 < cLine; have := α.room; omega
      deep := by show α.A.depth + 1 + n < recursionLimit; have := α.deep; omega
      cls := fun c hc => by
        obtain ⟨p, hp, rfl⟩ := List.mem_map.mp hc
        have := hge p hp
        exact ⟨hgn _ (fresh_gt _ this), Nat.ne_of_gt this⟩ }
  have hkind : ∀ x, env'.kindOf x = scope.names.lookup x := fun x => rfl
  have hk₁ : ∀ b o, s.heap.get? b = some o → s₁.heap.get? b = some o := hIC.toInCall.keep
  have caN : ∀ a ∈ β.ca, s.heap.get? a = none := fun a ha => by
    rcases List.mem_cons.mp ha with rfl | ha
    · exact size_none _
    · obtain ⟨p, hp, rfl⟩ := List.mem_map.mp ha
      exact fresh_gt _ (hge p hp)
  have inside : Ks (Fz (α.W own) s.heap) (Fz (β.W []) s₁.heap) := fz_new hk₁ fun a ha => by
    rcases List.mem_append.mp ha with ha | ha
    · exact nomatch ha
    · rcases List.mem_append.mp ha with ha | ha
      · exact .inr (caN a ha)
      · exact .inl ha
  let μ' : Str → Option Value := fun x => binds.reverse.lookup x
  have S₁ : St β (argsG rs') [] μ' [] s₁ := by
    refine ⟨rfl, ?_, ⟨⟨_, ⟨hIC.toInCall.ns, fun b o e => hk₁ b o (hgs b o e), Nat.le_of_eq (hideAll_size _ _)⟩, fun x hx => ?_⟩, fun x hx => ?_⟩, (fun p hp => nomatch hp), ⟨[], rfl⟩, fun a ha => ?_, fun x r e => ?_⟩
    · show (β.ca ++ α.W own).Nodup
      refine List.nodup_append.mpr ⟨?_, hndW, fun a ha b hb e => ?_⟩
      · refine List.nodup_cons.mpr ⟨fun hm => ?_, List.pairwise_map.mpr hIC.apart⟩
        obtain ⟨p, hp, e⟩ := List.mem_map.mp hm
        exact Nat.ne_of_gt (hge p hp) e
      · subst e
        obtain ⟨o, e⟩ := hlow a hb
        rw [caN a ha] at e; cases e
    · show bindL env'.kindOf binds (fun _ => none) x = _
      rw [bindL_eq (by rw [hkind]; exact hx)]; simp [μ']
    · obtain ⟨c, hc⟩ := cellsFrom_has scope.names (s.heap.objs.size + 1) [] x (.inl (lookup_mem hx))
      obtain ⟨c', hc'⟩ := lookup_some_of_mem hc
      refine ⟨c', hc', ?_⟩
      have := hIC.cell x c' hc'
      rw [show bindC env'.kindOf binds (fun _ => none) x = μ' x from by
        rw [bindC_eq (by rw [hkind, hx]; decide)]; simp [μ']] at this
      exact this
    · rcases List.mem_append.mp ha with ha | ha
      · exact nomatch ha
      · rcases List.mem_append.mp ha with ha | ha
        · rcases List.mem_cons.mp ha with rfl | ha
          · obtain ⟨o, _, _, ho, _⟩ := hIC.toInCall.ns
            exact ⟨o, ho⟩
          · obtain ⟨p, hp, rfl⟩ := List.mem_map.mp ha
            have hc' := lookup_of_nodup (cellsFrom_nodup scope.names (s.heap.objs.size + 1) [] (by simpa using hnd)) hp
            obtain ⟨o, ho, _⟩ := hIC.cell p.1 p.2 hc'
            exact ⟨o, ho⟩
        · exact (hlow a ha).imp fun o e => hk₁ _ _ e
    · obtain ⟨v, hv, hr⟩ := hbi.reverse.lookup e
      obtain ⟨hl1, hl2⟩ := hloc (x, r) (mem_rev_lookup e)
      refine ⟨⟨hl2, hl1⟩, v, hv, ?_⟩
      unfold VarOk
      split
      · rename_i q
        obtain ⟨b, d⟩ := r
        dsimp only at q
        subst q
        exact hr.infz.mono inside
      · rename_i q
        rw [if_neg (fun h => nomatch h)]
        obtain ⟨b, d⟩ := r
        exact hr.inr.mono hg inside
  refine wpAny_mono (hbody β rfl rfl μ' [] _ (fun fl s' => Q (match fl with | .ret v => v | _ => .none) s') S₁ fun f fl Γ' Ω' μ'' own' s' S' T' hf hP => ?_) (fun _ _ x => x) fun _ _ x => x.elim
  have kk : Keeps s s' := by
    obtain ⟨h, t, e⟩ := T'.rest
    obtain ⟨h1, t1, e1⟩ := hIC.toInCall.same
    subst e1
    refine ⟨h, t, e, fun b o eb => ?_⟩
    have := S'.fr.keep b o (hg b o eb)
    rwa [e] at this
  refine hQ _ _ kk ?_
  rcases hP with rfl | ⟨rfl, rfl⟩
  · cases f <;> first | exact hf.elim | exact hf
  · cases f <;> first | exact hf.elim | exact In.none_iff.mpr rfl
end
end Mine

namespace Mine
variable {M : Amb} {sc : Scope} {α : Act M sc} {Γ : Gam} {Ω : List Str} {μ : Str → Option Value} {own : List (Str × Addr)} {s s' : Shared} {mods : List Str} {P : Pst}

/-- the second of two arguments lent -/
noncomputable def Lend2C (M : Amb) (f : Addr) (n : Nat) (r₀ d₀ : D) (d' d : D) : Prop :=
  ∀ (sc : Scope) (α : Act M sc) Γ Ω μ own s mods x a v (Q : Value → Shared → Prop), n < α.lv → St α Γ Ω μ own s → Γ x = some (false, d₀) → x ∈ Ω → x ∈ mods → μ x = some (.ref a) → (x, a) ∈ own → In M.prog M.w (Fz (α.W own) s.heap) r₀ v →
    (∀ v s', St α (Γ.set x (false, d')) Ω μ own s' → Tn α mods own own s s' → In M.prog M.w (Fz (α.W own) s'.heap) d v → Q v s') → wpAny (model M.prog M.w) α.A (call (.ref f) [v, .ref a]) Q NoE s

section
variable {f : Addr} {name qual : Str} {params : Arguments} {body : List Stmt} {scope : Scope} {dV kV doc pm cdv ct oc : Value} {an od : Option Addr} {osl : Array (Option Value)}
theorem Lend2C.of {n : Nat} {r₀ d₀ d' d : D} {x₀ y : Str} {mods' : List Str} (DA : DefAt M f name qual params body scope dV kV doc pm cdv ct oc an od osl)
    (hcell : ∀ x ∈ scope.names, x.2 ≠ .cell) (hloc : ∀ z ∈ [(x₀, (true, r₀)), (y, (false, d₀))], scope.names.lookup z.1 = some .local ∧ (z.1 == ("__debug__" : Str)) = false)
    (hb : ∀ {s : Shared} {v v₀ : Value}, BindsTo s (fnOf name qual params body scope dV kV doc pm an cdv ct) ⟨[v, v₀], []⟩ [(x₀, v), (y, v₀)])
    (hbody : ∀ β : Act M scope, β.lv = n → β.lent.map (·.1) = [y] → Sp β mods' (argsG [(x₀, (true, r₀)), (y, (false, d₀))]) [y] body (RetL y d' d)) : Lend2C M f n r₀ d₀ d' d := by
  intro sc α Γ Ω μ own s mods x a v Q hlv S hx ho hm hμ ha hv hQ
  obtain ⟨a', e1, e2, e3⟩ := S.ownAt hx ho
  rw [hμ] at e1; cases e1
  refine wpAny_call (enterJ (HP := fun _ => True) DA S.cxI hlv [(y, a)] (fun p hp => by rw [List.mem_singleton.mp hp]; exact List.mem_map.mpr ⟨_, ha, rfl⟩) (by simp) hb hcell hloc (.cons ?_ (.cons ?_ .nil)) (P' := RetL y d' d) (mods' := mods') (fun β h1 _ h3 μ s₁ Q S _ hQ => (id (hbody β h1 (by rw [h3]; rfl))) μ _ s₁ Q S fun f fl Γ' Ω' μ' own' s' S' T' hf hP => hQ f fl Γ' Ω' μ' own' s' S' T' trivial hf hP) ?_)
  · rw [if_pos rfl]; exact hv
  · rw [if_neg (by simp), if_pos (by simp)]
    exact ⟨a, rfl, by simp, e3⟩
  · intro fl v Γ' Ω' s' hP _ hk' hr hal hv' hl
    obtain ⟨hP, hy, hnd⟩ := hP
    obtain ⟨h, t, rfl⟩ := hr
    have hR := hl hnd (y, a) (by simp) d' hy
    have hs : ∀ b o, b ≠ a → s.heap.get? b = some o → h.get? b = some o := fun b o hb e => hk' b o (by simpa using hb) e
    obtain ⟨oa, hoa⟩ := S.low a (List.mem_append_left _ (List.mem_map.mpr ⟨_, ha, rfl⟩))
    obtain ⟨S', T'⟩ := S.turnE (mods := mods) t hx ho hμ ha hs hR (hal a oa hoa) hm
    refine hQ v _ S' T' ?_
    rcases hP with rfl | ⟨rfl, rfl⟩
    · exact hv'
    · exact In.none_iff.mpr hv'
end

/-- z = f(e, x) -/
theorem S1.assignLend2 {x y z : Str} {py px pz pos spos : Pos} {f : Addr} {e : Expr} {r₀ d₀ d' d : D} {n : Nat} (g : ∀ own, Glob1 M (α.cx own) y (.ref f)) (hk : keepIn M.K (.ref f) = true) (he : EvA α Γ e (true, r₀))
    (hc : Lend2C M f n r₀ d₀ d' d) (hlv : n < α.lv) (hx : Γ x = some (false, d₀)) (ho : x ∈ Ω) (hm : x ∈ mods) (hkz : isVar sc z) (hz : z ∉ Ω) (h : P .next ((Γ.set x (false, d')).set z (true, d)) Ω)
    (hdb : (z == ("__debug__" : Str)) = false := by decide)
    (hsw : swapsWith (.Call (.Name y py) [e, .Name x px] [] pos) (some (.Name z pz)) spos.line α.env = pure false := by rfl)
    (hst : starEach [e, .Name x px] α.env = (false, eval e α.env) :: starEach [.Name x px] α.env := by rfl)
    (hp : ∀ pos, (backTo pos (starEach [.Name x px] α.env)).any (·.1) = false := by intro _; rfl) : S1 α mods Γ Ω (.Assign [.Name z pz] (.Call (.Name y py) [e, .Name x px] [] pos) spos) P := fun μ own s Q S hQ => by
  obtain ⟨a, hv, hao, hi⟩ := S.ownAt hx ho
  refine wpAny_Assign_Name (wpAny_Call_NameR (g own s py _ S.cxI ?_)) hsw
  refine callWith_K (h₀ := s.heap) S.kin hk (spliced_more (he own s _ S.cxI S.sees fun v s₁ k₁ i₁ => spliced_more ((S.keeps k₁).nameAt hx hv (spliced_none ⟨(S.keeps k₁).kin, ?_⟩)) rfl) hst) hst (hp pos)
  exact hc _ α Γ Ω μ own s₁ mods x a v _ hlv (S.keeps k₁) hx ho hm hv hao i₁.infz fun v s' S' T' i => S'.store i hz hdb hkz fun s₂ S₂ T₂ => hQ .next .next _ _ _ _ _ S₂ (Tn.trans S (Tn.of_keeps k₁) (Tn.trans (S.keeps k₁) T' T₂)) trivial h
end Mine
namespace Mine
variable {M : Amb} {sc : Scope} {α : Act M sc} {Γ : Gam}
theorem EvN.dict0 {pos : Pos} : EvN α Γ (.Dict [] [] pos) (.dct []) := fun own s Q hI hS hQ => by
  rw [arm_eval_Dict]
  refine wpAny_bind (wpAny_standAt ?_)
  show wpAny _ _ (dictDisplay []) _ _ s
  have e : dictDisplay [] = newDict := by unfold dictDisplay; rfl
  rw [e]
  refine wpAny_newObj_type (hQ _ _ (Kp.push s _) (size_none _) ⟨_, Heap.get?_push_size _ rfl⟩ ⟨_, _, [], rfl, Heap.get?_push_size _ rfl, ?_, new_not_sys (X := α.cx own) hI, InK.nil_iff.mpr rfl⟩)
  exact ⟨#[], 0, ⟨rfl, rfl, rfl⟩, rfl, fun _ he => by simp at he, Pairs.nil, List.nodup_nil⟩
end Mine

namespace Mine
section
variable {prog : Program} {w : World} {X : Cx} {Γ : Gam} {b₁ b₂ : Bool}
theorem Vi.obj {W : List Addr} {h : Heap} {b : Bool} {u v : Value} {os : List (Addr × Obj)} (x : Vi prog w W h (b, .obj u os) v) : v = u ∧ ∀ p ∈ os, (Fz W h).get? p.1 = some p.2 :=
  In.obj_iff.mp (show In prog w (Fz W h) (.obj u os) v from x.inr)
theorem Op2.isNoneObj {a : Addr} {os : List (Addr × Obj)} : Op2 prog w X (compareOp .Is) (b₁, .obj (.ref a) os) (b₂, .none) (true, .bool false) := fun s Q v₁ v₂ hI i₁ i₂ hQ => by
  have e := i₁.obj.1
  subst e
  exact Op2.isNotNone (b₁ := true) (b₂ := b₂) s Q _ v₂ hI (Vi.of_val _) i₂ hQ
end
end Mine

namespace Mine
/-- lambda work: work[0] -/
structure KeyAt (h : Heap) (f : Addr) where
  name : Str
  qual : Str
  params : Arguments
  p1 : Pos
  p2 : Pos
  p3 : Pos
  pm : Value
  c' : Addr
  ctv : Value
  ho : h.get? f = some (kla_obj name qual params (.Subscript (.Name (Str.ofString "work") p1) (.Constant (.int 0) 0 p2) p3) { kind := .function, names := [(Str.ofString "work", .local)], isGenerator := false, isCoroutine := false, more := [] } [] pm c' ctv)
  hc : h.CodeRec (.ref c') qual
  hb : ∀ v, bindArgs (kla_fn name qual params (.Subscript (.Name (Str.ofString "work") p1) (.Constant (.int 0) 0 p2) p3) { kind := .function, names := [(Str.ofString "work", .local)], isGenerator := false, isCoroutine := false, more := [] } [] pm (.ref c') ctv) ⟨[v], []⟩ = pure [(Str.ofString "work", v)]
variable {M : Amb} {sc : Scope} {α : Act M sc} {own : List (Str × Addr)} {s : Shared}
theorem key_call {f : Addr} {v : Value} {a : Int} {ds : List D} {Q : Value → Shared → Prop} (hI : (α.cx own).I s) (hlv : 0 < α.lv) (K : KeyAt s.heap f) (hv : In M.prog M.w (Fz (α.W own) s.heap) (.tup (.int a :: ds)) v)
    (hQ : ∀ v s', Keeps s s' → In M.prog M.w (Fz (α.W own) s'.heap) (.int a) v → Q v s') : wpAny (model M.prog M.w) α.A (call (.ref f) [v]) Q NoE s := by
  obtain ⟨⟨⟨μ, F⟩, hndW, hown0⟩, hlow⟩ := id hI
  obtain ⟨m, f₀, hm⟩ := F.m
  have hlim := α.T.nolimit.keeps f₀.keep
  refine wpAny_call (kla_callFunE (by have := α.deep; omega) K.ho rfl rfl rfl rfl K.hc ?_)
  rw [K.hb v]
  refine wpAny_pure (wpAny_newFunctionEnv (fun x hx => by rw [List.mem_singleton.mp hx]; decide) (by intro x hx; rw [List.mem_singleton.mp hx]; rfl) (fun h₁ hns hsb => ⟨hlim.fresh _ hsb, ?_⟩) rfl)
  have hk₁ : ∀ b o, s.heap.get? b = some o → h₁.get? b = some o := fun b o e => hsb.extBut b o (Nat.ne_of_lt (Heap.lt_size e)) (Heap.get?_push_of_some _ e)
  obtain ⟨x, vs, n, rfl, g, r⟩ := In.tup_iff.mp hv
  obtain ⟨u, r', rfl, iu, l⟩ := InL.cons_iff.mp r
  have g₁ := hk₁ _ _ (fz_le _ _ g)
  refine kla_codeExpr (wpAny_mono (E := NoE) ?_ (fun _ _ h => h) fun _ _ h => h.elim)
  refine Subscript_ (wpAny_Name (wpAny_loadName_local rfl rfl hns rfl ?_) (by decide))
  rw [arm_eval_Constant]
  refine wpAny_mkInt ?_
  have kk : Keeps s { s with heap := h₁, toks := s.toks + 1 + 1 } := ⟨h₁, _, rfl, hk₁⟩
  refine tail_any (isTup_of g₁).typeIs slot_tuple_getitem.lookup (getItem_tuple (isTup_of g₁) (by decide) (by decide) (j := 0) ?_ (by simp) (hQ _ _ kk (iu.mono (fz_ks hk₁)))) rfl
  unfold seqIndex?
  rw [List.size_toArray]
  simp
end Mine

namespace Mine
variable {M : Amb} {sc : Scope} {α : Act M sc} {own : List (Str × Addr)} {s : Shared} {Γ : Gam}
/-- the objects are those of the key function f -/
noncomputable def IsKey (f : Addr) (os : List (Addr × Obj)) : Prop := ∀ h : Heap, (∀ p ∈ os, h.get? p.1 = some p.2) → Nonempty (KeyAt h f)
/-- x(e), x the key function -/
theorem Ev.callKey {x : Str} {px pos : Pos} {e : Expr} {f : Addr} {os : List (Addr × Obj)} {a : Int} {ds : List D} (hx : Γ x = some (true, .obj (.ref f) os)) (hk : IsKey f os) (he : Ev M.prog M.w (α.cx own) Γ e (true, .tup (.int a :: ds))) (hlv : 0 < α.lv)
    (hst : starEach [e] α.env = (false, eval e α.env) :: starEach [] α.env := by rfl) : Ev M.prog M.w (α.cx own) Γ (.Call (.Name x px) [e] [] pos) (true, .int a) := fun s Q hI hS hQ => by
  obtain ⟨v, i, rd, _⟩ := hS x _ hx
  obtain ⟨rfl, hos⟩ := i.obj
  obtain ⟨K⟩ := hk s.heap fun p hp => fz_le _ _ (hos p hp)
  refine wpAny_Call_NameR (rd s px _ (Kp.refl s) hI ?_)
  refine callWith_def (o := _) (fd := _) rfl (spliced_more (he s _ hI hS fun v₁ s₁ k₁ i₁ => spliced_none ⟨Kp.ks k₁ _ _ K.ho, ?_⟩) hst) hst
  obtain ⟨K₁⟩ := hk s₁.heap fun p hp => Kp.ks k₁ _ _ (fz_le _ _ (hos p hp))
  exact key_call ((α.cx own).mono _ _ hI k₁) hlv K₁ i₁.infz fun v s' k i => hQ v s' (Kp.trans k₁ k) (Vi.fz i)
end Mine

namespace Mine
variable {M : Amb} {sc : Scope} {α : Act M sc} {own : List (Str × Addr)} {s : Shared} {Γ : Gam}
/-- C(v), its __init__ the one store self.a = v -/
theorem make_one {C fI : Addr} {v : Value} {Q : Value → Shared → Prop} {name qual at1 y1 y2 : Str} {params : Arguments} {scope : Scope} {dV kV doc pm cdv ct oc : Value} {an od : Option Addr} {osl : Array (Option Value)} {p1 p2 p3 p4 : Pos} (hI : (α.cx own).I s) (hlv : 0 < α.lv)
    (DA : DefAt M fI name qual params [.Assign [.Attribute (.Name y1 p1) at1 p2] (.Name y2 p3) p4] scope dV kV doc pm cdv ct oc an od osl)
    (hm : makesIn M.K C = true) (hi : findIn M.K (.ref C) "__init__" = some (some (.ref fI))) (hf : isFn M.K (.ref fI) = true)
    (hs : findIn M.K (.ref C) "__setattr__" = some (some (.builtin "object.__setattr__"))) (hp : plainOver M.K C = true) (ht : takerIn M.K C at1 = some none) (hh : hasDictIn M.K C = true)
    (hb : ∀ (s : Shared) (x : Value), BindsTo s (fnOf name qual params [.Assign [.Attribute (.Name y1 p1) at1 p2] (.Name y2 p3) p4] scope dV kV doc pm an cdv ct) ⟨[x, v], []⟩ [(y1, x), (y2, v)])
    (hcell : ∀ x ∈ scope.names, x.2 ≠ .cell) (h1 : scope.names.lookup y1 = some .local) (h2 : scope.names.lookup y2 = some .local) (hne : (y2 == y1) = false) (hd1 : (y1 == ("__debug__" : Str)) = false) (hd2 : (y2 == ("__debug__" : Str)) = false)
    (hsw : ∀ env : Env, env.scope = scope → swapsWith (.Name y2 p3) (some (.Attribute (.Name y1 p1) at1 p2)) p4.line env = pure false)
    (hQ : ∀ x dx e n s', Keeps s s' → s.heap.get? x = none → s.heap.get? dx = none → s'.heap.get? x = some (instObj C dx) → s'.heap.get? dx = some (dictOf [e] n) → (∃ tk, e.key = .str at1 tk) → e.val = v → Q (.ref x) s') :
    wpAny (model M.prog M.w) α.A (call (.ref C) [v] []) Q NoE s := by
  obtain ⟨⟨⟨μ, F⟩, hndW, hown0⟩, hlow⟩ := hI
  obtain ⟨m, f₀, hm₀⟩ := F.m
  have hlim := α.T.nolimit.keeps f₀.keep
  have X := α.X.keeps f₀.keep
  obtain ⟨h, g, d, t, os⟩ := s
  refine wpAny_call (make_core (makes_of X hm) (looks_findIn X hi) (fun self => bind_fn X self (beq_iff_eq.mp hf)) (.inl rfl) ?_)
  have k2 : Ks h ((h.push emptyDict).push (instObj C h.objs.size)) := fun b o e => Heap.get?_push_of_some _ (Heap.get?_push_of_some _ e)
  have hx : ((h.push emptyDict).push (instObj C h.objs.size)).get? (h.objs.size + 1) = some (instObj C h.objs.size) := by heap_get
  have hdx : ((h.push emptyDict).push (instObj C h.objs.size)).get? h.objs.size = some emptyDict := by heap_get
  have hsz : ((h.push emptyDict).push (instObj C h.objs.size)).objs.size = h.objs.size + 2 := by rw [Heap.size_push, Heap.size_push]
  generalize hh2 : (h.push emptyDict).push (instObj C h.objs.size) = h₂ at *
  refine codeAny_call_def (fd := fnX name qual params _ scope [] dV kV doc pm an cdv ct) ?room (k2 _ _ (X _ _ DA.ho)) rfl (hlim.keeps k2) (codeRec_of (X.keeps k2) DA.hcd) rfl (hb _ _) hcell ?_ (fun h₁ hns hk₁ => ?_) DA.hco DA.hgen DA.hk
  case room => 
    have := α.deep
    rw [depth_under_kw]; omega
  · intro x hx
    rcases List.mem_cons.mp hx with rfl | hx
    · exact h1
    · rw [List.mem_singleton.mp hx]; exact h2
  · have F₁ : Fr (hideAll h₂ [h.objs.size]) h₂.objs.size h₁ (fun x => [(y1, Value.ref (h.objs.size + 1)), (y2, v)].reverse.lookup x) := ⟨hns, fun b o e => hk₁ b o (of_hideAll _ e), Nat.le_of_eq (hideAll_size _ _)⟩
    have X₁ : M.K.In (hideAll h₂ [h.objs.size]) := X.keeps fun b o e => hideAll_get _ (k2 _ _ e) (by rw [List.mem_singleton]; exact Nat.ne_of_lt (Heap.lt_size e))
    have N₁ : News (hideAll h₂ [h.objs.size]) h₂.objs.size h₁ [(h.objs.size, dictOf [] 0)] := fun p hp => by
      rw [List.mem_singleton.mp hp]
      exact ⟨hk₁ _ _ hdx, Nat.ne_of_lt (Heap.lt_size hdx), hideAll_none _ (by simp)⟩
    refine wpAny_execs_cons (plainObj_wpAny_Assign_Attribute ?_ (hsw _ rfl))
    refine wpAny_Name (wpAny_loadName_local (v := v) DA.hk h2 hns ?_ ?_) hd2
    · show [(y2, v), (y1, Value.ref (h.objs.size + 1))].lookup y2 = _
      rw [List.lookup_cons_self]
    refine wpAny_Name (wpAny_loadName_local (v := .ref (h.objs.size + 1)) DA.hk h1 hns ?_ ?_) hd1
    · show [(y2, v), (y1, Value.ref (h.objs.size + 1))].lookup y1 = _
      rw [List.lookup_cons, show (y1 == y2) = false by rw [BEq.comm]; exact hne, List.lookup_cons_self]
    have I₁ : W.InstAt h₁ (h.objs.size + 1) (instObj C h.objs.size) C (some (dictOf [] 0)) := ⟨hk₁ _ _ hx, rfl, rfl, hk₁ _ _ hdx⟩
    refine set_dict (K := M.K) F₁ X₁ N₁ I₁ rfl hs hp ht hh rfl rfl (.head (fun p hp => nomatch hp)) (by simp [putL]) fun h' F' N' => ?_
    refine wpAny_pure ⟨rfl, ?_⟩
    refine hQ _ h.objs.size _ _ _ ⟨h', _, rfl, fun b o e => F'.keep b o (hideAll_get _ (k2 _ _ e) (by rw [List.mem_singleton]; exact Nat.ne_of_lt (Heap.lt_size e)))⟩ ?_ ?_ (F'.keep _ _ (hideAll_get _ hx (by rw [List.mem_singleton]; exact Nat.succ_ne_self _))) (N' _ (.head _)).1 ?_ rfl
    · cases e : h.get? (h.objs.size + 1) with
      | none => rfl
      | some o => exact absurd (Heap.lt_size e) (by show ¬ (h.objs.size + 1 < h.objs.size); omega)
    · exact size_none _
    · exact ⟨_, rfl⟩
end Mine

namespace Mine
section
variable {prog : Program} {w : World} {h : Heap}
mutual
theorem In.supp : ∀ {d : D} {v : Value}, In prog w h d v → ∃ os : List (Addr × Obj), (∀ p ∈ os, h.get? p.1 = some p.2) ∧ ∀ h' : Heap, (∀ p ∈ os, h'.get? p.1 = some p.2) → In prog w h' d v
  | .none, _, x => ⟨[], List.forall_mem_nil _, fun _ _ => x⟩
  | .bool _, _, x => ⟨[], List.forall_mem_nil _, fun _ _ => x⟩
  | .int _, _, x => ⟨[], List.forall_mem_nil _, fun _ _ => x⟩
  | .val _, _, x => ⟨[], List.forall_mem_nil _, fun _ _ => x⟩
  | .obj u os, v, x => by
    unfold In at x
    exact ⟨os, x.2, fun h' hp => by unfold In; exact ⟨x.1, hp⟩⟩
  | .tup ds, v, x => by
    unfold In at x
    obtain ⟨a, vs, n, e, g, r⟩ := x
    obtain ⟨os, h1, h2⟩ := InL.supp r
    exact ⟨(a, tupO vs n) :: os, List.forall_mem_cons.mpr ⟨g, h1⟩, fun h' hp => by unfold In; exact ⟨a, vs, n, e, hp _ (.head _), h2 h' fun p hp' => hp p (.tail _ hp')⟩⟩
  | .lst ds, v, x => by
    unfold In at x
    obtain ⟨a, vs, n, e, g, r⟩ := x
    obtain ⟨os, h1, h2⟩ := InL.supp r
    exact ⟨(a, lobj vs n) :: os, List.forall_mem_cons.mpr ⟨g, h1⟩, fun h' hp => by unfold In; exact ⟨a, vs, n, e, hp _ (.head _), h2 h' fun p hp' => hp p (.tail _ hp')⟩⟩
  | .dct kvs, v, x => by
    unfold In at x
    obtain ⟨a, o, kv, e, g, di, hs, r⟩ := x
    obtain ⟨os, h1, h2⟩ := InK.supp r
    exact ⟨(a, o) :: os, List.forall_mem_cons.mpr ⟨g, h1⟩, fun h' hp => by unfold In; exact ⟨a, o, kv, e, hp _ (.head _), di, hs, h2 h' fun p hp' => hp p (.tail _ hp')⟩⟩
theorem InL.supp : ∀ {ds : List D} {vs : List Value}, InL prog w h ds vs → ∃ os : List (Addr × Obj), (∀ p ∈ os, h.get? p.1 = some p.2) ∧ ∀ h' : Heap, (∀ p ∈ os, h'.get? p.1 = some p.2) → InL prog w h' ds vs
  | [], _, x => ⟨[], List.forall_mem_nil _, fun _ _ => x⟩
  | d :: ds, vs, x => by
    unfold InL at x
    obtain ⟨v, r, e, i, l⟩ := x
    obtain ⟨os, h1, h2⟩ := In.supp i
    obtain ⟨os', h1', h2'⟩ := InL.supp l
    refine ⟨os ++ os', fun p hp => (List.mem_append.mp hp).elim (h1 p) (h1' p), fun h' hp => ?_⟩
    unfold InL
    exact ⟨v, r, e, h2 h' fun p q => hp p (List.mem_append_left _ q), h2' h' fun p q => hp p (List.mem_append_right _ q)⟩
theorem InK.supp : ∀ {ds : List (Int × D)} {vs : List (Int × Value)}, InK prog w h ds vs → ∃ os : List (Addr × Obj), (∀ p ∈ os, h.get? p.1 = some p.2) ∧ ∀ h' : Heap, (∀ p ∈ os, h'.get? p.1 = some p.2) → InK prog w h' ds vs
  | [], _, x => ⟨[], List.forall_mem_nil _, fun _ _ => x⟩
  | (k, d) :: ds, vs, x => by
    unfold InK at x
    obtain ⟨v, r, e, i, l⟩ := x
    obtain ⟨os, h1, h2⟩ := In.supp i
    obtain ⟨os', h1', h2'⟩ := InK.supp l
    refine ⟨os ++ os', fun p hp => (List.mem_append.mp hp).elim (h1 p) (h1' p), fun h' hp => ?_⟩
    unfold InK
    exact ⟨v, r, e, h2 h' fun p q => hp p (List.mem_append_left _ q), h2' h' fun p q => hp p (List.mem_append_right _ q)⟩
end
end
/-- the objects of a class with one attribute, a list -/
noncomputable def IsOne (prog : Program) (w : World) (C : Addr) (at1 : Str) (x : Addr) (ds : List D) (os : List (Addr × Obj)) : Prop :=
  ∀ h : Heap, (∀ p ∈ os, h.get? p.1 = some p.2) → ∃ dx e n, h.get? x = some (instObj C dx) ∧ h.get? dx = some (dictOf [e] n) ∧ (∃ tk, e.key = .str at1 tk) ∧ In prog w h (.lst ds) e.val
variable {M : Amb} {sc : Scope} {α : Act M sc} {Γ : Gam} {Ω : List Str} {μ : Str → Option Value} {own : List (Str × Addr)} {s s' : Shared} {mods : List Str} {P : Pst}
theorem fz_of_fresh {W : List Addr} {s s' : Shared} (hW : ∀ a ∈ W, ∃ o, s.heap.get? a = some o) {a : Addr} {o : Obj} (hn : s.heap.get? a = none) (g : s'.heap.get? a = some o) : (Fz W s'.heap).get? a = some o :=
  hideAll_get _ g fun hm => by obtain ⟨o', e⟩ := hW a hm; rw [hn] at e; cases e
/-- x = C(e), C a class whose __init__ is the one store self.a = v -/
theorem S1.assignOne {x y at1 y1 y2 name qual : Str} {px py pos spos p1 p2 p3 p4 : Pos} {C fI : Addr} {e : Expr} {ds : List D} {params : Arguments} {scope : Scope} {dV kV doc pm cdv ct oc : Value} {an od : Option Addr} {osl : Array (Option Value)}
    (g : ∀ own, Glob1 M (α.cx own) y (.ref C)) (hkp : keepIn M.K (.ref C) = true) (he : EvA α Γ e (true, .lst ds)) (hlv : 0 < α.lv)
    (DA : DefAt M fI name qual params [.Assign [.Attribute (.Name y1 p1) at1 p2] (.Name y2 p3) p4] scope dV kV doc pm cdv ct oc an od osl)
    (hm : makesIn M.K C = true) (hi : findIn M.K (.ref C) "__init__" = some (some (.ref fI))) (hf : isFn M.K (.ref fI) = true)
    (hsa : findIn M.K (.ref C) "__setattr__" = some (some (.builtin "object.__setattr__"))) (hp : plainOver M.K C = true) (ht : takerIn M.K C at1 = some none) (hh : hasDictIn M.K C = true)
    (hb : ∀ (s : Shared) (x v : Value), BindsTo s (fnOf name qual params [.Assign [.Attribute (.Name y1 p1) at1 p2] (.Name y2 p3) p4] scope dV kV doc pm an cdv ct) ⟨[x, v], []⟩ [(y1, x), (y2, v)])
    (hcell : ∀ x ∈ scope.names, x.2 ≠ .cell) (h1 : scope.names.lookup y1 = some .local) (h2 : scope.names.lookup y2 = some .local) (hne : (y2 == y1) = false) (hd1 : (y1 == ("__debug__" : Str)) = false) (hd2 : (y2 == ("__debug__" : Str)) = false)
    (hsw : ∀ env : Env, env.scope = scope → swapsWith (.Name y2 p3) (some (.Attribute (.Name y1 p1) at1 p2)) p4.line env = pure false)
    (hk : isVar sc x) (hx : x ∉ Ω) (h : ∀ a os, IsOne M.prog M.w C at1 a ds os → P .next (Γ.set x (true, .obj (.ref a) os)) Ω) (hdb : (x == ("__debug__" : Str)) = false := by decide)
    (hst : starEach [e] α.env = (false, eval e α.env) :: starEach [] α.env := by rfl)
    (hs : swapsWith (.Call (.Name y py) [e] [] pos) (some (.Name x px)) spos.line α.env = pure false := by rfl) : S1 α mods Γ Ω (.Assign [.Name x px] (.Call (.Name y py) [e] [] pos) spos) P := fun μ own s Q S hQ => by
  refine wpAny_Assign_Name ?_ hs
  refine wpAny_Call_NameR (g own s py _ S.cxI ?_)
  refine callWith_K (h₀ := s.heap) S.kin hkp ?_ hst (by rfl)
  refine spliced_more (he own s _ S.cxI S.sees fun v s₁ k₁ i₁ => spliced_none ⟨(S.keeps k₁).kin, ?_⟩) hst
  refine make_one (S.keeps k₁).cxI hlv DA hm hi hf hsa hp ht hh (fun s x => hb s x v) hcell h1 h2 hne hd1 hd2 hsw fun a dx en n s₂ k₂ ha hdx ga gdx ke ve => ?_
  obtain ⟨os, o1, o2⟩ := i₁.infz.supp
  have low := (S.keeps k₁).cxI.2
  have hos : ∀ p ∈ (a, instObj C dx) :: (dx, dictOf [en] n) :: os, (Fz (α.W own) s₂.heap).get? p.1 = some p.2 := List.forall_mem_cons.mpr ⟨fz_of_fresh low ha ga, List.forall_mem_cons.mpr ⟨fz_of_fresh low hdx gdx, fun p hp => fz_ks (Kp.ks k₂) _ _ (o1 p hp)⟩⟩
  refine ((S.keeps k₁).keeps k₂).store (d := .obj (.ref a) ((a, instObj C dx) :: (dx, dictOf [en] n) :: os)) (In.obj_iff.mpr ⟨rfl, hos⟩) hx hdb hk fun s₃ S₃ T₃ =>
    hQ .next .next _ _ _ _ s₃ S₃ (Tn.trans S (Tn.of_keeps (Kp.trans k₁ k₂)) T₃) trivial (h a _ fun h' hp' => ?_)
  exact ⟨dx, en, n, hp' _ (.head _), hp' _ (.tail _ (.head _)), ke, by rw [ve]; exact o2 h' fun p q => hp' p (.tail _ (.tail _ q))⟩
/-- x.a, x such an object -/
theorem Ev.attrOne {x at1 : Str} {px pos : Pos} {C a : Addr} {b : Bool} {ds : List D} {os : List (Addr × Obj)} {attr : Option Value} (hx : Γ x = some (b, .obj (.ref a) os)) (ho : IsOne M.prog M.w C at1 a ds os)
    (hg : plainGet M.K C at1 = true) (hh : hasDictIn M.K C = true) (ha : findIn M.K (.ref C) at1 = some attr) (hn : noGet M.K attr = true) :
    Ev M.prog M.w (α.cx own) Γ (.Attribute (.Name x px) at1 pos) (true, .lst ds) := fun s Q hI hS hQ => by
  obtain ⟨v, i, rd, _⟩ := hS x _ hx
  obtain ⟨rfl, hos⟩ := i.obj
  obtain ⟨dx, ⟨hsh, key, val⟩, n, h1, h2, ⟨tk, h3⟩, h4⟩ := ho _ hos
  cases h3
  obtain ⟨⟨⟨μ, F⟩, hndW, hown0⟩, hlow⟩ := id hI
  obtain ⟨m, f₀, hm⟩ := F.m
  refine Attribute_name (rd s px _ (Kp.refl s) hI ?_)
  obtain ⟨la, vs, k, e, g, r⟩ := In.lst_iff.mp h4
  refine get_own (K := M.K) (es := [⟨hsh, .str at1 tk, val⟩]) (n := n) (v := val) f₀ α.X ⟨fz_le _ _ h1, rfl, rfl, fz_le _ _ h2⟩ hg hh ha hn ?_ (by dsimp only at e; rw [e]; rfl) (hQ _ _ (Kp.tok s _) (Vi.fz (h4.mono (fz_ks (Kp.ks (Kp.tok s _))))))
  unfold getL
  rw [List.find?_cons_of_pos (by show (at1 == at1) = true; simp)]
/-- x.f(e, ..), x such an object, f a def of its class that turns nothing -/
theorem Ev.methOne {x at1 nm : Str} {px apos pos : Pos} {C a f : Addr} {b : Bool} {ds : List D} {os : List (Addr × Obj)} {e : Expr} {es : List Expr} {rs : List (Bool × D)} {d : D} {n : Nat} (hx : Γ x = some (b, .obj (.ref a) os)) (ho : IsOne M.prog M.w C at1 a ds os)
    (hg : plainGet M.K C nm = true) (hf : findIn M.K (.ref C) nm = some (some (.ref f))) (ht : isFn M.K (.ref f) = true) (hkp : keepIn M.K (.ref f) = true) (hne : (at1 == nm) = false)
    (ha : EvM M.prog M.w (α.cx own) Γ (e :: es) rs) (hc : PureC M f n ((true, .obj (.ref a) os) :: rs) [] [] d) (hlv : n < α.lv)
    (hst : starEach (e :: es) α.env = (false, eval e α.env) :: starEach es α.env := by rfl) (hp : ∀ pos, ((backTo pos (starEach (e :: es) α.env)).any (·.1) || (backToKw pos (keywordEach [] α.env)).any (·.1.isNone)) = false := by intro _; rfl)
    (hev : ∃ pl, eval (.Call (.Attribute (.Name x px) nm apos) (e :: es) [] pos) α.env = (do
      let ov ← eval (.Name x px) α.env
      standAt apos.atName
      let (f, first) ← holding [ov] (getMethod ov nm pl)
      callWith pos f first (backTo pos (starEach (e :: es) α.env)) (backToKw pos (keywordEach [] α.env))) := by exact ⟨_, rfl⟩) :
    Ev M.prog M.w (α.cx own) Γ (.Call (.Attribute (.Name x px) nm apos) (e :: es) [] pos) (true, d) := fun s Q hI hS hQ => by
  obtain ⟨v, i, rd, _⟩ := hS x _ hx
  obtain ⟨rfl, hos⟩ := i.obj
  obtain ⟨dx, ⟨hsh, key, val⟩, k, h1, h2, ⟨tk, h3⟩, h4⟩ := ho _ hos
  cases h3
  obtain ⟨⟨⟨μ, F⟩, hndW, hown0⟩, hlow⟩ := id hI
  obtain ⟨m, f₀, hm⟩ := F.m
  obtain ⟨pl, hev⟩ := hev
  refine methodCall_KW (pl := pl) (rd s px _ (Kp.refl s) hI ?_) hev
  refine method_inst (K := M.K) (es := [⟨hsh, .str at1 tk, val⟩]) (n := k) (f := f) f₀ α.X ⟨fz_le _ _ h1, rfl, rfl, fz_le _ _ h2⟩ hg hf ht ?_ ?_
  · unfold getL
    rw [List.find?_cons_of_neg (by show ¬ ((at1 == nm) = true); rw [hne]; decide), List.find?_nil]
    rfl
  refine callWith_KW (h₀ := s.heap) (cx_kin hI) hkp (by rfl) (ha s pos _ hI hS fun vs s₁ k₁ i₁ => EvK.nil (Γ := Γ) s₁ pos _ ((α.cx own).mono _ _ hI k₁) (hS.keeps k₁) fun ks s₂ k₂ i₂ => ⟨cx_kin ((α.cx own).mono _ _ hI (Kp.trans k₁ k₂)), ?_⟩) (hp pos) hst
  have i₀ : Vi M.prog M.w (α.W own) s₂.heap (true, .obj (.ref a) os) (.ref a) := Vi.fz (In.obj_iff.mpr ⟨rfl, fun p hp => fz_ks (Kp.ks (Kp.trans k₁ k₂)) _ _ (hos p hp)⟩)
  cases i₂
  exact hc _ α own s₂ (.ref a :: vs) [] _ hlv ((α.cx own).mono _ _ hI (Kp.trans k₁ k₂)) (.cons i₀ (i₁.mono (Kp.ks k₂))) .nil fun v s' k i => hQ v s' (Kp.trans (Kp.trans k₁ k₂) k) (Vi.fz i)
end Mine



namespace Mine
variable {M : Amb} {sc : Scope} {α : Act M sc} {Γ : Gam} {Ω : List Str} {μ : Str → Option Value} {own : List (Str × Addr)} {s s' : Shared} {mods mods' : List Str} {P : Pst} {tn : List (Str × Addr)} {J : List Addr → Heap → Prop}
theorem fz_keep {W W' : List Addr} {h h' : Heap} (k : ∀ b o, b ∉ W → h.get? b = some o → h'.get? b = some o) (hW : ∀ b ∈ W', b ∈ W ∨ h.get? b = none) : Ks (Fz W h) (Fz W' h') := fun b o e => by
  obtain ⟨hb, e'⟩ := fz_in e
  refine hideAll_get _ (k b o hb e') fun hm => ?_
  rcases hW b hm with h | h
  · exact hb h
  · rw [e'] at h; cases h
structure Tab where
  name : Str
  T : Addr
  pos : Pos
  q : Str
noncomputable def TabAt (t : Tab) (W : List Addr) (h : Heap) : Prop :=
  ∃ ps, h.get? t.T = some (tabObj ps) ∧ TriplesOk ps.toList ∧ (codeAmong t.pos ps.toList = none ∨ ∃ c', codeAmong t.pos ps.toList = some (.ref c') ∧ (Fz W h).CodeRec (.ref c') t.q)
theorem TabAt.move {t : Tab} {W W' : List Addr} {h h' : Heap} (x : TabAt t W h) (k : ∀ b o, (b ∉ W ∨ b = t.T) → h.get? b = some o → h'.get? b = some o) (hW : ∀ b ∈ W', b ∈ W ∨ h.get? b = none) : TabAt t W' h' := by
  obtain ⟨ps, h1, h2, h3⟩ := x
  refine ⟨ps, k _ _ (.inr rfl) h1, h2, h3.imp id ?_⟩
  rintro ⟨c', e, c, o, vs, tt, e1, e2, e3, e4⟩
  exact ⟨c', e, c, o, vs, tt, e1, fz_keep (fun b o hb e => k b o (.inl hb) e) hW _ _ e2, e3, e4⟩
theorem TabAt.empty {t : Tab} {W : List Addr} {h : Heap} (x : h.get? t.T = some (tabObj #[])) : TabAt t W h := ⟨_, x, trivial, .inl rfl⟩
theorem TabAt.ok1 {t : Tab} : JOk [(t.name, t.T)] (TabAt t) := fun W W' h h' x k hW => x.move (fun b o hb e => k b o (hb.imp id fun q => by rw [q]; exact .head _) e) hW
theorem TabAt.ok2 {t : Tab} {n : Str} {T : Addr} : JOk [(t.name, t.T), (n, T)] (fun W h => TabAt t W h ∧ h.get? T = some (tabObj #[])) := fun W W' h h' x k hW =>
  ⟨x.1.move (fun b o hb e => k b o (hb.imp id fun q => by rw [q]; exact .head _) e) hW, k _ _ (.inr (.tail _ (.head _))) x.2⟩
/-- a table is turned -/
theorem St.turnTab (S : St α Γ Ω μ own s) {x : Str} {a : Addr} {h' : Heap} (t : Nat) (hsc : sc.names.lookup x = none) (ha : (x, a) ∈ own) (hs : ∀ b o, b ≠ a → s.heap.get? b = some o → h'.get? b = some o) (hal : ∃ o, h'.get? a = some o) :
    St α Γ Ω μ own { s with heap := h', toks := t } ∧ Tn α [x] own own s { s with heap := h', toks := t } := by
  have haO : a ∈ own.map (·.2) := List.mem_map_of_mem ha
  have haW : a ∈ α.W own := List.mem_append_left _ haO
  have kF := fz_ext haW hs
  have nd1 : (own.map (·.2)).Nodup := (List.nodup_append.mp S.nd).1
  have ha0 := S.ownN _ ha
  have haL : a ≠ α.env.locals := S.disj haO (List.mem_append_left _ α.L_mem)
  refine ⟨⟨S.names, S.nd, ⟨?_, fun y hy => ?_⟩, S.ownN, S.lent, fun b hb => ?_, fun y r e => ?_⟩, Tn.of_but (List.mem_append_left _ haO) hal hs fun p hp hn q => ?_⟩
  · obtain ⟨m, f, e⟩ := S.fr.m
    exact ⟨m, ⟨f.ns.extBut hs haL.symm, fun b o eb => hs b o (fun q => by rw [q, ha0] at eb; cases eb) (f.keep b o eb), f.above⟩, e⟩
  · obtain ⟨c, h1, o, h2, h3⟩ := S.fr.c y hy
    have hne : c ≠ a := fun q => S.disj haO (List.mem_append_left _ (Act.c_mem h1)) q.symm
    exact ⟨c, h1, o, hs _ _ hne h2, h3⟩
  · by_cases hba : b = a
    · rw [hba]; exact hal
    · exact (S.low b hb).imp fun o e => hs b o hba e
  · obtain ⟨h1, u, h2, h3⟩ := S.vars y r e
    have hy : y ≠ x := fun q => by
      subst q
      rcases h1.2 with h | h <;> (rw [hsc] at h; cases h)
    refine ⟨h1, u, h2, ?_⟩
    unfold VarOk at h3 ⊢
    split at h3
    · rename_i q; rw [if_pos q]; exact h3.mono kF
    · rename_i q
      rw [if_neg q]
      split at h3
      · rename_i q2
        rw [if_pos q2]
        obtain ⟨b, rfl, h5, h6⟩ := h3
        refine ⟨b, rfl, h5, ?_⟩
        have hne : b ≠ a := fun q => hy (congrArg Prod.fst (inj_of_nodup (·.2) nd1 h5 ha q))
        obtain ⟨rb, d⟩ := r
        dsimp only at h6 ⊢
        cases d with
        | lst ds => obtain ⟨a', vs, n, e, g, rr⟩ := h6; cases e; exact ⟨_, vs, n, rfl, hs _ _ hne g, rr.mono kF⟩
        | dct kvs => obtain ⟨a', o, kv, e, g, q1, q2, rr⟩ := h6; cases e; exact ⟨_, o, kv, rfl, hs _ _ hne g, q1, q2, rr.mono kF⟩
        | none => exact In.mono kF h6
        | bool b => exact In.mono kF h6
        | int i => exact In.mono kF h6
        | tup ds => exact In.mono kF h6
        | val u => exact In.mono kF h6
        | obj u os => exact In.mono kF h6
      · rename_i q2
        rw [if_neg q2]
        exact h3.mono (fun _ _ e => e) kF
  · exact hn (List.mem_singleton.mpr (congrArg Prod.fst (inj_of_nodup (·.2) nd1 hp ha q)))
noncomputable abbrev keyBody (p1 p2 p3 : Pos) : Expr := .Subscript (.Name (Str.ofString "work") p1) (.Constant (.int 0) 0 p2) p3
noncomputable abbrev keyScope : Scope := { kind := .function, names := [(Str.ofString "work", .local)], isGenerator := false, isCoroutine := false, more := [] }
/-- a key function is made -/
theorem lam_eval {t : Tab} {c : Addr} {p1 p2 p3 pos : Pos} {params : Arguments} {Q : Value → Shared → Prop} (S : St α Γ Ω μ own s) (hT : (t.name, t.T) ∈ own) (hsc : sc.names.lookup t.name = none) (hcode : α.env.code = .ref c) (hC : ∀ h, M.K.In h → CodeHd h c t.T)
    (hq : t.q = α.env.qual ++ "<lambda>") (hpos : t.pos = pos) (TA : TabAt t (α.W own) s.heap) (hdef : defaultsOf params α.env = ([], []))
    (hb : ∀ (name qual : Str) (pm cdv ctv v : Value), bindArgs (kla_fn name qual params (keyBody p1 p2 p3) keyScope [] pm cdv ctv) ⟨[v], []⟩ = pure [(Str.ofString "work", v)])
    (hQ : ∀ f os s', St α Γ Ω μ own s' → Tn α [t.name] own own s s' → TabAt t (α.W own) s'.heap → (∀ b o, b ≠ t.T → s.heap.get? b = some o → s'.heap.get? b = some o) → IsKey f os → In M.prog M.w (Fz (α.W own) s'.heap) (.obj (.ref f) os) (.ref f) → Q (.ref f) s') :
    wpAny (model M.prog M.w) α.A (eval (.Lambda params (keyBody p1 p2 p3) keyScope pos) α.env) Q NoE s := by
  subst hpos
  refine kla_eval hdef ?_
  rw [← hq]
  obtain ⟨m, f₀, hm⟩ := S.fr.m
  have X := α.X.keeps f₀.keep
  have hgs := α.T.g.keeps f₀.keep
  have hcl : closureFor keyScope α.env = pure [] := closureFor_eq fun x hx h => by rw [List.mem_singleton.mp hx] at h; cases h
  obtain ⟨ps, hP, ht, hor⟩ := TA
  obtain ⟨bm, ob, b1, b2, b3, b4, b5, b6⟩ := α.T.bmain
  have hTn := S.ownN _ hT
  have hgP : mainGlobals ≠ t.T := fun q => by
    obtain ⟨o, es, ep, e, hd, _⟩ := hgs
    rw [q, hP] at e; cases e; cases hd
  have hbP : bm ≠ t.T := fun q => by
    have e := f₀.keep _ _ b3
    rw [q, hP] at e; cases e; cases b4
  have hbG : bm ≠ mainGlobals := fun q => by
    obtain ⟨o, es, ep, e, hd, _⟩ := α.T.g
    rw [q, e] at b3; cases b3; rw [hd] at b6; cases b6
  have BA : s.heap.BuiltinsAt M.mg t.T := ⟨bm, ob, b1, b2, hbG, hbP, f₀.keep _ _ b3, b4, b5, b6⟩
  have isKey : ∀ (f c' : Addr) (oc : Obj) (name : Str) (pm ctv : Value) (vs : Array Value) (tt : Tok), oc.data = .fields vs → vs[1]? = some (.str t.q tt) → IsKey f [(f, kla_obj name t.q params (keyBody p1 p2 p3) keyScope [] pm c' ctv), (c', oc)] := fun f c' oc name pm ctv vs tt h1 h2 h hp =>
    ⟨⟨name, t.q, params, p1, p2, p3, pm, c', ctv, hp _ (.head _), ⟨c', oc, vs, tt, rfl, hp _ (.tail _ (.head _)), h1, h2⟩, fun v => hb _ _ _ _ _ v⟩⟩
  have low := S.low
  have freshW : ∀ b, s.heap.get? b = none → b ∉ α.W own := fun b hb hm => by obtain ⟨o, e⟩ := low b hm; rw [hb] at e; cases e
  rcases hor with hnf | ⟨c', hf, hrec⟩
  · refine kla_makeFunction (mg := M.mg) hcl α.hg hgs hcode (hC _ X) hP ht hnf hgP BA fun c' ctv h' tk hx hge hlt hrec htb => ?_
    obtain ⟨S₁, T₁⟩ := S.turnTab tk hsc hT hx ⟨_, htb⟩
    obtain ⟨c₂, oc, vs, tt, e2, hoc, hd, hv⟩ := hrec
    cases e2
    have kp : Keeps { s with heap := h', toks := tk } { s with heap := h'.push (kla_obj "<lambda>" t.q params (keyBody p1 p2 p3) keyScope [] ((M.mg "__name__").getD .none) c' ctv), toks := tk } := ⟨_, _, rfl, fun b o e => Heap.get?_push_of_some _ e⟩
    have hc0 : s.heap.get? c' = none := Heap.get?_none_of_le hge
    have hf0 : s.heap.get? h'.objs.size = none := by
      cases e : s.heap.get? h'.objs.size with
      | none => rfl
      | some o =>
        by_cases hh : h'.objs.size = t.T
        · rw [← hh, size_none] at htb; cases htb
        · have := hx _ _ hh e; rw [size_none] at this; cases this
    refine hQ _ [(h'.objs.size, kla_obj "<lambda>" t.q params (keyBody p1 p2 p3) keyScope [] ((M.mg "__name__").getD .none) c' ctv), (c', oc)] _ (S₁.keeps kp) (Tn.trans S T₁ (Tn.of_keeps kp)) ?_ (fun b o hb e => Heap.get?_push_of_some _ (hx b o hb e)) (isKey _ _ _ _ _ _ vs tt hd hv) (In.obj_iff.mpr ⟨rfl, List.forall_mem_cons.mpr ⟨hideAll_get _ (Heap.get?_push_size _ rfl) (freshW _ hf0), List.forall_mem_cons.mpr ⟨hideAll_get _ (Heap.get?_push_of_some _ hoc) (freshW _ hc0), List.forall_mem_nil _⟩⟩⟩)
    refine ⟨_, Heap.get?_push_of_some _ htb, ?_, .inr ⟨c', ?_, c', oc, vs, tt, rfl, hideAll_get _ (Heap.get?_push_of_some _ hoc) (freshW _ hc0), hd, hv⟩⟩
    · rw [Array.toList_append]; exact TriplesOk_snoc _ _ _ _ ht
    · rw [Array.toList_append]; exact codeAmong_snoc _ ht hnf
  · refine kla_makeFunctionHit (mg := M.mg) hcl α.hg hgs hcode (hC _ X) hP ht hf BA fun ctv h' tk hk hsz => ?_
    obtain ⟨c₂, oc, vs, tt, e2, hoc, hd, hv⟩ := hrec
    cases e2
    have kp : Keeps s { s with heap := h'.push (kla_obj "<lambda>" t.q params (keyBody p1 p2 p3) keyScope [] ((M.mg "__name__").getD .none) c' ctv), toks := tk } := ⟨_, _, rfl, fun b o e => Heap.get?_push_of_some _ (hk b o e)⟩
    obtain ⟨hcW, hoc'⟩ := fz_in hoc
    have hf0 : s.heap.get? h'.objs.size = none := by
      cases e : s.heap.get? h'.objs.size with
      | none => rfl
      | some o => have := hk _ _ e; rw [size_none] at this; cases this
    refine hQ _ [(h'.objs.size, kla_obj "<lambda>" t.q params (keyBody p1 p2 p3) keyScope [] ((M.mg "__name__").getD .none) c' ctv), (c', oc)] _ (S.keeps kp) (Tn.of_keeps kp) ?_ (fun b o _ e => Kp.ks kp _ _ e) (isKey _ _ _ _ _ _ vs tt hd hv) (In.obj_iff.mpr ⟨rfl, List.forall_mem_cons.mpr ⟨hideAll_get _ (Heap.get?_push_size _ rfl) (freshW _ hf0), List.forall_mem_cons.mpr ⟨hideAll_get _ (Kp.ks kp _ _ hoc') hcW, List.forall_mem_nil _⟩⟩⟩)
    exact ⟨ps, Kp.ks kp _ _ hP, ht, .inr ⟨c', hf, c', oc, vs, tt, rfl, hideAll_get _ (Kp.ks kp _ _ hoc') hcW, hd, hv⟩⟩
theorem ViL.frz {prog : Program} {w : World} {W : List Addr} {h h' : Heap} (k : Ks (Fz W h) (Fz W h')) : ∀ {rs : List (Bool × D)} {vs : List Value}, ViL prog w W h rs vs → (∀ r ∈ rs, r.1 = true) → ViL prog w W h' rs vs
  | _, _, .nil, _ => .nil
  | _, _, .cons (r := (b, d)) x xs, hr => by
    have hb : b = true := hr _ (.head _)
    subst hb
    exact .cons (Vi.fz (x.infz.mono k)) (ViL.frz k xs fun r h => hr r (.tail _ h))
theorem St.fzTab (S : St α Γ Ω μ own s) {x : Str} (T : Tn α [x] own own s s') : Ks (Fz (α.W own) s.heap) (Fz (α.W own) s'.heap) :=
  fz_keep (fun b o hb e => T.kf b o (fun hm => hb (by
    rcases List.mem_append.mp hm with hm | hm
    · exact List.mem_append_left _ hm
    · exact List.mem_append_right _ (List.mem_append_left _ hm))) e) fun b hb => .inl hb
/-- what is asked of the lambda at a place -/
structure LamOk (t : Tab) (params : Arguments) (p1 p2 p3 pos : Pos) (α : Act M sc) : Prop where
  hT : (t.name, t.T) ∈ α.lent
  hsc : sc.names.lookup t.name = none
  hcode : ∃ c, α.env.code = .ref c ∧ ∀ h, M.K.In h → CodeHd h c t.T
  hq : t.q = α.env.qual ++ "<lambda>"
  hpos : t.pos = pos
  hdef : ∀ env, defaultsOf params env = ([], [])
  hb : ∀ (name qual : Str) (pm cdv ctv v : Value), bindArgs (kla_fn name qual params (keyBody p1 p2 p3) keyScope [] pm cdv ctv) ⟨[v], []⟩ = pure [(Str.ofString "work", v)]
/-- what J says of t's table, and may be told anew -/
structure JTab (t : Tab) (J : List Addr → Heap → Prop) : Prop where
  get : ∀ W h, J W h → TabAt t W h
  put : ∀ W h h', J W h → TabAt t W h' → (∀ b o, b ≠ t.T → h.get? b = some o → h'.get? b = some o) → J W h'
theorem lam_J {t : Tab} {p1 p2 p3 pos : Pos} {params : Arguments} {Q : Value → Shared → Prop} (L : LamOk t params p1 p2 p3 pos α) (jt : JTab t J) (S : St α Γ Ω μ own s) (hJ : J (α.W own) s.heap)
    (hQ : ∀ f os s', St α Γ Ω μ own s' → Tn α [t.name] own own s s' → J (α.W own) s'.heap → IsKey f os → In M.prog M.w (Fz (α.W own) s'.heap) (.obj (.ref f) os) (.ref f) → Q (.ref f) s') :
    wpAny (model M.prog M.w) α.A (eval (.Lambda params (keyBody p1 p2 p3) keyScope pos) α.env) Q NoE s := by
  obtain ⟨c, h1, h2⟩ := L.hcode
  have hT : (t.name, t.T) ∈ own := by
    obtain ⟨more, e⟩ := S.lent
    rw [e]; exact List.mem_append_right _ L.hT
  exact lam_eval S hT L.hsc h1 h2 L.hq L.hpos (jt.get _ _ hJ) (L.hdef _) L.hb fun f os s' S' T' TA k ik i => hQ f os s' S' T' (jt.put _ _ _ hJ TA k) ik i
/-- x = g(e, .., key=lambda work: work[0]) -/
theorem S1T.assignKey {t : Tab} {x y : Str} {px py pos spos kp p1 p2 p3 lp : Pos} {params : Arguments} {f : Addr} {e : Expr} {es : List Expr} {rs : List (Bool × D)} {d : D} {n : Nat} (tj : TJ tn J α) (L : LamOk t params p1 p2 p3 lp α) (jt : JTab t J) (htn : t.name ∈ tn.map (·.1))
    (g : ∀ own, Glob1 M (α.cx own) y (.ref f)) (hk : keepIn M.K (.ref f) = true) (ha : ∀ own, EvM M.prog M.w (α.cx own) Γ (e :: es) rs) (hrs : ∀ r ∈ rs, r.1 = true)
    (hc : ∀ fa os, IsKey fa os → PureC M f n rs [Str.ofString "key"] [(true, .obj (.ref fa) os)] d) (hlv : n < α.lv) (hkx : isVar sc x) (hx : x ∉ Ω) (h : P .next (Γ.set x (true, d)) Ω) (hdb : (x == ("__debug__" : Str)) = false := by decide)
    (he : starEach (e :: es) α.env = (false, eval e α.env) :: starEach es α.env := by rfl)
    (hp : ∀ pos, ((backTo pos (starEach (e :: es) α.env)).any (·.1) || (backToKw pos (keywordEach [⟨some (Str.ofString "key"), .Lambda params (keyBody p1 p2 p3) keyScope lp, kp⟩] α.env)).any (·.1.isNone)) = false := by intro _; rfl)
    (hs : swapsWith (.Call (.Name y py) (e :: es) [⟨some (Str.ofString "key"), .Lambda params (keyBody p1 p2 p3) keyScope lp, kp⟩] pos) (some (.Name x px)) spos.line α.env = pure false := by rfl) :
    S1T tn J α mods Γ Ω (.Assign [.Name x px] (.Call (.Name y py) (e :: es) [⟨some (Str.ofString "key"), .Lambda params (keyBody p1 p2 p3) keyScope lp, kp⟩] pos) spos) P := fun μ own s Q S hJ hQ => by
  refine wpAny_Assign_Name ?_ hs
  refine wpAny_Call_Name_kw (g own s py _ S.cxI ?_)
  refine callWith_KW (h₀ := s.heap) S.kin hk (by rfl) (ha own s pos _ S.cxI S.sees fun vs s₁ k₁ i₁ => ?_) (hp pos) he
  have S₁ := S.keeps k₁
  have hJ₁ : J (α.W own) s₁.heap := tj.keeps k₁ hJ
  show wpAny _ _ (evalAll ((do let v ← eval (.Lambda params (keyBody p1 p2 p3) keyScope lp) α.env; standAt pos; pure v) :: [])) _ _ _
  refine wpAny_evalAll_cons (wpAny_bind (lam_J L jt S₁ hJ₁ fun fa os s₂ S₂ T₂ hJ₂ ik i₂ => wpAny_bind (wpAny_standAt (wpAny_pure (wpAny_pure ⟨S₂.kin, ?_⟩)))))
  have hfz := S₁.fzTab T₂
  refine hc fa os ik _ α own s₂ vs [_] _ hlv S₂.cxI (i₁.frz hfz hrs) (.cons (Vi.fz i₂) .nil) fun v s₃ k₃ i₃ => ?_
  have S₃ := S₂.keeps k₃
  have hJ₃ : J (α.W own) s₃.heap := tj.keeps k₃ hJ₂
  refine S₃.store (mods := []) i₃ hx hdb hkx fun s₄ S₄ T₄ => ?_
  exact hQ .next .next _ _ _ _ s₄ S₄ (Tn.trans S (Tn.of_keeps k₁) (Tn.trans S₁ (T₂.wide fun z hz => by rw [List.mem_singleton.mp hz]; exact List.mem_append_left _ htn) (Tn.trans S₂ (Tn.of_keeps k₃) (T₄.wide fun _ h => nomatch h))))
    (tj.turn S₃ T₄ (fun _ _ h => nomatch h) hJ₃) trivial h
/-- g(x, e, .., key=lambda work: work[0]), x lent -/
theorem S1T.lendKey {t : Tab} {x y : Str} {px py pos spos kp p1 p2 p3 lp : Pos} {params : Arguments} {f : Addr} {es : List Expr} {rs : List (Bool × D)} {d₀ d' d : D} {n : Nat} (tj : TJ tn J α) (L : LamOk t params p1 p2 p3 lp α) (jt : JTab t J) (htn : t.name ∈ tn.map (·.1)) (hxt : ∀ p ∈ tn, p.1 ≠ x)
    (g : ∀ own, Glob1 M (α.cx own) y (.ref f)) (hk : keepIn M.K (.ref f) = true) (ha : ∀ own, EvM M.prog M.w (α.cx own) Γ es rs) (hrs : ∀ r ∈ rs, r.1 = true)
    (hc : ∀ fa os, IsKey fa os → LendC M f n d₀ rs [Str.ofString "key"] [(true, .obj (.ref fa) os)] d' d) (hlv : n < α.lv) (hx : Γ x = some (false, d₀)) (ho : x ∈ Ω) (hm : x ∈ mods) (h : P .next (Γ.set x (false, d')) Ω)
    (hp : ∀ pos, ((backTo pos (starEach (.Name x px :: es) α.env)).any (·.1) || (backToKw pos (keywordEach [⟨some (Str.ofString "key"), .Lambda params (keyBody p1 p2 p3) keyScope lp, kp⟩] α.env)).any (·.1.isNone)) = false := by intro _; rfl)
    (hs : swapsWith (.Call (.Name y py) (.Name x px :: es) [⟨some (Str.ofString "key"), .Lambda params (keyBody p1 p2 p3) keyScope lp, kp⟩] pos) none spos.line α.env = pure false := by rfl) :
    S1T tn J α mods Γ Ω (.Expr (.Call (.Name y py) (.Name x px :: es) [⟨some (Str.ofString "key"), .Lambda params (keyBody p1 p2 p3) keyScope lp, kp⟩] pos) spos) P := fun μ own s Q S hJ hQ => by
  obtain ⟨a, hv, hao, hi⟩ := S.ownAt hx ho
  refine wpAny_Expr_any ?_ act_quiet hs
  refine wpAny_Call_Name_kw (g own s py _ S.cxI ?_)
  refine callWith_KW (h₀ := s.heap) S.kin hk (by rfl) (spliced_more (S.nameAt hx hv (ha own s pos _ S.cxI S.sees fun vs s₁ k₁ i₁ => ?_)) rfl) (hp pos) rfl
  have S₁ := S.keeps k₁
  have hJ₁ : J (α.W own) s₁.heap := tj.keeps k₁ hJ
  show wpAny _ _ (evalAll ((do let v ← eval (.Lambda params (keyBody p1 p2 p3) keyScope lp) α.env; standAt pos; pure v) :: [])) _ _ _
  refine wpAny_evalAll_cons (wpAny_bind (lam_J L jt S₁ hJ₁ fun fa os s₂ S₂ T₂ hJ₂ ik i₂ => wpAny_bind (wpAny_standAt (wpAny_pure (wpAny_pure ⟨S₂.kin, ?_⟩)))))
  have hfz := S₁.fzTab T₂
  refine hc fa os ik _ α Γ Ω μ own s₂ [x] x a vs [_] _ hlv S₂ hx ho (.head _) hv hao (i₁.frz hfz hrs) hrs (.cons (Vi.fz i₂) .nil) (fun r hr => by rw [List.mem_singleton.mp hr]) fun v s₃ S₃ T₃ i₃ => ?_
  refine hQ .next .next _ _ _ _ s₃ S₃ (Tn.trans S (Tn.of_keeps k₁) (Tn.trans S₁ (T₂.wide fun z hz => by rw [List.mem_singleton.mp hz]; exact List.mem_append_left _ htn) (T₃.wide fun z hz => by rw [List.mem_singleton.mp hz]; exact List.mem_append_right _ hm)))
    (tj.turn S₂ T₃ (fun p hp' h => hxt p hp' (List.mem_singleton.mp h)) hJ₂) trivial h
end Mine

namespace Mine
variable {M : Amb} {sc : Scope} {α : Act M sc} {Γ : Gam} {Ω : List Str} {μ : Str → Option Value} {own : List (Str × Addr)} {s s' : Shared} {mods mods' : List Str} {P : Pst} {tn : List (Str × Addr)} {J : List Addr → Heap → Prop}
section
variable {f : Addr} {name qual : Str} {params : Arguments} {body : List Stmt} {scope : Scope} {dV kV doc pm cdv ct oc : Value} {an od : Option Addr} {osl : Array (Option Value)} {args : Args} {binds : List (Str × Value)}
noncomputable abbrev tabN : Str := Str.ofString "%"
/-- a def whose table of code is empty -/
noncomputable def TabC (M : Amb) (f T : Addr) (n : Nat) (rs : List (Bool × D)) (d : D) : Prop :=
  ∀ (sc : Scope) (α : Act M sc) Γ Ω μ own s tb vs (Q : Value → Shared → Prop), n < α.lv → St α Γ Ω μ own s → (tb, T) ∈ own → sc.names.lookup tb = none → s.heap.get? T = some (tabObj #[]) → ViL M.prog M.w (α.W own) s.heap rs vs →
    (∀ v s', St α Γ Ω μ own s' → Tn α [tb] own own s s' → (∃ ps, s'.heap.get? T = some (tabObj ps)) → In M.prog M.w (Fz (α.W own) s'.heap) d v → Q v s') → wpAny (model M.prog M.w) α.A (call (.ref f) vs) Q NoE s
theorem TabC.of {T : Addr} {n : Nat} {rs : List (Bool × D)} {d : D} {rs' : List (Str × (Bool × D))} {mods' : List Str} (DA : DefAt M f name qual params body scope dV kV doc pm cdv ct oc an od osl) (lp : Pos)
    (hcell : ∀ x ∈ scope.names, x.2 ≠ .cell) (hloc : ∀ y ∈ rs', scope.names.lookup y.1 = some .local ∧ (y.1 == ("__debug__" : Str)) = false) (hfr : ∀ y ∈ rs', y.2.1 = true)
    (hb : ∀ {s : Shared} {W : List Addr} {vs : List Value}, ViL M.prog M.w W s.heap rs vs → ∃ binds, BindsTo s (fnOf name qual params body scope dV kV doc pm an cdv ct) ⟨vs, []⟩ binds ∧ BindsIn (fun _ r v => Vi M.prog M.w W s.heap r v) binds rs')
    (hbody : ∀ β : Act M scope, β.lv = n → β.env.code = cdv → β.lent = [(tabN, T)] → SpT [(tabN, T)] (TabAt ⟨tabN, T, lp, β.env.qual ++ "<lambda>"⟩) β mods' (argsG rs') [tabN] body (RetP d)) : TabC M f T n rs d := fun sc α Γ Ω μ own s tb vs Q hlv S hT hsc hE hv hQ => by
  obtain ⟨binds, h1, h2⟩ := hb hv
  have hTo : T ∈ own.map (·.2) := List.mem_map_of_mem (f := Prod.snd) hT
  refine wpAny_call (enterJ (HP := fun h => ∃ ps, h.get? T = some (tabObj ps)) DA S.cxI hlv [(tabN, T)] (fun p hp => by rw [List.mem_singleton.mp hp]; exact hTo) (by simp) h1 hcell hloc
    (h2.imp fun x r v hm hr => by rw [if_pos (hfr _ hm)]; have := hr.inr; have hf := hfr _ hm; dsimp only at hf; obtain ⟨rb, rd⟩ := r; dsimp only at hf; subst hf; exact hr.infz)
    (fun β hβ hc hl μ' s₁ Q' S₁ k₁ hQ' => hbody β hβ hc hl μ' _ s₁ Q' S₁ (TabAt.empty (k₁ _ _ hE)) fun f fl Γ' Ω' μ' own' s' S' T' hJ' hf hP => hQ' f fl Γ' Ω' μ' own' s' S' T' (by obtain ⟨ps, e, _⟩ := hJ'; exact ⟨ps, e⟩) hf hP) ?_)
  intro fl v Γ' Ω' s' hP hTE hk hr hal hi _
  obtain ⟨h', tk, rfl⟩ := hr
  obtain ⟨S', T'⟩ := S.turnTab tk hsc hT (fun b o hb e => hk b o (by simpa using hb) e) (hal _ _ hE)
  refine hQ v _ S' T' hTE ?_
  rcases hP with rfl | ⟨rfl, rfl⟩
  · exact hi
  · exact In.none_iff.mpr hi
end
/-- the tables stand -/
noncomputable def GrownTn (tn : List (Str × Addr)) (h : Heap) : Prop := ∀ p ∈ tn, ∃ ps, h.get? p.2 = some (tabObj ps)
/-- as SpT, of the tables at the end only that they stand -/
noncomputable def SpE (tn : List (Str × Addr)) (J : List Addr → Heap → Prop) (α : Act M sc) (mods : List Str) (Γ : Gam) (Ω : List Str) (ss : List Stmt) (P : Pst) : Prop :=
  ∀ μ own s Q, St α Γ Ω μ own s → J (α.W own) s.heap → (∀ f fl Γ' Ω' μ' own' s', St α Γ' Ω' μ' own' s' → Tn α (tn.map (·.1) ++ mods) own own' s s' → GrownTn tn s'.heap → FlIs α s'.heap f fl → P fl Γ' Ω' → Q f s') →
    wpAny (model M.prog M.w) α.A (execs ss α.env) Q NoE s
noncomputable abbrev PThenE (tn : List (Str × Addr)) (J : List Addr → Heap → Prop) (α : Act M sc) (mods : List Str) (rest : List Stmt) (P : Pst) : Pst := fun fl Γ' Ω' => match fl with | .next => SpE tn J α mods Γ' Ω' rest P | fl => P fl Γ' Ω'
theorem SpE.cons (hG : ∀ W h, J W h → GrownTn tn h) {st : Stmt} {rest : List Stmt} {P : Pst} (h : S1T tn J α mods Γ Ω st (PThenE tn J α mods rest P)) : SpE tn J α mods Γ Ω (st :: rest) P := fun μ own s Q S hJ hQ => by
  refine wpAny_execs_cons (h μ own s _ S hJ fun f fl Γ' Ω' μ' own' s' S' T' hJ' hf hP => ?_)
  cases fl with
  | next =>
    cases f <;> first | exact hf.elim | skip
    exact hP μ' own' s' Q S' hJ' fun f2 fl2 Γ2 Ω2 μ2 own2 s2 S2 T2 hG2 hf2 hP2 => hQ f2 fl2 Γ2 Ω2 μ2 own2 s2 S2 (Tn.trans S T' T2) hG2 hf2 hP2
  | brk => cases f <;> first | exact hf.elim | exact hQ _ _ _ _ _ _ _ S' T' (hG _ _ hJ') hf hP
  | cont => cases f <;> first | exact hf.elim | exact hQ _ _ _ _ _ _ _ S' T' (hG _ _ hJ') hf hP
  | ret d => cases f <;> first | exact hf.elim | exact hQ _ _ _ _ _ _ _ S' T' (hG _ _ hJ') hf hP
theorem SpE.consS (hG : ∀ W h, J W h → GrownTn tn h) (t : TJ tn J α) (hm : ∀ p ∈ tn, p.1 ∉ mods) {st : Stmt} {rest : List Stmt} {P : Pst} (h : S1 α mods Γ Ω st (PThenE tn J α mods rest P)) : SpE tn J α mods Γ Ω (st :: rest) P :=
  SpE.cons hG (S1T.of t hm h)
theorem SpE.step (hG : ∀ W h, J W h → GrownTn tn h) {st : Stmt} {rest : List Stmt} (Fin : Gam → List Str → Prop) (h : S1T tn J α mods Γ Ω st (PFin Fin P)) (h' : ∀ Γ' Ω', Fin Γ' Ω' → SpE tn J α mods Γ' Ω' rest P) : SpE tn J α mods Γ Ω (st :: rest) P :=
  SpE.cons hG (S1T.mono h fun fl Γ' Ω' hP => by cases fl <;> first | exact h' _ _ hP | exact hP)
theorem SpE.freeze {x : Str} {d : D} {ss : List Stmt} (hx : Γ x = some (false, d)) (t : TJ tn J α) (hl : x ∉ α.lent.map (·.1)) (hxΩ : x ∉ Ω) (h : SpE tn J α mods (Γ.set x (true, d)) Ω ss P) : SpE tn J α mods Γ (x :: Ω) ss P := fun μ own s Q S hJ hQ => by
  have hn := S.names
  cases own with
  | nil => cases hn
  | cons p own =>
    obtain ⟨y, a⟩ := p
    rw [List.map_cons] at hn
    injection hn with h1 h2
    dsimp only at h1
    subst h1
    have kF : Ks (Fz (α.W ((y, a) :: own)) s.heap) (Fz (α.W own) s.heap) := fz_less fun b hb => List.mem_cons_of_mem _ hb
    have nd : (a :: α.W own).Nodup := S.nd
    have lent' : ∃ more, own = more ++ α.lent := by
      obtain ⟨more, e⟩ := S.lent
      cases more with
      | nil => exact absurd (by rw [← show (y, a) :: own = α.lent from e]; simp) hl
      | cons q more => exact ⟨more, (List.cons.inj e).2⟩
    have hJ' : J (α.W own) s.heap := t.ok _ _ _ _ hJ (fun b o _ e => e) fun b hb => .inl (List.mem_cons_of_mem _ hb)
    have S' : St α (Γ.set y (true, d)) Ω μ own s := by
      refine ⟨h2, (List.nodup_cons.mp nd).2, S.fr, fun p hp => S.ownN p (List.mem_cons_of_mem _ hp), lent', fun b hb => S.low b (List.mem_cons_of_mem _ hb), fun z r e => ?_⟩
      by_cases hz : z = y
      · subst hz
        rw [Gam.set, if_pos rfl] at e
        cases e
        obtain ⟨q1, _⟩ := S.vars z _ hx
        obtain ⟨b, e1, e2, e3⟩ := S.ownAt hx (List.mem_cons_self ..)
        have hb : b = a := by
          rcases List.mem_cons.mp e2 with e2 | e2
          · exact congrArg Prod.snd e2
          · exact absurd (h2 ▸ List.mem_map_of_mem (f := Prod.fst) e2) hxΩ
        subst hb
        refine ⟨q1, _, e1, ?_⟩
        unfold VarOk
        rw [if_pos rfl]
        have hbW : b ∉ α.W own := (List.nodup_cons.mp nd).1
        cases d with
        | lst ds => obtain ⟨a', vs, n, e, g, rr⟩ := e3; cases e; exact In.lst_iff.mpr ⟨_, vs, n, rfl, hideAll_get _ g hbW, rr.mono kF⟩
        | dct kvs => obtain ⟨a', o, kv, e, g, q1, q2, rr⟩ := e3; cases e; exact In.dct_iff.mpr ⟨_, o, kv, rfl, hideAll_get _ g hbW, q1, q2, rr.mono kF⟩
        | none => exact In.mono kF e3
        | bool b => exact In.mono kF e3
        | int i => exact In.mono kF e3
        | tup ds => exact In.mono kF e3
        | val u => exact In.mono kF e3
        | obj u os => exact In.mono kF e3
      · rw [Gam.set, if_neg hz] at e
        obtain ⟨q1, v, q2, q3⟩ := S.vars z r e
        refine ⟨q1, v, q2, ?_⟩
        unfold VarOk at q3 ⊢
        split at q3
        · rename_i q; rw [if_pos q]; exact q3.mono kF
        · rename_i q
          rw [if_neg q]
          split at q3
          · rename_i q4
            have hzO : z ∈ Ω := by
              rcases List.mem_cons.mp q4 with q4 | q4
              · exact absurd q4 hz
              · exact q4
            rw [if_pos hzO]
            obtain ⟨b, e1, e2, e3⟩ := q3
            refine ⟨b, e1, ?_, e3.mono (fun _ _ e => e) kF⟩
            rcases List.mem_cons.mp e2 with e2 | e2
            · exact absurd (congrArg Prod.fst e2) hz
            · exact e2
          · rename_i q4
            rw [if_neg (fun hm => q4 (List.mem_cons_of_mem _ hm))]
            exact q3.mono (fun _ _ e => e) kF
    refine h μ own s Q S' hJ' fun f fl Γ' Ω' μ' own' s' S'' T hG' hf hP => hQ f fl Γ' Ω' μ' own' s' S'' ⟨T.rest, fun b o hb e => T.kf b o (fun hm => hb ?_) e, fun p hp hn o e => ?_, T.al, fun p hp => ?_⟩ hG' hf hP
    · exact List.mem_cons_of_mem _ hm
    · rcases List.mem_cons.mp hp with rfl | hp
      · refine T.kf _ o (fun hm => ?_) e
        exact (List.nodup_cons.mp nd).1 (by
          rcases List.mem_append.mp hm with hm | hm
          · exact List.mem_append_left _ hm
          · exact List.mem_append_right _ (List.mem_append_left _ hm))
      · exact T.km p hp hn o e
    · rcases T.new p hp with h | h
      · exact .inl (List.mem_cons_of_mem _ h)
      · exact .inr h

/-- return g(e1, f(e2), e3), f a def whose table of code is empty -/
theorem SpE.retTab {y z : Str} {py pz p2 pos spos : Pos} {f g T : Addr} {e1 e2 e3 : Expr} {d1 d2 d3 d4 : D} {b : Bool} {n m : Nat} {tb : Str} (tj : TJ tn J α)
    (gg : ∀ own, Glob1 M (α.cx own) y (.ref g)) (hkg : keepIn M.K (.ref g) = true) (gf : ∀ own, Glob1 M (α.cx own) z (.ref f)) (hkf : keepIn M.K (.ref f) = true)
    (h1 : EvA α Γ e1 (true, d1)) (h2 : EvA α Γ e2 (true, d2)) (h3 : EvA α Γ e3 (true, d3)) (hcf : TabC M f T m [(true, d2)] d4) (hcg : PureC M g n [(true, d1), (true, d4), (true, d3)] [] [] (.bool b)) (hm : m < α.lv) (hn : n < α.lv)
    (htb : (tb, T) ∈ tn) (hsc : sc.names.lookup tb = none) (hJE : ∀ W h, J W h → h.get? T = some (tabObj #[])) (hG : ∀ W h, J W h → GrownTn tn h) (hone : ∀ p ∈ tn, p.1 = tb → p.2 = T) (h : P (.ret (.bool b)) Γ Ω)
    (hst : starEach [e1, .Call (.Name z pz) [e2] [] p2, e3] α.env = (false, eval e1 α.env) :: starEach [.Call (.Name z pz) [e2] [] p2, e3] α.env := by rfl)
    (hst' : starEach [.Call (.Name z pz) [e2] [] p2, e3] α.env = (false, eval (.Call (.Name z pz) [e2] [] p2) α.env) :: starEach [e3] α.env := by rfl)
    (hst'' : starEach [e3] α.env = (false, eval e3 α.env) :: starEach [] α.env := by rfl)
    (hst2 : starEach [e2] α.env = (false, eval e2 α.env) :: starEach [] α.env := by rfl)
    (hp : ∀ pos, (backTo pos (starEach [.Call (.Name z pz) [e2] [] p2, e3] α.env)).any (·.1) = false := by intro _; rfl) :
    SpE tn J α mods Γ Ω [.Return (some (.Call (.Name y py) [e1, .Call (.Name z pz) [e2] [] p2, e3] [] pos)) spos] P := fun μ own s Q S hJ hQ => by
  refine wpAny_execs_cons (wpAny_Return_some (wpAny_Call_NameR (gg own s py _ S.cxI ?_)))
  refine callWith_K (h₀ := s.heap) S.kin hkg ?_ hst (hp pos)
  refine spliced_more (h1 own s _ S.cxI S.sees fun v1 s₁ k₁ i₁ => ?_) hst
  have S₁ := S.keeps k₁
  refine spliced_more ?_ hst'
  refine wpAny_Call_NameR (gf own s₁ pz _ S₁.cxI ?_)
  refine callWith_K (h₀ := s₁.heap) S₁.kin hkf ?_ hst2 (by rfl)
  refine spliced_more (h2 own s₁ _ S₁.cxI S₁.sees fun v2 s₂ k₂ i₂ => spliced_none ⟨(S₁.keeps k₂).kin, ?_⟩) hst2
  have S₂ := S₁.keeps k₂
  have hE := hJE _ _ (tj.keeps k₂ (tj.keeps k₁ hJ))
  refine hcf sc α Γ Ω μ own s₂ tb [v2] _ hm S₂ (tj.inOwn S htb) hsc hE (.cons i₂ .nil) fun v4 s₃ S₃ T₃ hTE i₃ => ?_
  refine spliced_more (h3 own s₃ _ S₃.cxI S₃.sees fun v3 s₄ k₄ i₄ => spliced_none ⟨(S₃.keeps k₄).kin, ?_⟩) hst''
  have S₄ := S₃.keeps k₄
  have i₁' := (i₁.infz.mono (fz_ks (Kp.ks k₂))).mono (S₂.fzTab T₃)
  refine hcg sc α own s₄ [v1, v4, v3] [] _ hn S₄.cxI (.cons (Vi.fz (i₁'.mono (fz_ks (Kp.ks k₄)))) (.cons (Vi.fz (i₃.mono (fz_ks (Kp.ks k₄)))) (.cons i₄ .nil))) .nil fun v s₅ k₅ i₅ => ?_
  have hG₂ : GrownTn tn s₂.heap := hG _ _ (tj.keeps k₂ (tj.keeps k₁ hJ))
  have hG₃ : GrownTn tn s₃.heap := fun p hp => by
    by_cases hpt : p.1 = tb
    · rw [hone p hp hpt]; exact hTE
    · obtain ⟨ps, e⟩ := hG₂ p hp
      exact ⟨ps, T₃.km p (tj.inOwn S hp) (by simpa using hpt) _ e⟩
  have hG₅ : GrownTn tn s₅.heap := fun p hp => by
    obtain ⟨ps, e⟩ := hG₃ p hp
    exact ⟨ps, Kp.ks k₅ _ _ (Kp.ks k₄ _ _ e)⟩
  refine hQ (.ret v) (.ret (.bool b)) Γ Ω μ own s₅ (S₄.keeps k₅) ?_ hG₅ (by have e := In.bool_iff.mp i₅; show In M.prog M.w (Fz (α.lent.map (·.2) ++ α.W₀) s₅.heap) (.bool b) v; exact In.bool_iff.mpr e) h
  exact Tn.trans S (Tn.of_keeps k₁) (Tn.trans S₁ (Tn.of_keeps k₂) (Tn.trans S₂ (T₃.wide fun z hz => by rw [List.mem_singleton.mp hz]; exact List.mem_append_left _ (List.mem_map_of_mem (f := Prod.fst) htb)) (Tn.trans S₃ (Tn.of_keeps k₄) (Tn.of_keeps k₅))))
end Mine

namespace Mine
theorem intsAre_in {prog : Program} {w : World} {F : Heap} : ∀ {vs : List Value} {ns : List Int}, IntsAre vs ns → InL prog w F (ns.map D.int) vs
  | _, _, .nil => InL.nil
  | _, _, .cons n t r => InL.cons (In.int_iff.mpr ⟨t, rfl⟩) (intsAre_in r)
section
variable {prog : Program} {w : World} {X : Cx} {Γ : Gam} {b₁ b₂ : Bool}
/-- x[:n], x a list of ints of any make -/
theorem Ev.sliceObj {x : Str} {e : Expr} {px p pos : Pos} {a : Addr} {o : Obj} {vs : List Value} {ns : List Int} {n : Int} {k : Nat} (hx : Γ x = some (b₁, .obj (.ref a) [(a, o)])) (hc : o.cls = .type "list") (hd : o.data = .seq vs.toArray k) (hi : IntsAre vs ns) (hl : ns.length ≤ 100)
    (he : Ev prog w X Γ e (b₂, .int n)) (h0 : 0 ≤ n) : Ev prog w X Γ (.Subscript (.Name x px) (.Slice Option.none (some e) Option.none p) pos) (true, .lst ((ns.take n.toNat).map D.int)) := fun s Q hI hS hQ => by
  have hlen : vs.length = ns.length := by
    have := (intsAre_in (prog := prog) (w := w) (F := s.heap) hi).length
    rwa [List.length_map] at this
  refine wpAny_Subscript_list_slice (Ev.name hx s _ hI hS fun v s₁ k₁ i₁ => ?_) (by intro _ _; rfl)
  rw [evalPart_none]
  refine wpAny_pure ?_
  rw [evalPart_some]
  refine he s₁ _ (X.mono _ _ hI k₁) (hS.keeps k₁) fun u s₂ k₂ i₂ => ?_
  obtain ⟨rfl, hos⟩ := (i₁.mono (Kp.ks k₂)).obj
  have g := fz_le _ _ (hos _ (.head _))
  obtain ⟨t, rfl⟩ := i₂.int
  refine ⟨a, vs.toArray, _, _, rfl, ⟨o, g, hc, k, hd⟩, by rw [List.size_toArray, hlen]; exact Nat.le_trans hl (by decide), .none, .int n t, ?_⟩
  have hn : n = ((n.toNat : Nat) : Int) := by omega
  rw [hn, slicePick_upto']
  generalize hs3 : ({ s₂ with heap := s₂.heap.push { cls := .type "slice", data := .fields #[.none, .int ((n.toNat : Nat) : Int) t, .none] } } : Shared) = s₃
  have k₃ : Keeps s₂ s₃ := by rw [← hs3]; exact Kp.push s₂ _
  have hsz : s₃.heap.objs.size = s₂.heap.objs.size + 1 := by rw [← hs3]; exact Heap.size_push ..
  have hI₃ := X.mono _ _ (X.mono _ _ (X.mono _ _ hI k₁) k₂) k₃
  have key := hQ (.ref s₃.heap.objs.size) { s₃ with heap := s₃.heap.push { cls := .type "list", data := .seq (vs.take n.toNat).toArray } } (Kp.trans (Kp.trans (Kp.trans k₁ k₂) k₃) (Kp.push s₃ _))
    (Vi.fz (In.lst_iff.mpr ⟨_, vs.take n.toNat, 0, rfl, fz_push (X.low _ hI₃) _ rfl, by rw [List.map_take]; exact (intsAre_in hi).take _⟩))
  rw [hsz] at key
  rw [← hs3] at key
  exact key
end
noncomputable abbrev tab1 : Str := Str.ofString "%1"
noncomputable abbrev tab2 : Str := Str.ofString "%2"
/-- the law's def: its body over the ledger of two empty tables -/
noncomputable def LawC (M : Amb) (f T1 T2 : Addr) (rs' : List (Str × (Bool × D))) (b : Bool) : Prop :=
  ∀ (name qual : Str) (params : Arguments) (body : List Stmt) (scope : Scope) (dV kV doc pm cdv ct oc : Value) (an od : Option Addr) (osl : Array (Option Value)),
    M.K.lookup f = some ⟨oc, od, .func (fnOf name qual params body scope dV kV doc pm an cdv ct), osl⟩ → ∀ α : Act M scope, α.lv = 9 → α.env.code = cdv → α.lent = [(tab1, T1), (tab2, T2)] → α.W₀ = [] →
      ∀ μ s Q, St α (argsG rs') [tab1, tab2] μ [(tab1, T1), (tab2, T2)] s → s.heap.get? T1 = some (tabObj #[]) → s.heap.get? T2 = some (tabObj #[]) →
        (∀ s', (∃ h t, s' = { s with heap := h, toks := t }) → (∀ c o, α.h₀.get? c = some o → s'.heap.get? c = some o) → (∃ ps, s'.heap.get? T1 = some (tabObj ps)) → (∃ ps, s'.heap.get? T2 = some (tabObj ps)) → Q (.ret (.bool b)) s') →
          wpAny (model M.prog M.w) α.A (execs body α.env) Q NoE s
theorem LawC.of {M : Amb} {f T1 T2 : Addr} {rs' : List (Str × (Bool × D))} {b : Bool} {mods : List Str} {lp : Pos} {name qual : Str} {params : Arguments} {body : List Stmt} {scope : Scope} {dV kV doc pm cdv ct oc : Value} {an od : Option Addr} {osl : Array (Option Value)}
    (ho : M.K.lookup f = some ⟨oc, od, .func (fnOf name qual params body scope dV kV doc pm an cdv ct), osl⟩)
    (hbody : ∀ α : Act M scope, α.lv = 9 → α.env.code = cdv → α.lent = [(tab1, T1), (tab2, T2)] → SpE [(tab1, T1), (tab2, T2)] (fun W h => TabAt ⟨tab1, T1, lp, α.env.qual ++ "<lambda>"⟩ W h ∧ h.get? T2 = some (tabObj #[])) α mods (argsG rs') [tab1, tab2] body (fun fl _ _ => fl = .ret (.bool b))) :
    LawC M f T1 T2 rs' b := by
  intro name' qual' params' body' scope' dV' kV' doc' pm' cdv' ct' oc' an' od' osl' ho' α hlv hc hl hW μ s Q S h1 h2 hQ
  rw [ho] at ho'
  cases ho'
  refine hbody α hlv hc hl μ _ s Q S ⟨TabAt.empty h1, h2⟩ fun fl f Γ' Ω' μ' own' s' S' T' hG hf hP => ?_
  subst hP
  cases fl with
  | ret v =>
    have hv : In M.prog M.w (Fz (α.lent.map (·.2) ++ α.W₀) s'.heap) (.bool b) v := hf
    rw [In.bool_iff.mp hv]
    exact hQ s' T'.rest (fun c o e => S'.fr.keep c o e) (hG _ (.head _)) (hG _ (.tail _ (.head _)))
  | next => exact hf.elim
  | brk => exact hf.elim
  | cont => exact hf.elim
end Mine

namespace Mine

noncomputable def glist : List (Str × Value) := [
  (Str.ofString "insort_right", .ref 23), (Str.ofString "bisect_right", .ref 32), (Str.ofString "heappush", .ref 39), (Str.ofString "heappop", .ref 46), (Str.ofString "heapreplace", .ref 53), (Str.ofString "_siftdown", .ref 60), (Str.ofString "_siftup", .ref 67),
  (Str.ofString "TupleComp", .ref 91), (Str.ofString "add_func_stats", .ref 102), (Str.ofString "add_callers", .ref 109), (Str.ofString "count_calls", .ref 116), (Str.ofString "_law_run", .ref 123), (Str.ofString "_law_film", .ref 128), (Str.ofString "_law_soonest", .ref 133), (Str.ofString "_law_calls", .ref 138),
  (Str.ofString "len", .builtin "len"), (Str.ofString "min", .builtin "min"), (Str.ofString "max", .builtin "max"), (Str.ofString "sum", .builtin "sum"), (Str.ofString "sorted", .builtin "sorted"), (Str.ofString "range", .type "range")]

theorem glob_ok (w : World) : ∀ p ∈ glist, (p.1 == ("__debug__" : Str)) = false ∧ (nsIn (hd.heap_1 w.params) mainGlobals p.1 = some (some p.2) ∨ (nsIn (hd.heap_1 w.params) mainGlobals p.1 = some none ∧ bootBuiltins p.1 = some p.2 ∧ p.1 ≠ "__name__")) := by
  intro p hp
  unfold glist at hp
  simp only [List.mem_cons, List.not_mem_nil, or_false] at hp
  rcases hp with rfl | rfl | rfl | rfl | rfl | rfl | rfl | rfl | rfl | rfl | rfl | rfl | rfl | rfl | rfl | rfl | rfl | rfl | rfl | rfl | rfl
  all_goals (refine ⟨by decide, ?_⟩; dsimp only; first | (left; k_is; done) | (right; refine ⟨by k_is, by boot_fast, by decide⟩))

noncomputable def amb (w : World) (loose : List Str) (mean : ExcName → Option Value) (mg mb : Str → Option Value) : Amb where
  prog := PySem.Challenge.rw_pg0167_01.row.prog
  w := w
  K := hd.heap_1 w.params
  p := topProg
  loose := loose
  mean := mean
  mg := mg
  mb := mb
  G := fun x => glist.lookup x
  hG := fun x v e => glob_ok w (x, v) (lookup_mem e)
end Mine

namespace Mine
section
variable {prog : Program} {w : World} {X : Cx} {Γ : Gam} {b₁ b₂ : Bool}
theorem Ev.itemP {o i : Expr} {pos : Pos} {l : List (Int × Int)} {k : Nat} {y : Int × Int} (ho : Ev prog w X Γ o (b₁, .lst (l.map pr))) (hi : Ev prog w X Γ i (b₂, .int (k : Nat))) (hd : l[k]? = some y) (hz : l.length ≤ 1000)
    (hs : ∀ a u, subscripted i false (.ref a) (.int k u) = operate [.ref a, .int k u] (getItem (.ref a) (.int k u)) := by intro _ _; rfl) : Ev prog w X Γ (.Subscript o i pos) (true, pr y) := by
  have hk : k < l.length := (List.getElem?_eq_some_iff.mp hd).1
  exact Ev.item ho hi (by omega) (by omega) (by rw [Int.toNat_natCast, List.getElem?_map, hd]; rfl) hs
theorem Ev.lenOf {M : Amb} {px pos : Pos} {e : Expr} {ds : List D} (g : Glob1 M X (Str.ofString "len") (.builtin "len")) (he : Ev M.prog M.w X Γ e (b₁, .lst ds)) (hz : ds.length ≤ 1000)
    (hst : starEach [e] X.env = (false, eval e X.env) :: starEach [] X.env := by rfl) : Ev M.prog M.w X Γ (.Call (.Name (Str.ofString "len") px) [e] [] pos) (true, .int ds.length) :=
  Ev.blt g (EvM.cons he EvM.nil hst) (BltC.len (by omega)) hst
end
variable {M : Amb} {sc : Scope} {α : Act M sc} {Γ : Gam} {Ω : List Str} {mods : List Str} {P : Pst}
theorem S1.setAtP {x : Str} {px spos pos : Pos} {i e : Expr} {l : List (Int × Int)} {y : Int × Int} {k : Nat} {b : Bool} (hx : Γ x = some (false, .lst (l.map pr))) (ho : x ∈ Ω) (hm : x ∈ mods) (he : EvA α Γ e (true, pr y)) (hi : EvA α Γ i (b, .int (k : Nat))) (hk : k < l.length) (hz : l.length ≤ 1000)
    (h : P .next (Γ.set x (false, .lst ((l.set k y).map pr))) Ω) (hsw : swapsWith e (some (.Subscript (.Name x px) i spos)) pos.line α.env = pure false := by rfl) :
    S1 α mods Γ Ω (.Assign [.Subscript (.Name x px) i spos] e pos) P := by
  refine S1.setAt hx ho hm he hi (by omega) (by rw [List.length_map]; omega) (by rw [List.length_map]; omega) ?_ hsw
  rw [Int.toNat_natCast]
  rw [List.map_set] at h
  exact h
end Mine
namespace Mine
/-- an environment of a scope, the rest of no matter -/
noncomputable def envS (sc : Scope) : Env := { scope := sc, locals := 0, globals := 0, cells := [], qual := [].asString, func := none, code := .none, frame := none, builtins := 0 }
theorem sw_stores {env : Env} {sc : Scope} (h : env.scope = sc) (ts : List Expr) (v : Expr) : swappedStores ts v env = swappedStores ts v (envS sc) := by
  subst h; rfl
theorem sw_with {env : Env} {sc : Scope} (h : env.scope = sc) (v : Expr) (t : Option Expr) (l : Nat) : swapsWith v t l env = swapsWith v t l (envS sc) := by
  subst h; rfl
end Mine

namespace Mine
local macro_rules | `(tactic| walk_at "nm") => `(tactic| first | (with_reducible assumption) | (with_reducible exact Gam.set_eq) | (refine (Gam.set_ne (by decide)).trans ?_; walk_at "nm") | (refine (Gam.free_eq (by rfl)).trans ?_; walk_at "nm") | rfl)
local macro_rules | `(tactic| walk_at "bk") => `(tactic| first | (exact List.forall_mem_nil _) | (refine' List.forall_mem_cons.mpr ⟨?bh, ?bt⟩; (case bh => first | (intro h; exact absurd h (by decide)) | (intro _; refine' ⟨⟨rfl, rfl, by decide⟩, _, ?bw⟩; (case bw => (try dsimp only); walk_at "nm"))); (case bt => walk_at "bk")))
local macro_rules | `(tactic| walk_at "bo") => `(tactic| (refine' ⟨rfl, by decide, ?bfr, by decide⟩; (case bfr => walk_at "bk")))
local macro_rules | `(tactic| walk_at "op") => `(tactic| first
  | exact Op2.add | exact Op2.sub | exact Op2.mul (IntMulOk.of_left (by decide)) | exact Op2.lt | exact Op2.gt | exact Op2.eq | exact Op2.ne | exact Op2.ltPair | exact Op2.shr (by decide) | exact Op2.fdiv (by decide) (by decide) | exact Op2.mod (by decide) | exact Op2.isNone | exact Op2.isNoneObj | exact Op2.isNotNone)
local macro_rules | `(tactic| walk_at "ev") => `(tactic| first
  | exact Ev.int | exact Ev.none | exact Ev.name (by walk_at "nm") | exact Ev.glob (Glob1.act rfl rfl)
  | (refine' Ev.bin ?h1 ?h2 ?h3; (case h1 => walk_at "ev"); (case h2 => walk_at "ev"); (case h3 => walk_at "op"))
  | (refine' Ev.cmp ?h1 ?h2 ?h3; (case h1 => walk_at "ev"); (case h2 => walk_at "ev"); (case h3 => walk_at "op")))
local macro_rules | `(tactic| walk_at "tr") => `(tactic| first
  | (refine' Tr.cmp ?h1 ?h2 ?h3; (case h1 => walk_at "ev"); (case h2 => walk_at "ev"); (case h3 => walk_at "op")))
local macro_rules | `(tactic| walk_at "em") => `(tactic| first | exact EvM.nil | (refine' EvM.cons ?h1 ?h2; (case h1 => walk_at "ev"); (case h2 => walk_at "em")))








theorem siftdown_c {w : World} {loose mean mg mb} {l : List (Int × Int)} {pos : Nat} {x : Int × Int} (hx : l[pos]? = some x) (hz : l.length ≤ 1000) :
    LendC (amb w loose mean mg mb) 60 0 (.lst (l.map pr)) [(true, .int 0), (true, .int pos)] [] [] (.lst ((sdown x pos l).map pr)) .none := by
  have hp : pos < l.length := (List.getElem?_eq_some_iff.mp hx).1
  refine' LendC.of (y := Str.ofString "heap") (rs' := [(Str.ofString "startpos", (true, .int 0)), (Str.ofString "pos", (true, .int pos))]) (mods' := [Str.ofString "heap"]) ⟨?ho, ?hcd, ?hco, ?hgen, ?hk⟩ ?hcell ?hloc ?hfz ?hb ?hbody
  case ho => show (hd.heap_1 w.params).lookup 60 = some _; k_is
  case hcd => show codeIn (hd.heap_1 w.params) _ _ = true; k_is
  case hco => rfl
  case hgen => rfl
  case hk => rfl
  case hcell => decide
  case hloc => simp only [List.forall_mem_cons]; refine ⟨⟨rfl, by decide⟩, ⟨rfl, by decide⟩, ⟨rfl, by decide⟩, ?_⟩; intro _ h; nomatch h
  case hfz => simp
  case hb =>
    intro s W v₀ vs ks hX hv hk
    obtain rfl := hk.e0
    obtain ⟨v1, v2, rfl, h1, h2⟩ := hv.e2
    exact ⟨[(_, _), (_, _)], BindsTo.of_eq rfl, .cons h1 (.cons h2 .nil)⟩
  case hbody =>
    intro β hlv hcells
    refine Sp.cons (S1.assign (fun own => Ev.item (ds := l.map pr) (k := pos) (d := pr x) (by walk_at "ev") (by walk_at "ev") (by omega) (by omega) (by simp [hx])) (.inl rfl) (by decide) ?_)
    refine Sp.step (fun Γ' Ω' => ∃ (l' : List (Int × Int)) (p : Nat), Γ' "heap" = some (false, .lst (l'.map pr)) ∧ Γ' "pos" = some (true, .int p) ∧ Γ' "newitem" = some (true, pr x) ∧ Ω' = [Str.ofString "heap"] ∧ p < l'.length ∧ l'.length = l.length ∧ l'.set p x = sdown x pos l) ?loop ?fin
    case loop =>
      refine S1.while (fun k Γ' Ω' => ∃ (l' : List (Int × Int)), Γ' "heap" = some (false, .lst (l'.map pr)) ∧ Γ' "pos" = some (true, .int (k : Nat)) ∧ Γ' "startpos" = some (true, .int 0) ∧ Γ' "newitem" = some (true, pr x) ∧ Ω' = [Str.ofString "heap"] ∧ k < l'.length ∧ l'.length = l.length ∧ sdown x k l' = sdown x pos l) pos ⟨l, rfl, rfl, rfl, rfl, rfl, hp, rfl, rfl⟩ ?_
      rintro k Γ' Ω' ⟨l', h1, h2, h3, h4, rfl, h5, h6, h7⟩
      refine ⟨decide ((0 : Int) < k), fun own => by walk_at "tr", fun hb => ?_, fun hb => ?_⟩
      · have hk : 0 < k := by simpa using hb
        obtain ⟨k, rfl⟩ : ∃ j, k = j + 1 := ⟨k - 1, by omega⟩
        have e1 : (((k + 1 : Nat) : Int) - 1).fdiv (2 ^ (1 : Int).toNat) = ((k / 2 : Nat) : Int) := by
          rw [show ((2 : Int) ^ (1 : Int).toNat) = 2 from rfl, Int.fdiv_eq_ediv_of_nonneg _ (by decide)]; omega
        have hq : k / 2 < l'.length := by omega
        obtain ⟨y, hy⟩ : ∃ y, l'[k / 2]? = some y := ⟨_, List.getElem?_eq_getElem hq⟩
        have hg : l'.getD (k / 2) (0, 0) = y := by simp [List.getD, hy]
        refine Sp.cons (S1.assign (d := .int ((k / 2 : Nat) : Int)) (fun own => by rw [← e1]; walk_at "ev") (.inl rfl) (by decide) ?_)
        refine' Sp.cons (S1.assign (d := pr y) (fun own => ?ev) (.inl rfl) (by decide) ?rest)
        case ev =>
          refine' Ev.item (ds := l'.map pr) (k := ((k / 2 : Nat) : Int)) (b₁ := false) (b₂ := true) ?a ?b ?c ?d ?e ?f
          case a => walk_at "ev"
          case b => walk_at "ev"
          case c => omega
          case d => omega
          case e => rw [Int.toNat_natCast, List.getElem?_map, hy]; rfl
          case f => intro _ _; rfl
        refine' Sp.cons (S1.ife (b := ltp x y) (fun own => ?tr) (fun hb => ?_) fun hb => ?_)
        case tr => walk_at "tr"
        · refine' Sp.cons (S1.setAt (d := pr y) (k := ((k + 1 : Nat) : Int)) (ds := l'.map pr) ?a (by decide) (by decide) (fun own => ?b) (fun own => ?c) (by omega) (by simp; omega) (by rw [List.length_map]; omega) ?_)
          case a => walk_at "nm"
          case b => walk_at "ev"
          case c => walk_at "ev"
          refine' Sp.cons (S1.assign (d := .int ((k / 2 : Nat) : Int)) (fun own => ?e) (.inl rfl) (by decide) ?_)
          case e => walk_at "ev"
          refine' Sp.cons (S1.cont ⟨k / 2, by omega, l'.set (k + 1) y, ?_, ?a, ?b, ?c, rfl, by rw [List.length_set]; omega, by rw [List.length_set]; exact h6, ?_⟩)
          case a => walk_at "nm"
          case b => walk_at "nm"
          case c => walk_at "nm"
          · rw [Gam.set_ne (by decide), Gam.set_eq]
            simp [List.map_set]
          · rw [← h7, sdown, hg, hb, if_pos rfl]
        · refine' Sp.nil (Sp.cons (S1.brk ⟨l', k + 1, ?a, ?b, ?c, rfl, h5, h6, ?_⟩))
          case a => walk_at "nm"
          case b => walk_at "nm"
          case c => walk_at "nm"
          rw [← h7, sdown, hg, hb, if_neg (by simp)]
      · have hk : k = 0 := by simpa using hb
        subst hk
        refine ⟨l', 0, h1, h2, h4, rfl, h5, h6, ?_⟩
        rw [← h7, sdown]
    case fin =>
      rintro Γ' Ω' ⟨l', p, h1, h2, h3, rfl, h4, h5, h6⟩
      refine Sp.cons (S1.setAt (d := pr x) (k := p) h1 (by decide) (by decide) (fun own => by walk_at "ev") (fun own => by walk_at "ev") (by omega) (by simpa using h4) (by rw [List.length_map]; omega) ?_)
      refine Sp.nil ⟨.inr ⟨rfl, rfl⟩, ?_, by decide⟩
      rw [Gam.set_eq, ← h6]
      simp [List.map_set]

theorem siftup_c {w : World} {loose mean mg mb} {l : List (Int × Int)} (hl : 0 < l.length) (hz : l.length ≤ 1000) :
    LendC (amb w loose mean mg mb) 67 1 (.lst (l.map pr)) [(true, .int 0)] [] [] (.lst ((sup l).map pr)) .none := by
  obtain ⟨x, hx⟩ : ∃ x, l[0]? = some x := ⟨_, List.getElem?_eq_getElem hl⟩
  have hx0 : l.getD 0 (0, 0) = x := by simp [List.getD, hx]
  refine' LendC.of (y := Str.ofString "heap") (rs' := [(Str.ofString "pos", (true, .int 0))]) (mods' := [Str.ofString "heap"]) ⟨?ho, ?hcd, ?hco, ?hgen, ?hk⟩ ?hcell ?hloc ?hfz ?hb ?hbody
  case ho => show (hd.heap_1 w.params).lookup 67 = some _; k_is
  case hcd => show codeIn (hd.heap_1 w.params) _ _ = true; k_is
  case hco => rfl
  case hgen => rfl
  case hk => rfl
  case hcell => decide
  case hloc => simp only [List.forall_mem_cons]; refine ⟨⟨rfl, by decide⟩, ⟨rfl, by decide⟩, ?_⟩; intro _ h; nomatch h
  case hfz => simp
  case hb =>
    intro s W v₀ vs ks hX hv hk
    obtain rfl := hk.e0
    obtain ⟨v1, rfl, h1⟩ := hv.e1
    exact ⟨[(_, _)], BindsTo.of_eq rfl, .cons h1 .nil⟩
  case hbody =>
    intro β hlv hlent
    refine' Sp.cons (S1.assign (d := .int ((l.map pr).length : Nat)) (fun own => ?ev) (.inl rfl) (by decide) ?_)
    case ev =>
      refine' Ev.lenOf (b₁ := false) (Glob1.act rfl rfl) ?a ?b
      case a => walk_at "ev"
      case b => rw [List.length_map]; omega
    rw [List.length_map]
    refine' Sp.cons (S1.assign (d := .int 0) (fun own => ?ev) (.inl rfl) (by decide) ?_)
    case ev => walk_at "ev"
    refine' Sp.cons (S1.assign (d := pr x) (fun own => ?ev) (.inl rfl) (by decide) ?_)
    case ev =>
      refine' Ev.itemP (k := 0) (b₁ := false) (b₂ := true) (l := l) ?a ?b hx hz
      case a => walk_at "ev"
      case b => walk_at "ev"
    refine' Sp.cons (S1.assign (d := .int 1) (fun own => ?ev) (.inl rfl) (by decide) ?_)
    case ev => walk_at "ev"
    refine Sp.step (fun Γ' Ω' => Γ' "heap" = some (false, .lst ((supGo l 0).1.map pr)) ∧ Γ' "pos" = some (true, .int ((supGo l 0).2 : Nat)) ∧ Γ' "newitem" = some (true, pr x) ∧ Γ' "startpos" = some (true, .int 0) ∧ Ω' = [Str.ofString "heap"]) ?loop ?fin
    case loop =>
      refine S1.while (fun k Γ' Ω' => ∃ (l' : List (Int × Int)) (p : Nat), k = l.length - p ∧ Γ' "heap" = some (false, .lst (l'.map pr)) ∧ Γ' "pos" = some (true, .int (p : Nat)) ∧ Γ' "childpos" = some (true, .int ((2 * p + 1 : Nat) : Int)) ∧ Γ' "newitem" = some (true, pr x) ∧ Γ' "startpos" = some (true, .int 0) ∧ Γ' "endpos" = some (true, .int (l.length : Nat)) ∧ Ω' = [Str.ofString "heap"] ∧ p < l'.length ∧ l'.length = l.length ∧ supGo l' p = supGo l 0) l.length ?init ?turn
      case init => exact ⟨l, 0, rfl, by walk_at "nm", by walk_at "nm", by walk_at "nm", by walk_at "nm", by walk_at "nm", by walk_at "nm", rfl, hl, rfl, rfl⟩
      case turn =>
        rintro k Γ' Ω' ⟨l', p, rfl, h1, h2, h3, h4, h5, h6, rfl, h7, h8, h9⟩
        refine ⟨decide (((2 * p + 1 : Nat) : Int) < ((l.length : Nat) : Int)), fun own => by walk_at "tr", fun hb => ?_, fun hb => ?_⟩
        · have hc : 2 * p + 1 < l'.length := by have := of_decide_eq_true hb; omega
          obtain ⟨y, hy⟩ : ∃ y, l'[2 * p + 1]? = some y := ⟨_, List.getElem?_eq_getElem hc⟩
          have hy0 : l'.getD (2 * p + 1) (0, 0) = y := by simp [List.getD, hy]
          refine' Sp.cons (S1.assign (d := .int ((2 * p + 2 : Nat) : Int)) (fun own => ?ev) (.inl rfl) (by decide) ?_)
          case ev =>
            have e1 : ((2 * p + 2 : Nat) : Int) = ((2 * p + 1 : Nat) : Int) + 1 := by omega
            rw [e1]
            walk_at "ev"
          obtain ⟨c, hcdef⟩ : ∃ c, c = if 2 * p + 2 < l'.length ∧ ltp (l'.getD (2 * p + 1) (0, 0)) (l'.getD (2 * p + 2) (0, 0)) = false then 2 * p + 2 else 2 * p + 1 := ⟨_, rfl⟩
          have hcl : c < l'.length ∧ p < c := by rw [hcdef]; split <;> omega
          have hgo : supGo l' p = supGo (l'.set p (l'.getD c (0, 0))) c := by
            rw [supGo, dif_pos hc, hcdef]
          refine Sp.step (fun Γ₂ Ω₂ => Γ₂ "heap" = some (false, .lst (l'.map pr)) ∧ Γ₂ "pos" = some (true, .int (p : Nat)) ∧ Γ₂ "childpos" = some (true, .int (c : Nat)) ∧ Γ₂ "newitem" = some (true, pr x) ∧ Γ₂ "startpos" = some (true, .int 0) ∧ Γ₂ "endpos" = some (true, .int (l.length : Nat)) ∧ Ω₂ = [Str.ofString "heap"]) ?br ?aft
          case br =>
            by_cases hr : 2 * p + 2 < l'.length
            · obtain ⟨z, hz'⟩ : ∃ z, l'[2 * p + 2]? = some z := ⟨_, List.getElem?_eq_getElem hr⟩
              have hz0 : l'.getD (2 * p + 2) (0, 0) = z := by simp [List.getD, hz']
              refine' S1.ife (b := decide (((2 * p + 2 : Nat) : Int) < ((l.length : Nat) : Int)) && ((!(ltp y z)) && true)) (fun own => ?tr) (fun hb => ?_) (fun hb => ?_)
              case tr =>
                refine' Tr.and ?t1 (fun _ => Tr.and ?t2 (fun _ => Tr.andNil))
                case t1 => walk_at "tr"
                case t2 =>
                  refine' Tr.not (Tr.cmp (r₁ := (true, pr y)) (r₂ := (true, pr z)) ?u1 ?u2 Op2.ltPair)
                  case u1 =>
                    refine' Ev.itemP (k := 2 * p + 1) (b₁ := false) (b₂ := true) (l := l') ?a ?b hy (by omega)
                    case a => walk_at "ev"
                    case b => walk_at "ev"
                  case u2 =>
                    refine' Ev.itemP (k := 2 * p + 2) (b₁ := false) (b₂ := true) (l := l') ?a ?b hz' (by omega)
                    case a => walk_at "ev"
                    case b => walk_at "ev"
              · have hcc : c = 2 * p + 2 := by
                  rw [hcdef, hy0, hz0, if_pos]
                  simp only [Bool.and_true, Bool.and_eq_true, Bool.not_eq_true'] at hb
                  exact ⟨hr, hb.2⟩
                refine' Sp.cons (S1.assign (d := .int ((2 * p + 2 : Nat) : Int)) (fun own => ?ev) (.inl rfl) (by decide) (Sp.nil ?_))
                case ev => walk_at "ev"
                rw [hcc]
                exact ⟨by walk_at "nm", by walk_at "nm", by walk_at "nm", by walk_at "nm", by walk_at "nm", by walk_at "nm", rfl⟩
              · have hcc : c = 2 * p + 1 := by
                  rw [hcdef, hy0, hz0, if_neg]
                  rintro ⟨q1, q2⟩
                  rw [q2] at hb
                  have : decide (((2 * p + 2 : Nat) : Int) < ((l.length : Nat) : Int)) = true := by simp; omega
                  rw [this] at hb
                  cases hb
                rw [hcc]
                exact Sp.nil ⟨by walk_at "nm", by walk_at "nm", by walk_at "nm", by walk_at "nm", by walk_at "nm", by walk_at "nm", rfl⟩
            · have hcc : c = 2 * p + 1 := by rw [hcdef, if_neg (fun q => hr q.1)]
              refine' S1.ife (b := decide (((2 * p + 2 : Nat) : Int) < ((l.length : Nat) : Int)) && false) (fun own => ?tr) (fun hb => ?_) (fun hb => ?_)
              case tr =>
                refine' Tr.and ?t1 (fun q => ?t2)
                case t1 => walk_at "tr"
                case t2 =>
                  exfalso
                  have := of_decide_eq_true q
                  omega
              · simp at hb
              · rw [hcc]
                exact Sp.nil ⟨by walk_at "nm", by walk_at "nm", by walk_at "nm", by walk_at "nm", by walk_at "nm", by walk_at "nm", rfl⟩
          case aft =>
            rintro Γ₂ Ω₂ ⟨g1, g2, g3, g4, g5, g6, rfl⟩
            obtain ⟨v, hv⟩ : ∃ v, l'[c]? = some v := ⟨_, List.getElem?_eq_getElem hcl.1⟩
            have hv0 : l'.getD c (0, 0) = v := by simp [List.getD, hv]
            rw [hv0] at hgo
            refine' Sp.cons (S1.setAtP (l := l') (y := v) (k := p) (b := true) g1 (by decide) (by decide) (fun own => ?e1) (fun own => ?e2) h7 (by omega) ?_)
            case e1 =>
              refine' Ev.itemP (k := c) (b₁ := false) (b₂ := true) (l := l') ?a ?b hv (by omega)
              case a => walk_at "ev"
              case b => walk_at "ev"
            case e2 => walk_at "ev"
            refine' Sp.cons (S1.assign (d := .int (c : Nat)) (fun own => ?ev) (.inl rfl) (by decide) ?_)
            case ev => walk_at "ev"
            refine' Sp.cons (S1.assign (d := .int ((2 * c + 1 : Nat) : Int)) (fun own => ?ev) (.inl rfl) (by decide) (Sp.nil ?_))
            case ev =>
              have e1 : ((2 * c + 1 : Nat) : Int) = 2 * ((c : Nat) : Int) + 1 := by omega
              rw [e1]
              walk_at "ev"
            exact ⟨l.length - c, by omega, l'.set p v, c, rfl, by walk_at "nm", by walk_at "nm", by walk_at "nm", by walk_at "nm", by walk_at "nm", by walk_at "nm", rfl, by rw [List.length_set]; exact hcl.1, by rw [List.length_set]; exact h8, by rw [← hgo]; exact h9⟩
        · have hc : ¬ 2 * p + 1 < l'.length := by have := of_decide_eq_false hb; omega
          have : supGo l' p = (l', p) := by rw [supGo, dif_neg hc]
          rw [this] at h9
          rw [← h9]
          exact ⟨h1, h2, h4, h5, rfl⟩
    case fin =>
      rintro Γ' Ω' ⟨h1, h2, h3, h4, rfl⟩
      obtain ⟨q1, q2⟩ := supGo_length l 0
      have q3 := q2 hl
      refine' Sp.cons (S1.setAtP (l := (supGo l 0).1) (y := x) (k := (supGo l 0).2) (b := true) h1 (by decide) (by decide) (fun own => ?e1) (fun own => ?e2) (by omega) (by omega) ?_)
      case e1 => walk_at "ev"
      case e2 => walk_at "ev"
      refine' Sp.cons (S1.lend (rs := [(true, .int 0), (true, .int ((supGo l 0).2 : Nat))]) (fun own => Glob1.act rfl rfl) ?kk (fun own => ?em) (siftdown_c (pos := (supGo l 0).2) (x := x) (l := (supGo l 0).1.set (supGo l 0).2 x) ?hx ?hz) (by omega) (by walk_at "nm") (by decide) (by decide) ?_)
      case kk => show keepIn (hd.heap_1 w.params) _ = true; k_is
      case em => walk_at "em"
      case hx => rw [List.getElem?_set_self (by omega)]
      case hz => rw [List.length_set]; omega
      refine Sp.nil ⟨.inr ⟨rfl, rfl⟩, ?_, by decide⟩
      rw [Gam.set_eq]
      unfold sup
      rw [hx0]

theorem heappush_c {w : World} {loose mean mg mb} {l : List (Int × Int)} {x : Int × Int} (hz : l.length < 1000) :
    LendC (amb w loose mean mg mb) 39 1 (.lst (l.map pr)) [(true, pr x)] [] [] (.lst ((sdown x l.length (l ++ [x])).map pr)) .none := by
  refine' LendC.of (y := Str.ofString "heap") (rs' := [(Str.ofString "item", (true, pr x))]) (mods' := [Str.ofString "heap"]) ⟨?ho, ?hcd, ?hco, ?hgen, ?hk⟩ ?hcell ?hloc ?hfz ?hb ?hbody
  case ho => show (hd.heap_1 w.params).lookup 39 = some _; k_is
  case hcd => show codeIn (hd.heap_1 w.params) _ _ = true; k_is
  case hco => rfl
  case hgen => rfl
  case hk => rfl
  case hcell => decide
  case hloc => simp only [List.forall_mem_cons]; refine ⟨⟨rfl, by decide⟩, ⟨rfl, by decide⟩, ?_⟩; intro _ h; nomatch h
  case hfz => simp
  case hb =>
    intro s W v₀ vs ks hX hv hk
    obtain rfl := hk.e0
    obtain ⟨v1, rfl, h1⟩ := hv.e1
    exact ⟨[(_, _)], BindsTo.of_eq rfl, .cons h1 .nil⟩
  case hbody =>
    intro β hlv hlent
    refine' Sp.cons (S1.append (ds := l.map pr) (d := pr x) ?a (by decide) (by decide) (fun own => ?b) (by rw [List.length_map]; unfold sizeLine; omega) ?_)
    case a => walk_at "nm"
    case b => walk_at "ev"
    have e1 : l.map pr ++ [pr x] = (l ++ [x]).map pr := by simp
    rw [e1]
    have e2 : ((((l ++ [x]).map pr).length : Nat) : Int) - 1 = ((l.length : Nat) : Int) := by simp
    refine' Sp.cons (S1.lend (rs := [(true, .int 0), (true, .int (l.length : Nat))]) (fun own => Glob1.act rfl rfl) ?kk (fun own => ?em) (siftdown_c (pos := l.length) (x := x) (l := l ++ [x]) ?hx ?hz) (by omega) (by walk_at "nm") (by decide) (by decide) ?_)
    case kk => show keepIn (hd.heap_1 w.params) _ = true; k_is
    case em =>
      rw [← e2]
      refine' EvM.cons ?h1 (EvM.cons (Ev.bin (r₁ := (true, .int (((l ++ [x]).map pr).length : Nat))) (r₂ := (true, .int 1)) ?h2 ?h3 Op2.sub) EvM.nil)
      case h1 => walk_at "ev"
      case h2 =>
        refine' Ev.lenOf (b₁ := false) (Glob1.act rfl rfl) ?a ?b
        case a => walk_at "ev"
        case b => simp; omega
      case h3 => walk_at "ev"
    case hx => simp
    case hz => simp; omega
    refine Sp.nil ⟨.inr ⟨rfl, rfl⟩, ?_, by decide⟩
    rw [Gam.set_eq]
theorem heappop_c {w : World} {loose mean mg mb} {l : List (Int × Int)} {z : Int × Int} (hz : l.length < 1000) :
    LendC (amb w loose mean mg mb) 46 2 (.lst ((l ++ [z]).map pr)) [] [] [] (.lst ((hpop (l ++ [z])).2.map pr)) (pr (hpop (l ++ [z])).1) := by
  refine' LendC.of (y := Str.ofString "heap") (rs' := []) (mods' := [Str.ofString "heap"]) ⟨?ho, ?hcd, ?hco, ?hgen, ?hk⟩ ?hcell ?hloc ?hfz ?hb ?hbody
  case ho => show (hd.heap_1 w.params).lookup 46 = some _; k_is
  case hcd => show codeIn (hd.heap_1 w.params) _ _ = true; k_is
  case hco => rfl
  case hgen => rfl
  case hk => rfl
  case hcell => decide
  case hloc => simp only [List.forall_mem_cons]; refine ⟨⟨rfl, by decide⟩, ?_⟩; intro _ h; nomatch h
  case hfz => simp
  case hb =>
    intro s W v₀ vs ks hX hv hk
    obtain rfl := hk.e0
    obtain rfl := hv.e0
    exact ⟨[], BindsTo.of_eq rfl, .nil⟩
  case hbody =>
    intro β hlv hlent
    refine' Sp.cons (S1.assignPop (ds := l.map pr) (d := pr z) ?a (by decide) (by decide) (by rw [List.length_map]; unfold sizeLine; omega) (.inl rfl) (by decide) ?_)
    case a =>
      have : l.map pr ++ [pr z] = (l ++ [z]).map pr := by simp
      rw [this]
      walk_at "nm"
    cases l with
    | nil =>
      refine' Sp.cons (S1.ife (b := false) (fun own => ?tr) (fun hb => by cases hb) (fun _ => Sp.nil ?_))
      case tr =>
        refine' Tr.plain (r := (false, .lst [])) ?t1 (Truthy.lst (by simp))
        case t1 => walk_at "ev"
      refine' Sp.cons (S1.ret (d := pr z) (fun own => ?e) ?_)
      case e => walk_at "ev"
      exact ⟨.inl rfl, by walk_at "nm", by decide⟩
    | cons y l =>
      refine' Sp.cons (S1.ife (b := true) (fun own => ?tr) (fun _ => ?_) (fun hb => by cases hb))
      case tr =>
        refine' Tr.plain (r := (false, .lst ((y :: l).map pr))) ?t1 (Truthy.lst (by simp at hz ⊢; omega))
        case t1 => walk_at "ev"
      refine' Sp.cons (S1.assign (d := pr y) (fun own => ?ev) (.inl rfl) (by decide) ?_)
      case ev =>
        refine' Ev.itemP (k := 0) (b₁ := false) (b₂ := true) (l := y :: l) ?a ?b rfl (by simp at hz ⊢; omega)
        case a => walk_at "ev"
        case b => walk_at "ev"
      refine' Sp.cons (S1.setAtP (l := y :: l) (y := z) (k := 0) (b := true) ?a (by decide) (by decide) (fun own => ?e1) (fun own => ?e2) (by simp) (by simp at hz ⊢; omega) ?_)
      case a => walk_at "nm"
      case e1 => walk_at "ev"
      case e2 => walk_at "ev"
      refine' Sp.cons (S1.lend (rs := [(true, .int 0)]) (fun own => Glob1.act rfl rfl) ?kk (fun own => ?em) (siftup_c (l := z :: l) (by simp) (by simp at hz ⊢; omega)) (by omega) (by walk_at "nm") (by decide) (by decide) ?_)
      case kk => show keepIn (hd.heap_1 w.params) _ = true; k_is
      case em => walk_at "em"
      refine' Sp.cons (S1.ret (d := pr y) (fun own => ?e) ?_)
      case e => walk_at "ev"
      have e3 : hpop (y :: l ++ [z]) = (y, sup (z :: l)) := by
        unfold hpop
        rw [List.dropLast_concat, List.getLast?_concat]; rfl
      rw [e3]
      exact ⟨.inl rfl, by walk_at "nm", by decide⟩
theorem heapreplace_c {w : World} {loose mean mg mb} {l : List (Int × Int)} {y x : Int × Int} (hz : l.length < 1000) :
    LendC (amb w loose mean mg mb) 53 2 (.lst ((y :: l).map pr)) [(true, pr x)] [] [] (.lst ((sup (x :: l)).map pr)) (pr y) := by
  refine' LendC.of (y := Str.ofString "heap") (rs' := [(Str.ofString "item", (true, pr x))]) (mods' := [Str.ofString "heap"]) ⟨?ho, ?hcd, ?hco, ?hgen, ?hk⟩ ?hcell ?hloc ?hfz ?hb ?hbody
  case ho => show (hd.heap_1 w.params).lookup 53 = some _; k_is
  case hcd => show codeIn (hd.heap_1 w.params) _ _ = true; k_is
  case hco => rfl
  case hgen => rfl
  case hk => rfl
  case hcell => decide
  case hloc => simp only [List.forall_mem_cons]; refine ⟨⟨rfl, by decide⟩, ⟨rfl, by decide⟩, ?_⟩; intro _ h; nomatch h
  case hfz => simp
  case hb =>
    intro s W v₀ vs ks hX hv hk
    obtain rfl := hk.e0
    obtain ⟨v1, rfl, h1⟩ := hv.e1
    exact ⟨[(_, _)], BindsTo.of_eq rfl, .cons h1 .nil⟩
  case hbody =>
    intro β hlv hlent
    refine' Sp.cons (S1.assign (d := pr y) (fun own => ?ev) (.inl rfl) (by decide) ?_)
    case ev =>
      refine' Ev.itemP (k := 0) (b₁ := false) (b₂ := true) (l := y :: l) ?a ?b rfl (by simp at hz ⊢; omega)
      case a => walk_at "ev"
      case b => walk_at "ev"
    refine' Sp.cons (S1.setAtP (l := y :: l) (y := x) (k := 0) (b := true) ?a (by decide) (by decide) (fun own => ?e1) (fun own => ?e2) (by simp) (by simp at hz ⊢; omega) ?_)
    case a => walk_at "nm"
    case e1 => walk_at "ev"
    case e2 => walk_at "ev"
    refine' Sp.cons (S1.lend (rs := [(true, .int 0)]) (fun own => Glob1.act rfl rfl) ?kk (fun own => ?em) (siftup_c (l := x :: l) (by simp) (by simp at hz ⊢; omega)) (by omega) (by walk_at "nm") (by decide) (by decide) ?_)
    case kk => show keepIn (hd.heap_1 w.params) _ = true; k_is
    case em => walk_at "em"
    refine' Sp.cons (S1.ret (d := pr y) (fun own => ?e) ?_)
    case e => walk_at "ev"
    exact ⟨.inl rfl, by walk_at "nm", by decide⟩

noncomputable abbrev emb (ds : List (Int × Int)) : List (Int × D) := ds.map fun p => (p.1, D.int p.2)

theorem count_calls_c {w : World} {loose mean mg mb} {ds : List (Int × Int)} :
    PureC (amb w loose mean mg mb) 116 0 [(true, .dct (emb ds))] [] [] (.int (ds.map (·.2)).sum) := by
  refine' PureC.of (rs' := [(Str.ofString "callers", (true, .dct (emb ds)))]) (mods' := []) ⟨?ho, ?hcd, ?hco, ?hgen, ?hk⟩ ?hcell ?hloc ?hb ?hbody
  case ho => show (hd.heap_1 w.params).lookup 116 = some _; k_is
  case hcd => show codeIn (hd.heap_1 w.params) _ _ = true; k_is
  case hco => rfl
  case hgen => rfl
  case hk => rfl
  case hcell => decide
  case hloc => simp only [List.forall_mem_cons]; refine ⟨⟨rfl, by decide⟩, ?_⟩; intro _ h; nomatch h
  case hb =>
    intro s W vs ks hX hv hk
    obtain rfl := hk.e0
    obtain ⟨v1, rfl, h1⟩ := hv.e1
    exact ⟨[(_, _)], BindsTo.of_eq rfl, .cons h1 .nil⟩
  case hbody =>
    intro β hlv hlent
    refine' Sp.cons (S1.assign (d := .int 0) (fun own => ?ev) (.inl rfl) (by decide) ?_)
    case ev => walk_at "ev"
    refine Sp.step (fun Γ' Ω' => Γ' "nc" = some (true, .int (ds.map (·.2)).sum)) ?loop ?fin
    case loop =>
      refine' S1.for (mods' := []) (ds := (emb ds).map fun p => p.2) (fun i Γ' Ω' => Γ' "nc" = some (true, .int ((ds.take i).map (·.2)).sum) ∧ Ω' = []) (ItA.of fun own => EvI.values ?it) ?h0 ?turn ?fn
      case it => walk_at "ev"
      case h0 => exact ⟨by walk_at "nm", rfl⟩
      case turn =>
        rintro i d Γ' Ω' hd ⟨h1, rfl⟩
        rw [List.map_map, List.getElem?_map] at hd
        obtain ⟨p, hp, rfl⟩ := Option.map_eq_some_iff.mp hd
        refine ⟨_, .name (.inl rfl) (by decide) (by decide), fun I => ?_⟩
        refine' Sp.cons (S1.iadd (i := ((ds.take i).map (·.2)).sum) (j := p.2) (b := true) ?a (fun own => ?b) (.inl rfl) (by decide) (Sp.nil ?_))
        case a => walk_at "nm"
        case b => walk_at "ev"
        refine ⟨?_, rfl⟩
        rw [Gam.set_eq, List.take_add_one, hp]
        simp
      case fn =>
        rintro Γ' Ω' ⟨h1, rfl⟩
        rw [List.take_of_length_le (by simp)] at h1
        exact h1
    case fin =>
      rintro Γ' Ω' h1
      refine' Sp.cons (S1.ret (d := .int (ds.map (·.2)).sum) (fun own => ?e) (.inl rfl))
      case e => walk_at "ev"

theorem add_callers_c {w : World} {loose mean mg mb} {tg src : List (Int × Int)} (ht : tg.length ≤ 1) (hs : src.length ≤ 1) (h0 : tg = [] ∨ src = []) :
    PureC (amb w loose mean mg mb) 109 0 [(true, .dct (emb tg)), (true, .dct (emb src))] [] [] (.dct (emb (tg ++ src))) := by
  refine' PureC.of (rs' := [(Str.ofString "target", (true, .dct (emb tg))), (Str.ofString "source", (true, .dct (emb src)))]) (mods' := [Str.ofString "new_callers"]) ⟨?ho, ?hcd, ?hco, ?hgen, ?hk⟩ ?hcell ?hloc ?hb ?hbody
  case ho => show (hd.heap_1 w.params).lookup 109 = some _; k_is
  case hcd => show codeIn (hd.heap_1 w.params) _ _ = true; k_is
  case hco => rfl
  case hgen => rfl
  case hk => rfl
  case hcell => decide
  case hloc => simp only [List.forall_mem_cons]; refine ⟨⟨rfl, by decide⟩, ⟨rfl, by decide⟩, ?_⟩; intro _ h; nomatch h
  case hb =>
    intro s W vs ks hX hv hk
    obtain rfl := hk.e0
    obtain ⟨v1, v2, rfl, h1, h2⟩ := hv.e2
    exact ⟨[(_, _), (_, _)], BindsTo.of_eq rfl, .cons h1 (.cons h2 .nil)⟩
  case hbody =>
    intro β hlv hlent
    refine' Sp.cons (S1.assignOwn (d := .dct []) EvN.dict0 (.inl rfl) (by decide) (fun d h => by have : (none : Option (Bool × D)) = some (false, d) := h; cases this) ?_)
    refine Sp.step (fun Γ' Ω' => Γ' "new_callers" = some (false, .dct (emb tg)) ∧ Γ' "source" = some (true, .dct (emb src)) ∧ Ω' = [Str.ofString "new_callers"]) ?loop ?fin
    case loop =>
      refine' S1.for (mods' := [Str.ofString "new_callers"]) (ds := (emb tg).map fun p => D.tup [.int p.1, p.2]) (fun i Γ' Ω' => Γ' "new_callers" = some (false, .dct (emb (tg.take i))) ∧ Γ' "source" = some (true, .dct (emb src)) ∧ Ω' = [Str.ofString "new_callers"]) (ItA.of fun own => EvI.items ?it) ?h0 ?turn ?fn
      case it => walk_at "ev"
      case h0 => exact ⟨by walk_at "nm", by walk_at "nm", rfl⟩
      case turn =>
        rintro i d Γ' Ω' hd ⟨h1, h2, rfl⟩
        rw [List.map_map, List.getElem?_map] at hd
        obtain ⟨p, hp, rfl⟩ := Option.map_eq_some_iff.mp hd
        have hi : i = 0 := by have := (List.getElem?_eq_some_iff.mp hp).1; omega
        subst hi
        refine ⟨_, .tup2 (.inl rfl) (by decide) (by decide) (.inl rfl) (by decide) (by decide), fun I => ?_⟩
        refine' Sp.cons (S1.setKey (kvs := emb (tg.take 0)) (k := p.1) (d := .int p.2) (b := true) ?a (by decide) (by decide) (fun own => ?b) (fun own => ?c) (by simp [emb]) (Sp.nil ?_))
        case a => walk_at "nm"
        case b => walk_at "ev"
        case c => walk_at "ev"
        refine ⟨?_, by walk_at "nm", rfl⟩
        rw [Gam.set_eq, List.take_add_one, hp]
        rfl
      case fn =>
        rintro Γ' Ω' ⟨h1, h2, rfl⟩
        rw [List.take_of_length_le (by simp)] at h1
        exact ⟨h1, h2, rfl⟩
    case fin =>
      rintro Γ' Ω' ⟨h1, h2, rfl⟩
      refine Sp.step (fun Γ' Ω' => Γ' "new_callers" = some (false, .dct (emb (tg ++ src))) ∧ Ω' = [Str.ofString "new_callers"]) ?loop2 ?fin2
      case loop2 =>
        refine' S1.for (mods' := [Str.ofString "new_callers"]) (ds := (emb src).map fun p => D.tup [.int p.1, p.2]) (fun i Γ' Ω' => Γ' "new_callers" = some (false, .dct (emb (tg ++ src.take i))) ∧ Ω' = [Str.ofString "new_callers"]) (ItA.of fun own => EvI.items ?it) ?h0 ?turn ?fn
        case it => walk_at "ev"
        case h0 => exact ⟨by rw [List.take_zero, List.append_nil]; exact h1, rfl⟩
        case turn =>
          rintro i d Γ' Ω' hd ⟨h1, rfl⟩
          rw [List.map_map, List.getElem?_map] at hd
          obtain ⟨p, hp, rfl⟩ := Option.map_eq_some_iff.mp hd
          have hi : i = 0 := by have := (List.getElem?_eq_some_iff.mp hp).1; omega
          subst hi
          have htg : tg = [] := by
            rcases h0 with h | h
            · exact h
            · rw [h] at hp; simp at hp
          subst htg
          have h1' : Γ' "new_callers" = some (false, .dct []) := h1
          clear h1
          refine ⟨_, .tup2 (.inl rfl) (by decide) (by decide) (.inl rfl) (by decide) (by decide), fun I => ?_⟩
          refine' Sp.cons (S1.ife (b := false) (fun own => ?tr) (fun hb => by cases hb) (fun _ => ?_))
          case tr =>
            refine' Tr.cmp (r₁ := (true, .int p.1)) (r₂ := (false, .dct [])) ?t1 ?t2 Op2.inDict
            case t1 => walk_at "ev"
            case t2 => walk_at "ev"
          refine' Sp.cons (S1.setKey (kvs := []) (k := p.1) (d := .int p.2) (b := true) ?a (by decide) (by decide) (fun own => ?b) (fun own => ?c) (by simp) (Sp.nil (Sp.nil ?_)))
          case a => walk_at "nm"
          case b => walk_at "ev"
          case c => walk_at "ev"
          refine ⟨?_, rfl⟩
          rw [Gam.set_eq, List.take_add_one, hp]
          rfl
        case fn =>
          rintro Γ' Ω' ⟨h1, rfl⟩
          rw [List.take_of_length_le (by simp)] at h1
          exact ⟨h1, rfl⟩
      case fin2 =>
        rintro Γ' Ω' ⟨h1, rfl⟩
        refine' Sp.cons (S1.retOwn h1 (by decide) (by rw [hlent]; simp) (.inl rfl))

theorem add_func_stats_c {w : World} {loose mean mg mb} {a b c d a' b' c' d' : Int} {tg src : List (Int × Int)} (ht : tg.length ≤ 1) (hs : src.length ≤ 1) (h0 : tg = [] ∨ src = []) :
    PureC (amb w loose mean mg mb) 102 1 [(true, bk a b c d tg), (true, bk a' b' c' d' src)] [] [] (bk (a' + a) (b' + b) (c' + c) (d' + d) (tg ++ src)) := by
  refine' PureC.of (rs' := [(Str.ofString "target", (true, bk a b c d tg)), (Str.ofString "source", (true, bk a' b' c' d' src))]) (mods' := []) ⟨?ho, ?hcd, ?hco, ?hgen, ?hk⟩ ?hcell ?hloc ?hb ?hbody
  case ho => show (hd.heap_1 w.params).lookup 102 = some _; k_is
  case hcd => show codeIn (hd.heap_1 w.params) _ _ = true; k_is
  case hco => rfl
  case hgen => rfl
  case hk => rfl
  case hcell => decide
  case hloc => simp only [List.forall_mem_cons]; refine ⟨⟨rfl, by decide⟩, ⟨rfl, by decide⟩, ?_⟩; intro _ h; nomatch h
  case hb =>
    intro s W vs ks hX hv hk
    obtain rfl := hk.e0
    obtain ⟨v1, v2, rfl, h1, h2⟩ := hv.e2
    exact ⟨[(_, _), (_, _)], BindsTo.of_eq rfl, .cons h1 (.cons h2 .nil)⟩
  case hbody =>
    intro β hlv hlent
    refine' Sp.cons (S1.assignT (d := bk a' b' c' d' src) (fun own => ?ev) (.tup5 (.inl rfl) (by decide) (by decide) (.inl rfl) (by decide) (by decide) (.inl rfl) (by decide) (by decide) (.inl rfl) (by decide) (by decide) (.inl rfl) (by decide) (by decide)) ?_)
    case ev => walk_at "ev"
    refine' Sp.cons (S1.assignT (d := bk a b c d tg) (fun own => ?ev) (.tup5 (.inl rfl) (by decide) (by decide) (.inl rfl) (by decide) (by decide) (.inl rfl) (by decide) (by decide) (.inl rfl) (by decide) (by decide) (.inl rfl) (by decide) (by decide)) ?_)
    case ev => walk_at "ev"
    refine' Sp.cons (S1.ret (d := bk (a' + a) (b' + b) (c' + c) (d' + d) (tg ++ src)) (fun own => ?e) (.inl rfl))
    case e =>
      refine' Ev.tuple (EvL.cons ?e1 (EvL.cons ?e2 (EvL.cons ?e3 (EvL.cons ?e4 (EvL.cons ?e5 EvL.nil)))))
      case e1 => walk_at "ev"
      case e2 => walk_at "ev"
      case e3 => walk_at "ev"
      case e4 => walk_at "ev"
      case e5 =>
        refine' Ev.call (rs := [(true, .dct (emb tg)), (true, .dct (emb src))]) (Glob1.act rfl rfl) ?kk ?em (add_callers_c ht hs h0) (by omega)
        case kk => show keepIn (hd.heap_1 w.params) _ = true; k_is
        case em => walk_at "em"

noncomputable abbrev bkd (b : Bk) : D := bk b.cc b.nc b.tt b.ct b.cal
noncomputable abbrev BD (bs : List (Int × Bk)) : List (Int × D) := bs.map fun p => (p.1, bkd p.2)
theorem look_BD (bs : List (Int × Bk)) (k : Int) : look (BD bs) k = (bget bs k).map bkd := by
  unfold look bget BD
  induction bs with
  | nil => rfl
  | cons p bs ih =>
    rw [List.map_cons, List.find?_cons, List.find?_cons]
    by_cases h : p.1 = k
    · simp [h]
    · simp only [h, decide_false]; exact ih
theorem any_BD (bs : List (Int × Bk)) (k : Int) : (BD bs).any (fun e => e.1 = k) = (bget bs k).isSome := by
  unfold bget BD
  induction bs with
  | nil => rfl
  | cons p bs ih =>
    rw [List.map_cons, List.any_cons, List.find?_cons]
    by_cases h : p.1 = k
    · simp [h]
    · simp only [h, decide_false, Bool.false_or]; exact ih
theorem stor_BD {bs : List (Int × Bk)} {k : Int} {b b' : Bk} (h : bget bs k = some b) : stor (BD bs) k (bkd b') = BD (bset bs k b') := by
  unfold stor
  rw [any_BD, h]
  simp only [Option.isSome_some, if_true]
  unfold BD bset
  rw [List.map_map, List.map_map]
  apply List.map_congr_left
  intro p _
  dsimp only [Function.comp]
  by_cases hp : p.1 = k
  · simp [hp]
  · simp [hp]
/-- what a turn asks of its state -/
structure Good (hour : Int) (S : RunS) : Prop where
  own : ∃ b, bget S.books (S.heap.getD 0 (0, 0)).2 = some b ∧ (S.begun.contains (S.heap.getD 0 (0, 0)).2 = false → b.cal = [])
  one : ∀ p ∈ S.books, p.2.cal.length ≤ 1
  keys : ∀ o ∈ S.begun, o ∈ S.books.map (·.1)
  top : ¬ (if hour - S.now < (S.heap.getD 0 (0, 0)).1 then hour - S.now else (S.heap.getD 0 (0, 0)).1) < (S.heap.getD 0 (0, 0)).1 → S.begun.contains (S.heap.getD 0 (0, 0)).2 = false ∨ ∃ bg, S.begun = bg ++ [(S.heap.getD 0 (0, 0)).2]
  lens : S.heap.length < 1000 ∧ S.begun.length < 1000 ∧ S.ends.length < 1000 ∧ S.books.length < 1000

theorem add_func_stats_b {w : World} {loose mean mg mb} {b s : Bk} (h1 : b.cal.length ≤ 1) (h2 : s.cal.length ≤ 1) (h3 : b.cal = [] ∨ s.cal = []) :
    PureC (amb w loose mean mg mb) 102 1 [(true, bkd b), (true, bkd s)] [] [] (bkd (b.add s)) := add_func_stats_c h1 h2 h3
theorem hpop_head (y : Int × Int) (tl : List (Int × Int)) : (hpop (y :: tl)).1 = y := by
  cases tl with
  | nil => rfl
  | cons z tl => rfl
theorem Ev.ifeI {prog : Program} {w : World} {X : Cx} {Γ : Gam} {t : Expr} {p p₁ p₂ : Pos} {c : Bool} {i j : Int} {n₁ n₂ : Nat} (h : Tr prog w X Γ t c) : Ev prog w X Γ (.IfExp t (.Constant (.int i) n₁ p₁) (.Constant (.int j) n₂ p₂) p) (true, .int (if c = true then i else j)) :=
  Ev.ife h (fun hc => by rw [hc]; exact Ev.int) (fun hc => by rw [hc]; exact Ev.int)
/-- the run's state at its names -/
structure RW (Γ : Gam) (S : RunS) (t : Int × Int × Int) : Prop where
  hp : Γ "heap" = some (false, .lst (S.heap.map pr))
  bg : Γ "begun" = some (false, .lst (S.begun.map D.int))
  en : Γ "ends" = some (false, .lst (S.ends.map D.int))
  la : Γ "last" = some (true, .int S.last)
  no : Γ "now" = some (true, .int S.now)
  bo : Γ "books" = some (false, .dct (BD S.books))
  ho : Γ "hour" = some (true, .int t.1)
  on : Γ "one" = some (true, .int t.2.1)
  ne : Γ "need" = some (true, .int t.2.2)

noncomputable abbrev tr3 (t : Int × Int × Int) : D := .tup [.int t.1, .int t.2.1, .int t.2.2]
noncomputable abbrev Om : List Str := [Str.ofString "ends", Str.ofString "begun", Str.ofString "heap", Str.ofString "books"]

theorem law_run_c {w : World} {loose mean mg mb} {row : List (Int × Int × Int)} {books : List (Int × Bk)} (Inv : List (Int × Int × Int) → RunS → Prop)
    (hrow : row.length < 500) (h0 : Inv (row ++ [(99, -1, 0)]) (run0 books))
    (hturn : ∀ t rest S, Inv (t :: rest) S → S.heap ≠ [] → S.now < t.1 → Good t.1 S ∧ Inv (t :: rest) (turn t.1 S))
    (harr : ∀ t rest S, Inv (t :: rest) S → ¬ (S.heap ≠ [] ∧ S.now < t.1) → Inv rest (arrive t S)) (hlen : ∀ L S, Inv L S → S.heap.length < 1000) :
    Lend2C (amb w loose mean mg mb) 123 4 (.lst (row.map tr3)) (.dct (BD books)) (.dct (BD (runAll (row ++ [(99, -1, 0)]) (run0 books)).books)) (.lst ((runAll (row ++ [(99, -1, 0)]) (run0 books)).ends.map D.int)) := by
  obtain ⟨R, hR⟩ : ∃ R : List (Int × Int × Int), R = row ++ [(99, -1, 0)] := ⟨_, rfl⟩
  rw [← hR] at h0 ⊢
  refine' Lend2C.of (x₀ := Str.ofString "row") (y := Str.ofString "books") (mods' := Om) ⟨?ho, ?hcd, ?hco, ?hgen, ?hk⟩ ?hcell ?hloc ?hb ?hbody
  case ho => show (hd.heap_1 w.params).lookup 123 = some _; k_is
  case hcd => show codeIn (hd.heap_1 w.params) _ _ = true; k_is
  case hco => rfl
  case hgen => rfl
  case hk => rfl
  case hcell => decide
  case hloc => simp only [List.forall_mem_cons]; refine ⟨⟨rfl, by decide⟩, ⟨rfl, by decide⟩, ?_⟩; intro _ h; nomatch h
  case hb => intro s v v₀; exact BindsTo.of_eq rfl
  case hbody =>
    intro β hlv hlent
    refine' Sp.cons (S1.assignNil3 (.inl rfl) (.inl rfl) (.inl rfl) (by decide) (fun d => ⟨fun h => ?n1, fun h => ?n2, fun h => ?n3⟩) ?_ (hw := (sw_stores β.hsc _ _).trans rfl))
    case n1 => have : (none : Option (Bool × D)) = some (false, d) := h; cases this
    case n2 => have : (none : Option (Bool × D)) = some (false, d) := h; cases this
    case n3 => have : (none : Option (Bool × D)) = some (false, d) := h; cases this
    refine' Sp.cons (S1.assignT (d := .tup [.int (-1), .int 0]) (fun own => ?ev) (.tup2 (.inl rfl) (by decide) (by decide) (.inl rfl) (by decide) (by decide)) ?_ (hw := (sw_stores β.hsc _ _).trans rfl))
    case ev =>
      refine' Ev.tuple (EvL.cons (Ev.neg (b₁ := true) ?e1) (EvL.cons ?e2 EvL.nil))
      case e1 => walk_at "ev"
      case e2 => walk_at "ev"
    refine Sp.step (fun Γ' Ω' => Γ' "ends" = some (false, .lst ((runAll R (run0 books)).ends.map D.int)) ∧ Γ' "books" = some (false, .dct (BD (runAll R (run0 books)).books)) ∧ Ω' = Om) ?loop ?fin
    case fin =>
      rintro Γ' Ω' ⟨h1, h2, rfl⟩
      refine' Sp.cons (S1.retOwn h1 (by decide) (by rw [hlent]; decide) ⟨.inl rfl, h2, by decide⟩)
    case loop =>
      refine' S1.for (mods' := Om) (ds := R.map tr3) (fun i Γ' Ω' => ∃ S, Inv (R.drop i) S ∧ runAll (R.drop i) S = runAll R (run0 books) ∧
        Γ' "heap" = some (false, .lst (S.heap.map pr)) ∧ Γ' "begun" = some (false, .lst (S.begun.map D.int)) ∧ Γ' "ends" = some (false, .lst (S.ends.map D.int)) ∧ Γ' "last" = some (true, .int S.last) ∧ Γ' "now" = some (true, .int S.now) ∧ Γ' "books" = some (false, .dct (BD S.books)) ∧ Ω' = Om) (ItA.of ?hit) ?h0 ?turn ?fn
      case hit =>
        intro own
        refine' EvI.listTup ?it ?it2
        case it =>
          rw [hR, List.map_append]
          refine' Ev.bin (r₁ := (true, .lst (row.map tr3))) (r₂ := (true, .lst [tr3 (99, -1, 0)])) ?a ?b (Op2.addL (by simp [sizeLine]; omega))
          case a => walk_at "ev"
          case b =>
            refine' Ev.list (EvL.cons (Ev.tuple (EvL.cons ?e1 (EvL.cons (Ev.neg (b₁ := true) ?e2) (EvL.cons ?e3 EvL.nil)))) EvL.nil)
            case e1 => walk_at "ev"
            case e2 => walk_at "ev"
            case e3 => walk_at "ev"
        case it2 =>
          intro d hd
          obtain ⟨t, _, rfl⟩ := List.mem_map.mp hd
          exact ⟨_, rfl⟩
      case h0 => exact ⟨run0 books, h0, rfl, by walk_at "nm", by walk_at "nm", by walk_at "nm", by walk_at "nm", by walk_at "nm", by walk_at "nm", rfl⟩
      case turn =>
        rintro i d Γ' Ω' he ⟨S, hI, hr, h1, h2, h3, h4, h5, h6, rfl⟩
        rw [List.getElem?_map] at he
        obtain ⟨t, ht, rfl⟩ := Option.map_eq_some_iff.mp he
        have hi := (List.getElem?_eq_some_iff.mp ht).1
        have hdrop : R.drop i = t :: R.drop (i + 1) := by
          rw [List.drop_eq_getElem_cons hi, (List.getElem?_eq_some_iff.mp ht).2]
        rw [hdrop] at hI hr
        refine ⟨_, .tup3 (.inl rfl) (by decide) (by decide) (.inl rfl) (by decide) (by decide) (.inl rfl) (by decide) (by decide), fun I => ?_⟩
        refine Sp.step (fun Γ' Ω' => RW Γ' (runW t.1 S) t ∧ Inv (t :: R.drop (i + 1)) (runW t.1 S) ∧ Ω' = Om) ?loop ?aft
        case loop =>
          refine S1.while (fun k Γ' Ω' => ∃ S', k = S'.heap.length + (if S'.now < t.1 then 1 else 0) ∧ Inv (t :: R.drop (i + 1)) S' ∧ runW t.1 S' = runW t.1 S ∧ RW Γ' S' t ∧ Ω' = Om) _ ⟨S, rfl, hI, rfl, ⟨by walk_at "nm", by walk_at "nm", by walk_at "nm", by walk_at "nm", by walk_at "nm", by walk_at "nm", by walk_at "nm", by walk_at "nm", by walk_at "nm"⟩, rfl⟩ ?turn
          case turn =>
            rintro k Γ₁ Ω₁ ⟨S', rfl, hI', hr', hw, rfl⟩
            obtain ⟨g1, g2, g3, g4, g5, g6, g7, g8, g9⟩ := id hw
            refine ⟨!(S'.heap.map pr).isEmpty && (decide (S'.now < t.1) && true), fun own => ?tr, fun hb => ?yes, fun hb => ?no⟩
            case tr =>
              refine' Tr.and (Tr.plain (r := (false, .lst (S'.heap.map pr))) ?t1 (Truthy.lst (by rw [List.length_map]; have := hlen _ _ hI'; omega))) (fun _ => Tr.and (Tr.cmp (r₁ := (true, .int S'.now)) (r₂ := (true, .int t.1)) ?t2 ?t3 Op2.lt) (fun _ => Tr.andNil))
              case t1 => walk_at "ev"
              case t2 => walk_at "ev"
              case t3 => walk_at "ev"
            case no =>
              have : ¬ (S'.heap ≠ [] ∧ S'.now < t.1) := fun q => by
                have h1 : (S'.heap.map pr).isEmpty = false := by
                  rw [List.isEmpty_eq_false_iff]; simpa using q.1
                rw [h1, decide_eq_true q.2] at hb
                cases hb
              have e : runW t.1 S' = S' := by rw [runW, dif_neg this]
              rw [← hr', e]
              exact ⟨hw, hI', rfl⟩
            case yes =>
              have hc : S'.heap ≠ [] ∧ S'.now < t.1 := by
                simp only [Bool.and_true, Bool.and_eq_true, Bool.not_eq_true', decide_eq_true_eq] at hb
                refine ⟨fun q => ?_, hb.2⟩
                rw [q] at hb
                cases hb.1
              obtain ⟨hG, hIt⟩ := hturn t _ S' hI' hc.1 hc.2
              have hm := turn_less t.1 S' hc
              have hrt : runW t.1 (turn t.1 S') = runW t.1 S := by rw [← hr', runW.eq_1 t.1 S', dif_pos hc]
              refine Sp.mono (P := fun fl Γ' Ω' => fl = .next ∧ RW Γ' (turn t.1 S') t ∧ Ω' = Om) ?body fun fl Γ₂ Ω₂ hp => ?conv
              case conv =>
                obtain ⟨rfl, q1, rfl⟩ := hp
                exact ⟨_, hm, _, rfl, hIt, hrt, q1, rfl⟩
              case body =>
                obtain ⟨y, tl, hyt⟩ := List.exists_cons_of_ne_nil hc.1
                obtain ⟨⟨b, hb, hbc⟩, hone, hkeys, htop, hl1, hl2, hl3, hl4⟩ := hG
                have hy0 : S'.heap.getD 0 (0, 0) = y := by rw [hyt]; rfl
                rw [hy0] at hb hbc htop
                rw [hyt] at g1
                obtain ⟨fresh, hfresh⟩ : ∃ fresh, fresh = !(S'.begun.contains y.2) := ⟨_, rfl⟩
                obtain ⟨cal, hcal⟩ : ∃ cal, cal = if fresh && !S'.begun.isEmpty then [(S'.begun.getLastD 0, (1 : Int))] else [] := ⟨_, rfl⟩
                obtain ⟨bg, hbg⟩ : ∃ bg, bg = if fresh then S'.begun ++ [y.2] else S'.begun := ⟨_, rfl⟩
                obtain ⟨span, hspan⟩ : ∃ span, span = if t.1 - S'.now < y.1 then t.1 - S'.now else y.1 := ⟨_, rfl⟩
                refine' Sp.cons (S1.assignT (d := pr y) (fun own => ?ev) (.tup2 (.inl rfl) (by decide) (by decide) (.inl rfl) (by decide) (by decide)) ?_)
                case ev =>
                  refine' Ev.itemP (k := 0) (b₁ := false) (b₂ := true) (l := y :: tl) ?a ?b rfl (by rw [← hyt]; omega)
                  case a => walk_at "ev"
                  case b => walk_at "ev"
                refine' Sp.cons (S1.assign (d := .bool fresh) (fun own => ?ev) (.inl rfl) (by decide) ?_)
                case ev =>
                  rw [hfresh]
                  refine' Ev.cmp (r₁ := (true, .int y.2)) (r₂ := (false, .lst (S'.begun.map D.int))) ?a ?b Op2.notInInts
                  case a => walk_at "ev"
                  case b => walk_at "ev"
                refine' Sp.cons (S1.assign (d := .dct (emb cal)) (fun own => ?ev) (.inl rfl) (by decide) ?_)
                case ev =>
                  refine' Ev.ife (c := fresh && (!(S'.begun.map D.int).isEmpty && true)) ?t ?y ?n
                  case t =>
                    refine' Tr.and (Tr.plain (r := (true, .bool fresh)) ?t1 Truthy.bool) (fun _ => Tr.and (Tr.plain (r := (false, .lst (S'.begun.map D.int))) ?t2 (Truthy.lst (by rw [List.length_map]; omega))) (fun _ => Tr.andNil))
                    case t1 => walk_at "ev"
                    case t2 => walk_at "ev"
                  case y =>
                    intro hq
                    have hne : S'.begun ≠ [] := fun e => by rw [e] at hq; simp at hq
                    have hf : fresh = true := by revert hq; cases fresh <;> simp
                    obtain ⟨b0, k0, hb0⟩ : ∃ b0 k0, S'.begun = b0 ++ [k0] := ⟨S'.begun.dropLast, S'.begun.getLast hne, (List.dropLast_concat_getLast hne).symm⟩
                    have : cal = [(k0, 1)] := by rw [hcal, hf, hb0]; simp
                    rw [this]
                    refine' Ev.dict1 (b₁ := true) (b₂ := true) ?a ?b
                    case a =>
                      refine' Ev.itemNeg (b₁ := false) (b₂ := true) (ds := S'.begun.map D.int) (k := -1) ?na (Ev.neg (b₁ := true) ?nb) (by decide) ?nc (by decide) ?nd
                      case na => walk_at "ev"
                      case nb => walk_at "ev"
                      case nc => rw [hb0]; simp; omega
                      case nd =>
                        rw [hb0, List.map_append]
                        have e1 : ((-1 : Int) + ((b0.map D.int ++ [k0].map D.int).length : Nat)).toNat = (b0.map D.int).length := by simp; omega
                        rw [e1, List.getElem?_append_right (Nat.le_refl _)]; simp
                    case b => walk_at "ev"
                  case n =>
                    intro hq
                    have : cal = [] := by
                      rw [hcal, if_neg]
                      intro hq'
                      rw [Bool.and_eq_true] at hq'
                      rw [hq'.1] at hq
                      have : (S'.begun.map D.int).isEmpty = false := by
                        have := hq'.2
                        cases hbb : S'.begun with
                        | nil => rw [hbb] at this; cases this
                        | cons _ _ => rfl
                      rw [this] at hq
                      cases hq
                    rw [this]
                    exact Ev.dict0
                refine Sp.step (fun Γ' Ω' => Γ' "heap" = some (false, .lst ((y :: tl).map pr)) ∧ Γ' "begun" = some (false, .lst (bg.map D.int)) ∧ Γ' "ends" = some (false, .lst (S'.ends.map D.int)) ∧ Γ' "last" = some (true, .int S'.last) ∧ Γ' "now" = some (true, .int S'.now) ∧ Γ' "books" = some (false, .dct (BD S'.books)) ∧ Γ' "hour" = some (true, .int t.1) ∧ Γ' "one" = some (true, .int t.2.1) ∧ Γ' "need" = some (true, .int t.2.2) ∧ Γ' "left" = some (true, .int y.1) ∧ Γ' "hand" = some (true, .int y.2) ∧ Γ' "fresh" = some (true, .bool fresh) ∧ Γ' "callers" = some (true, .dct (emb cal)) ∧ Ω' = Om) ?ap ?rest
                case ap =>
                  refine' S1.ife (b := fresh) (fun own => ?tr) (fun hq => ?_) (fun hq => ?_)
                  case tr =>
                    refine' Tr.plain (r := (true, .bool fresh)) ?t1 Truthy.bool
                    case t1 => walk_at "ev"
                  · have hbg' : bg.map D.int = S'.begun.map D.int ++ [D.int y.2] := by rw [hbg, hq]; simp
                    rw [hbg']
                    refine' Sp.cons (S1.append (ds := S'.begun.map D.int) (d := .int y.2) ?apx (by decide) (by decide) (fun own => ?apv) (by rw [List.length_map]; unfold sizeLine; omega) (Sp.nil ⟨?c1, ?c2, ?c3, ?c4, ?c5, ?c6, ?c7, ?c8, ?c9, ?d1, ?d2, ?d3, ?d4, rfl⟩))
                    case apv => walk_at "ev"
                    all_goals walk_at "nm"
                  · have hbg' : bg = S'.begun := by rw [hbg, hq]; simp
                    rw [hbg']
                    refine' Sp.nil ⟨?k1, ?k2, ?k3, ?k4, ?k5, ?k6, ?k7, ?k8, ?k9, ?l1, ?l2, ?l3, ?l4, rfl⟩
                    all_goals walk_at "nm"
                case rest =>
                  clear g1 g2 g3 g4 g5 g6 g7 g8 g9 hw
                  rintro Γ₃ Ω₃ ⟨g1, g2, g3, g4, g5, g6, g7, g8, g9, g10, g11, g12, g13, rfl⟩
                  refine' Sp.cons (S1.assign (d := .int span) (fun own => ?ev) (.inl rfl) (by decide) ?_)
                  case ev =>
                    rw [hspan]
                    refine' Ev.blt (rs := [(true, .int y.1), (true, .int (t.1 - S'.now))]) (Glob1.act rfl rfl) ?em BltC.min2
                    case em => walk_at "em"
                  obtain ⟨st, hst⟩ : ∃ st : Bk, st = ⟨if fresh then 1 else 0, if y.2 ≠ S'.last then 1 else 0, span, 0, cal⟩ := ⟨_, rfl⟩
                  have hsc : st.cal = cal := by rw [hst]
                  have hcal1 : b.cal.length ≤ 1 := hone _ (bget_mem hb)
                  have hcal2 : cal.length ≤ 1 := by rw [hcal]; split <;> simp
                  have hcal3 : b.cal = [] ∨ cal = [] := by
                    cases hf : fresh with
                    | true => exact .inl (hbc (by rw [hf] at hfresh; simpa using hfresh.symm))
                    | false => right; rw [hcal, hf]; rfl
                  refine' Sp.cons (S1.setKey (kvs := BD S'.books) (k := y.2) (d := bkd (b.add st)) (b := true) ?skx (by decide) (by decide) (fun own => ?skv) (fun own => ?ski) (by rw [List.length_map]; unfold sizeLine; omega) ?_)
                  case skx => walk_at "nm"
                  case ski => walk_at "ev"
                  case skv =>
                    refine' Ev.call (rs := [(true, bkd b), (true, bkd st)]) (Glob1.act rfl rfl) ?skk ?skm (add_func_stats_b hcal1 (by rw [hsc]; exact hcal2) (by rw [hsc]; exact hcal3)) (by show 1 < β.lv; omega)
                    case skk => show keepIn (hd.heap_1 w.params) _ = true; k_is
                    case skm =>
                      refine' EvM.cons (Ev.at (b₁ := false) (b₂ := true) (kvs := BD S'.books) (k := y.2) ?sa ?sb (by rw [look_BD, hb]; rfl)) (EvM.cons ?sc EvM.nil)
                      case sa => walk_at "ev"
                      case sb => walk_at "ev"
                      case sc =>
                        rw [hst]
                        refine' Ev.tuple (EvL.cons (Ev.ifeI (c := fresh) (Tr.plain (r := (true, .bool fresh)) ?ta Truthy.bool)) (EvL.cons ?tb (EvL.cons ?tc (EvL.cons ?td (EvL.cons ?te EvL.nil)))))
                        case ta => walk_at "ev"
                        case tb =>
                          have e1 : (if y.2 ≠ S'.last then (1 : Int) else 0) = if (!decide (y.2 = S'.last)) = true then 1 else 0 := by
                            by_cases q : y.2 = S'.last <;> simp [q]
                          rw [e1]
                          refine' Ev.ifeI (Tr.cmp (r₁ := (true, .int y.2)) (r₂ := (true, .int S'.last)) ?tba ?tbb Op2.ne)
                          case tba => walk_at "ev"
                          case tbb => walk_at "ev"
                        case tc => walk_at "ev"
                        case td => walk_at "ev"
                        case te => walk_at "ev"
                  have hst0 : stor (BD S'.books) y.2 (bkd (b.add st)) = BD (badd S'.books y.2 st) := by
                    rw [stor_BD hb]; unfold badd; rw [hb]; rfl
                  rw [hst0]
                  obtain ⟨bs1, hbs1⟩ : ∃ bs1, bs1 = badd S'.books y.2 st := ⟨_, rfl⟩
                  rw [← hbs1]
                  have hone1 : ∀ p ∈ bs1, p.2.cal.length ≤ 1 := by
                    rw [hbs1]
                    refine badd_one hone hb ?_
                    rw [hst]
                    rcases hcal3 with q | q <;> rw [q] <;> simp <;> omega
                  have hkeys1 : ∀ o ∈ bg, o ∈ bs1.map (·.1) := by
                    intro o ho
                    rw [hbs1, badd_keys]
                    rw [hbg] at ho
                    split at ho
                    · rcases List.mem_append.mp ho with h | h
                      · exact hkeys o h
                      · rw [List.mem_singleton.mp h]
                        exact (bget_some_iff _ _).mp (by rw [hb]; rfl)
                    · exact hkeys o ho
                  have hlenb : bs1.length < 1000 := by
                    have := congrArg List.length (badd_keys S'.books y.2 st)
                    rw [List.length_map, List.length_map] at this
                    rw [hbs1, this]; exact hl4
                  obtain ⟨bs2, hbs2⟩ : ∃ bs2, bs2 = bg.foldl (fun bs o => badd bs o ⟨0, 0, 0, span, []⟩) bs1 := ⟨_, rfl⟩
                  refine Sp.step (fun Γ' Ω' => Γ' "heap" = some (false, .lst ((y :: tl).map pr)) ∧ Γ' "begun" = some (false, .lst (bg.map D.int)) ∧ Γ' "ends" = some (false, .lst (S'.ends.map D.int)) ∧ Γ' "now" = some (true, .int S'.now) ∧ Γ' "books" = some (false, .dct (BD bs2)) ∧ Γ' "hour" = some (true, .int t.1) ∧ Γ' "one" = some (true, .int t.2.1) ∧ Γ' "need" = some (true, .int t.2.2) ∧ Γ' "left" = some (true, .int y.1) ∧ Γ' "hand" = some (true, .int y.2) ∧ Γ' "span" = some (true, .int span) ∧ Ω' = Om) ?fr ?rest2
                  case fr =>
                    refine' S1.for (mods' := [Str.ofString "books"]) (ds := bg.map D.int) (fun i Γ' Ω' => Γ' "books" = some (false, .dct (BD ((bg.take i).foldl (fun bs o => badd bs o ⟨0, 0, 0, span, []⟩) bs1))) ∧ Γ' "heap" = some (false, .lst ((y :: tl).map pr)) ∧ Γ' "begun" = some (false, .lst (bg.map D.int)) ∧ Γ' "ends" = some (false, .lst (S'.ends.map D.int)) ∧ Γ' "now" = some (true, .int S'.now) ∧ Γ' "hour" = some (true, .int t.1) ∧ Γ' "one" = some (true, .int t.2.1) ∧ Γ' "need" = some (true, .int t.2.2) ∧ Γ' "left" = some (true, .int y.1) ∧ Γ' "hand" = some (true, .int y.2) ∧ Γ' "span" = some (true, .int span) ∧ Ω' = Om) (ItA.ofOwn ?oy (by decide) (by decide)) ?oh ?ot ?of (by decide)
                    case oy => walk_at "nm"
                    case oh =>
                      refine ⟨?_, ?_, ?_, ?_, ?_, ?_, ?_, ?_, ?_, ?_, ?_, rfl⟩
                      · rw [List.take_zero]; walk_at "nm"
                      all_goals walk_at "nm"
                    case of =>
                      rintro Γ' Ω' ⟨q1, q2, q3, q4, q5, q6, q7, q8, q9, q10, q11, rfl⟩
                      rw [List.length_map, List.take_length, ← hbs2] at q1
                      exact ⟨q2, q3, q4, q5, q1, q6, q7, q8, q9, q10, q11, rfl⟩
                    case ot =>
                      rintro j d Γ' Ω' he ⟨q1, q2, q3, q4, q5, q6, q7, q8, q9, q10, q11, rfl⟩
                      rw [List.getElem?_map] at he
                      obtain ⟨o, ho, rfl⟩ := Option.map_eq_some_iff.mp he
                      obtain ⟨bsj, hbsj⟩ : ∃ bsj, bsj = (bg.take j).foldl (fun bs o => badd bs o ⟨0, 0, 0, span, []⟩) bs1 := ⟨_, rfl⟩
                      rw [← hbsj] at q1
                      have ho' : o ∈ bsj.map (·.1) := by rw [hbsj, bfold_keys]; exact hkeys1 o (List.mem_of_getElem? ho)
                      obtain ⟨bo, hbo⟩ := Option.isSome_iff_exists.mp ((bget_some_iff _ _).mpr ho')
                      have honej : ∀ p ∈ bsj, p.2.cal.length ≤ 1 := by rw [hbsj]; exact bfold_one span _ _ hone1
                      have hlenj : bsj.length < 1000 := by
                        have := congrArg List.length (bfold_keys span (bg.take j) bs1)
                        rw [List.length_map, List.length_map] at this
                        rw [hbsj, this]; exact hlenb
                      refine ⟨_, .name (.inl rfl) (by decide) (by decide), fun I2 => ?_⟩
                      refine' Sp.cons (S1.setKey (kvs := BD bsj) (k := o) (d := bkd (bo.add ⟨0, 0, 0, span, []⟩)) (b := true) ?okx (by decide) (by decide) (fun own => ?okv) (fun own => ?oki) (by rw [List.length_map]; unfold sizeLine; omega) (Sp.nil ?_))
                      case okx => walk_at "nm"
                      case oki => walk_at "ev"
                      case okv =>
                        refine' Ev.call (rs := [(true, bkd bo), (true, bkd ⟨0, 0, 0, span, []⟩)]) (Glob1.act rfl rfl) ?okk ?okm (add_func_stats_b (honej _ (bget_mem hbo)) (by simp) (.inr rfl)) (by show 1 < β.lv; omega)
                        case okk => show keepIn (hd.heap_1 w.params) _ = true; k_is
                        case okm =>
                          refine' EvM.cons (Ev.at (b₁ := false) (b₂ := true) (kvs := BD bsj) (k := o) ?oa ?ob (by rw [look_BD, hbo]; rfl)) (EvM.cons (Ev.tuple (EvL.cons ?oc (EvL.cons ?od (EvL.cons ?oe (EvL.cons ?og (EvL.cons Ev.dict0 EvL.nil)))))) EvM.nil)
                          case oa => walk_at "ev"
                          case ob => walk_at "ev"
                          case oc => walk_at "ev"
                          case od => walk_at "ev"
                          case oe => walk_at "ev"
                          case og => walk_at "ev"
                      have hsto : stor (BD bsj) o (bkd (bo.add ⟨0, 0, 0, span, []⟩)) = BD ((bg.take (j + 1)).foldl (fun bs o => badd bs o ⟨0, 0, 0, span, []⟩) bs1) := by
                        rw [stor_BD hbo, List.take_add_one, ho, List.foldl_append, ← hbsj]
                        show BD (bset bsj o _) = BD (badd bsj o _)
                        unfold badd; rw [hbo]; rfl
                      rw [hsto]
                      refine ⟨?_, ?_, ?_, ?_, ?_, ?_, ?_, ?_, ?_, ?_, ?_, rfl⟩ <;> walk_at "nm"
                  case rest2 =>
                    clear g1 g2 g3 g4 g5 g6 g7 g8 g9 g10 g11 g12 g13
                    rintro Γ₄ Ω₄ ⟨g1, g2, g3, g5, g6, g7, g8, g9, g10, g11, g12, rfl⟩
                    have htu : turn t.1 S' = if span < y.1 then { heap := sup ((y.1 - span, y.2) :: tl), begun := bg, ends := S'.ends, last := y.2, now := S'.now + span, books := bs2 } else { heap := (hpop (y :: tl)).2, begun := bg.dropLast, ends := S'.ends ++ [S'.now + span], last := y.2, now := S'.now + span, books := bs2 } := by
                      unfold turn
                      dsimp only
                      rw [hy0, ← hfresh, ← hcal, ← hbg, ← hspan, ← hst, ← hbs1, ← hbs2, hyt]
                      rfl
                    refine' Sp.cons (S1.assignSwap2 (d₁ := .int y.2) (d₂ := .int (S'.now + span)) (fun own => ?ev) (.inl rfl) (by decide) (.inl rfl) (by decide) ?_ (hw := (sw_stores β.hsc _ _).trans rfl))
                    case ev =>
                      refine' Ev.tuple (EvL.cons ?e1 (EvL.cons ?e2 EvL.nil))
                      case e1 => walk_at "ev"
                      case e2 => walk_at "ev"
                    refine Sp.step (fun Γ' Ω' => RW Γ' (turn t.1 S') t ∧ Γ' "gave" = some (true, pr y) ∧ Γ' "left" = some (true, .int y.1) ∧ Γ' "hand" = some (true, .int y.2) ∧ Ω' = Om) ?gi ?ge
                    case ge =>
                      rintro Γ₅ Ω₅ ⟨hw5, q1, q2, q3, rfl⟩
                      refine' Sp.cons (S1.ife (b := false) (fun own => ?tr) (fun hq => by cases hq) (fun _ => Sp.nil (Sp.nil ⟨rfl, hw5, rfl⟩)))
                      case tr =>
                        refine' Tr.cmp (r₁ := (true, pr y)) (r₂ := (true, pr y)) ?t1 (Ev.tuple (EvL.cons ?t2 (EvL.cons ?t3 EvL.nil))) Op2.nePair
                        case t1 => walk_at "ev"
                        case t2 => walk_at "ev"
                        case t3 => walk_at "ev"
                    case gi =>
                      have hlt : (y :: tl).length < 1000 := by rw [← hyt]; exact hl1
                      refine' S1.ife (b := decide (span < y.1)) (fun own => ?tr) (fun hq => ?_) (fun hq => ?_)
                      case tr =>
                        refine' Tr.cmp (r₁ := (true, .int span)) (r₂ := (true, .int y.1)) ?t1 ?t2 Op2.lt
                        case t1 => walk_at "ev"
                        case t2 => walk_at "ev"
                      · have hlt2 := of_decide_eq_true hq
                        rw [if_pos hlt2] at htu
                        refine' Sp.cons (S1.assignLend (rs := [(true, pr (y.1 - span, y.2))]) (fun own => Glob1.act rfl rfl) ?rkk (fun own => ?rem) (heapreplace_c (l := tl) (y := y) (x := (y.1 - span, y.2)) (by simp at hlt; omega)) (by show 2 < β.lv; omega) ?rnm (by decide) (by decide) (.inl rfl) (by decide) (Sp.nil ?_))
                        case rkk => show keepIn (hd.heap_1 w.params) _ = true; k_is
                        case rem =>
                          refine' EvM.cons (Ev.tuple (EvL.cons ?r1 (EvL.cons ?r2 EvL.nil))) EvM.nil
                          case r1 => walk_at "ev"
                          case r2 => walk_at "ev"
                        case rnm => walk_at "nm"
                        rw [htu]
                        refine ⟨⟨?_, ?_, ?_, ?_, ?_, ?_, ?_, ?_, ?_⟩, ?_, ?_, ?_, rfl⟩ <;> (try dsimp only) <;> walk_at "nm"
                      · have hlt2 := of_decide_eq_false hq
                        rw [if_neg hlt2] at htu
                        obtain ⟨l0, z, hlz⟩ : ∃ l0 z, y :: tl = l0 ++ [z] := ⟨(y :: tl).dropLast, (y :: tl).getLast (by simp), (List.dropLast_concat_getLast (by simp)).symm⟩
                        obtain ⟨b0, hb0⟩ : ∃ b0, bg = b0 ++ [y.2] := by
                          rw [hspan] at hlt2
                          cases hf : fresh with
                          | true => exact ⟨S'.begun, by rw [hbg, hf]; rfl⟩
                          | false =>
                            rcases htop hlt2 with h | ⟨b0, h⟩
                            · rw [hf, h] at hfresh; cases hfresh
                            · exact ⟨b0, by rw [hbg, hf, ← h]; rfl⟩
                        have hbl : b0.length < 1000 := by
                          have h1 : bg.length ≤ S'.begun.length + 1 := by rw [hbg]; split <;> simp
                          rw [hb0, List.length_append] at h1
                          simp at h1; omega
                        have hph : (hpop (l0 ++ [z])).1 = y := by rw [← hlz]; exact hpop_head y tl
                        have hpt : (hpop (l0 ++ [z])).2 = (hpop (y :: tl)).2 := by rw [hlz]
                        refine' Sp.cons (S1.assignLend (rs := []) (fun own => Glob1.act rfl rfl) ?pkk (fun own => EvM.nil) (heappop_c (l := l0) (z := z) (by rw [hlz] at hlt; simp at hlt; omega)) (by show 2 < β.lv; omega) ?pnm (by decide) (by decide) (.inl rfl) (by decide) ?_)
                        case pkk => show keepIn (hd.heap_1 w.params) _ = true; k_is
                        case pnm => rw [← hlz]; walk_at "nm"
                        rw [hph, hpt]
                        refine' Sp.cons (S1.append (ds := S'.ends.map D.int) (d := .int (S'.now + span)) ?enx (by decide) (by decide) (fun own => ?env) (by rw [List.length_map]; unfold sizeLine; omega) ?_)
                        case enx => walk_at "nm"
                        case env => walk_at "ev"
                        have e1 : S'.ends.map D.int ++ [D.int (S'.now + span)] = (S'.ends ++ [S'.now + span]).map D.int := by simp
                        rw [e1]
                        rw [hb0, List.map_append, List.map_cons, List.map_nil] at g2
                        refine' Sp.cons (S1.ifPopSame (ds := b0.map D.int) (k := y.2) (b := true) ?pox (by decide) (by decide) (by rw [List.length_map]; unfold sizeLine; omega) ?poy (by decide) (Sp.nil ?_))
                        case pox => walk_at "nm"
                        case poy => walk_at "nm"
                        rw [htu, hb0, List.dropLast_concat]
                        refine ⟨⟨?_, ?_, ?_, ?_, ?_, ?_, ?_, ?_, ?_⟩, ?_, ?_, ?_, rfl⟩ <;> (try dsimp only) <;> walk_at "nm"
        case aft =>
          rintro Γ₁ Ω₁ ⟨⟨g1, g2, g3, g4, g5, g6, g7, g8, g9⟩, hI', rfl⟩
          have hIa := harr t _ _ hI' (runW_stop t.1 S)
          have hla := hlen _ _ hI'
          refine' Sp.cons (S1.assign (d := .int (if t.1 > (runW t.1 S).now then t.1 else (runW t.1 S).now)) (fun own => ?ev) (.inl rfl) (by decide) ?_)
          case ev =>
            refine' Ev.blt (rs := [(true, .int (runW t.1 S).now), (true, .int t.1)]) (Glob1.act rfl rfl) ?em BltC.max2
            case em => walk_at "em"
          refine' Sp.cons (S1.lend (rs := [(true, pr (t.2.2, t.2.1))]) (fun own => Glob1.act rfl rfl) ?kk (fun own => ?em) (heappush_c (l := (runW t.1 S).heap) (x := (t.2.2, t.2.1)) hla) (by show 1 < β.lv; omega) ?nm (by decide) (by decide) (Sp.nil ?_))
          case kk => show keepIn (hd.heap_1 w.params) _ = true; k_is
          case em =>
            refine' EvM.cons (Ev.tuple (EvL.cons ?e1 (EvL.cons ?e2 EvL.nil))) EvM.nil
            case e1 => walk_at "ev"
            case e2 => walk_at "ev"
          case nm => walk_at "nm"
          refine ⟨arrive t (runW t.1 S), hIa, hr, ?_, ?_, ?_, ?_, ?_, ?_, rfl⟩ <;> (dsimp only [arrive]; walk_at "nm")
      case fn =>
        rintro Γ' Ω' ⟨S, hI, hr, h1, h2, h3, h4, h5, h6, rfl⟩
        rw [List.length_map, List.drop_length] at hr
        rw [← hr]
        exact ⟨h3, h6, rfl⟩

noncomputable def outSoon (t : Int × Int × Int) : D → Option D
  | .tup [.int a, .int b] => some (pr (soon1 t (a, b)))
  | _ => none
noncomputable def outMin (row : List (Int × Int × Int)) : D → Option D
  | .int k => some (.int (minOf (soonEnds row k)))
  | _ => none
noncomputable def outEnd (k : Int) : D → Option D
  | .tup [.int a, .int b] => if a = k then some (.int b) else none
  | _ => none
theorem law_soonest_c {w : World} {loose mean mg mb} {row : List (Int × Int × Int)} (hrow : row.length ≤ 16) :
    PureC (amb w loose mean mg mb) 133 2 [(true, .lst (row.map tr3))] [] [] (.lst (((List.range row.length).map fun (i : Nat) => minOf (soonEnds row (1 + i))).map D.int)) := by
  refine' PureC.ofCells (rs' := [(Str.ofString "row", (true, .lst (row.map tr3)))]) (mods' := []) ⟨?ho, ?hcd, ?hco, ?hgen, ?hk⟩ ?hnd ?hloc ?hb ?hbody
  case ho => show (hd.heap_1 w.params).lookup 133 = some _; k_is
  case hcd => show codeIn (hd.heap_1 w.params) _ _ = true; k_is
  case hco => rfl
  case hgen => rfl
  case hk => rfl
  case hnd => decide
  case hloc => simp only [List.forall_mem_cons]; refine ⟨⟨.inl rfl, by decide⟩, ?_⟩; intro _ h; nomatch h
  case hb =>
    intro s W vs hv
    obtain ⟨v1, rfl, h1⟩ := hv.e1
    exact ⟨[(_, _)], rfl, .cons h1 .nil⟩
  case hbody =>
    intro β hlv hlent
    refine' Sp.cons (S1.assign (d := .lst [pr (0, 0)]) (fun own => ?ev) (.inr rfl) (by decide) ?_)
    case ev =>
      refine' Ev.list (EvL.cons (Ev.tuple (EvL.cons ?e1 (EvL.cons ?e2 EvL.nil))) EvL.nil)
      case e1 => walk_at "ev"
      case e2 => walk_at "ev"
    refine Sp.step (fun Γ' Ω' => Γ' "choices" = some (true, .lst ((soon row).map pr)) ∧ Γ' "row" = some (true, .lst (row.map tr3)) ∧ Ω' = []) ?loop ?fin
    case loop =>
      refine' S1.for (mods' := []) (ds := row.map tr3) (fun i Γ' Ω' => Γ' "choices" = some (true, .lst ((soon (row.take i)).map pr)) ∧ Γ' "row" = some (true, .lst (row.map tr3)) ∧ Ω' = []) (ItA.of ?hit) ?h0 ?turn ?fn
      case hit =>
        intro own
        refine' EvI.listTup ?it ?it2
        case it => walk_at "ev"
        case it2 =>
          intro d hd
          obtain ⟨t, _, rfl⟩ := List.mem_map.mp hd
          exact ⟨_, rfl⟩
      case h0 =>
        refine ⟨?_, by walk_at "nm", rfl⟩
        rw [List.take_zero]
        show _ = some (true, D.lst [pr (0, 0)])
        walk_at "nm"
      case turn =>
        rintro i d Γ' Ω' he ⟨h1, h2, rfl⟩
        rw [List.getElem?_map] at he
        obtain ⟨t, ht, rfl⟩ := Option.map_eq_some_iff.mp he
        have hi := (List.getElem?_eq_some_iff.mp ht).1
        obtain ⟨cs, hcs⟩ : ∃ cs, cs = soon (row.take i) := ⟨_, rfl⟩
        rw [← hcs] at h1
        have hsn : soon (row.take (i + 1)) = cs ++ cs.map (soon1 t) := by rw [List.take_add_one, ht, hcs]; exact soon_snoc _ _
        have hlen : cs.length ≤ 2 ^ 16 := by
          rw [hcs]
          have := soon_length (row.take i) [(0, 0)]
          unfold soon
          rw [this, List.length_take]
          simp only [List.length_cons, List.length_nil, Nat.zero_add, Nat.one_mul]
          exact Nat.pow_le_pow_right (by decide) (by omega)
        refine ⟨_, .tup3 (.inr rfl) (by decide) (by decide) (.inl rfl) (by decide) (by decide) (.inr rfl) (by decide) (by decide), fun I => ?_⟩
        refine' Sp.cons (S1.assign (d := .lst ((soon (row.take (i + 1))).map pr)) (fun own => ?ev) (.inr rfl) (by decide) (Sp.nil ⟨?c1, ?c2, rfl⟩))
        case c1 => walk_at "nm"
        case c2 => walk_at "nm"
        case ev =>
          rw [hsn, List.map_append]
          refine' Ev.bin (r₁ := (true, .lst (cs.map pr))) (r₂ := (true, .lst ((cs.map (soon1 t)).map pr))) ?a ?b (Op2.addL (by simp [sizeLine]; omega))
          case a => walk_at "ev"
          case b =>
            have e : (cs.map pr).filterMap (outSoon t) = (cs.map (soon1 t)).map pr := by
              rw [List.filterMap_map, ← List.filterMap_eq_map, List.filterMap_map]
              rfl
            rw [← e]
            refine' Ev.listComp (outSoon t) ?bok ?bit ?bturn ?bz
            case bok => walk_at "bo"
            case bit =>
              refine' EvI.listTup ?bi1 ?bi2
              case bi1 => walk_at "ev"
              case bi2 =>
                intro d hd
                obtain ⟨q, _, rfl⟩ := List.mem_map.mp hd
                exact ⟨_, rfl⟩
            case bz => simp [sizeLine]; omega
            case bturn =>
              intro j d he
              rw [List.getElem?_map] at he
              obtain ⟨q, hq, rfl⟩ := Option.map_eq_some_iff.mp he
              refine ⟨_, .tup2 (.inl rfl) (by decide) (by decide) (.inl rfl) (by decide) (by decide), fun B => ⟨TrL.nil, fun y hy => ?_⟩⟩
              cases hy
              refine' Ev.tuple (EvL.cons ?t1 (EvL.cons (Ev.bin (r₁ := (true, .int (if t.1 > q.2 then t.1 else q.2))) (r₂ := (true, .int t.2.2)) ?t2 ?t3 Op2.add) EvL.nil))
              case t1 => walk_at "ev"
              case t3 => walk_at "ev"
              case t2 =>
                refine' Ev.blt (rs := [(true, .int q.2), (true, .int t.1)]) (Glob1.act rfl rfl) ?em BltC.max2
                case em => walk_at "em"
      case fn =>
        rintro Γ' Ω' ⟨h1, h2, rfl⟩
        rw [List.length_map, List.take_length] at h1
        exact ⟨h1, h2, rfl⟩
    case fin =>
      rintro Γ' Ω' ⟨h1, h2, rfl⟩
      refine' Sp.cons (S1.ret (d := .lst (((List.range row.length).map fun (i : Nat) => minOf (soonEnds row (1 + i))).map D.int)) (fun own => ?e) (.inl rfl))
      case e =>
        have e : ((List.range (((row.map tr3).length : Int) + 1 - 1).toNat).map fun (i : Nat) => D.int (1 + i)).filterMap (outMin row) = ((List.range row.length).map fun (i : Nat) => minOf (soonEnds row (1 + i))).map D.int := by
          have e1 : (((row.map tr3).length : Int) + 1 - 1).toNat = row.length := by simp
          rw [e1, List.filterMap_map, List.map_map, ← List.filterMap_eq_map]
          rfl
        rw [← e]
        refine' Ev.listComp (outMin row) ?bok ?bit ?bturn ?bz
        case bok => walk_at "bo"
        case bit =>
          refine' EvI.range2 (b₁ := true) (b₂ := true) (Glob1.act rfl rfl) (EvM.cons ?r1 (EvM.cons (Ev.bin (r₁ := (true, .int ((row.map tr3).length : Nat))) (r₂ := (true, .int 1)) ?r2 ?r3 Op2.add) EvM.nil)) (by decide) (by decide) (by omega) (by rw [List.length_map]; omega)
          case r1 => walk_at "ev"
          case r3 => walk_at "ev"
          case r2 =>
            refine' Ev.lenOf (b₁ := true) (Glob1.act rfl rfl) ?la ?lb
            case la => walk_at "ev"
            case lb => rw [List.length_map]; omega
        case bz => simp [sizeLine]; omega
        case bturn =>
          intro j d he
          rw [List.getElem?_map] at he
          obtain ⟨k, hk, rfl⟩ := Option.map_eq_some_iff.mp he
          refine ⟨_, .name (.inr rfl) (by decide) (by decide), fun B => ⟨TrL.nil, fun y hy => ?_⟩⟩
          cases hy
          have hkr : k < row.length := by
            have h3 := List.mem_of_getElem? hk
            have h4 := List.mem_range.mp h3
            simp at h4
            omega
          obtain ⟨i0, ns, hns⟩ : ∃ i0 ns, soonEnds row (1 + (k : Nat)) = i0 :: ns := by
            obtain ⟨p, hp, hpk⟩ := soon_has row (k + 1) (by omega)
            have : p.2 ∈ soonEnds row (1 + (k : Nat)) := by
              unfold soonEnds
              refine List.mem_filterMap.mpr ⟨p, hp, ?_⟩
              rw [if_pos]
              rw [hpk]; omega
            cases hs : soonEnds row (1 + (k : Nat)) with
            | nil => rw [hs] at this; nomatch this
            | cons a l => exact ⟨a, l, rfl⟩
          rw [hns]
          refine' Ev.blt (rs := [(true, .lst ((i0 :: ns).map D.int))]) (Glob1.act rfl rfl) (EvM.cons ?cm EvM.nil) BltC.minL
          case cm =>
            rw [← hns]
            have e2 : ((soon row).map pr).filterMap (outEnd (1 + (k : Nat))) = (soonEnds row (1 + (k : Nat))).map D.int := by
              unfold soonEnds
              rw [List.filterMap_map, List.map_filterMap]
              congr 1
              funext p
              show outEnd (1 + (k : Nat)) (pr p) = _
              show (if p.1 = 1 + (k : Nat) then some (D.int p.2) else none) = _
              split <;> rfl
            rw [← e2]
            refine' Ev.listComp (outEnd (1 + (k : Nat))) ?iok ?iit ?iturn ?iz
            case iok => walk_at "bo"
            case iit =>
              refine' EvI.listTup ?ii1 ?ii2
              case ii1 => walk_at "ev"
              case ii2 =>
                intro d hd
                obtain ⟨q, _, rfl⟩ := List.mem_map.mp hd
                exact ⟨_, rfl⟩
            case iz =>
              rw [List.length_map]
              have := soon_length row [(0, 0)]
              unfold soon
              rw [this]
              simp only [List.length_cons, List.length_nil, Nat.zero_add, Nat.one_mul]
              exact Nat.le_trans (Nat.pow_le_pow_right (by decide) hrow) (by decide)
            case iturn =>
              intro j' d' he'
              rw [List.getElem?_map] at he'
              obtain ⟨q, hq, rfl⟩ := Option.map_eq_some_iff.mp he'
              refine ⟨_, .tup2 (.inl rfl) (by decide) (by decide) (.inl rfl) (by decide) (by decide), fun B2 => ⟨?tl, fun y hy => ?el⟩⟩
              case tl =>
                have e3 : (outEnd (1 + (k : Nat)) (pr q)).isSome = decide (q.1 = 1 + (k : Nat)) := by
                  show (if q.1 = 1 + (k : Nat) then some (D.int q.2) else none).isSome = _
                  by_cases h : q.1 = 1 + (k : Nat) <;> simp [h]
                rw [e3]
                refine' TrL.one (Tr.cmp (r₁ := (true, .int q.1)) (r₂ := (true, .int (1 + (k : Nat)))) ?u1 ?u2 Op2.eq)
                case u1 => walk_at "ev"
                case u2 => walk_at "ev"
              case el =>
                have hy' : (if q.1 = 1 + (k : Nat) then some (D.int q.2) else none) = some y := hy
                split at hy'
                · cases hy'
                  walk_at "ev"
                · cases hy'

noncomputable abbrev KD (ks : List Int) (f : Int → Int) : List (Int × D) := ks.map fun k => (k, D.int (f k))
noncomputable def outK (f : Int → Int) : D → Int × D
  | .int k => (k, .int (f k))
  | _ => (0, .none)
theorem any_KD {f : Int → Int} {ks : List Int} {k : Int} : (KD ks f).any (fun e => e.1 = k) = decide (k ∈ ks) := by
  induction ks with
  | nil => rfl
  | cons j ks ih =>
    show (decide (j = k) || (KD ks f).any _) = _
    rw [ih]
    by_cases h : j = k
    · simp [h]
    · have : ¬ k = j := fun e => h e.symm
      simp [h, this]
theorem dmade_KD {f : Int → Int} : ∀ (ks : List Int), ks.Nodup → dmade (outK f) (ks.map D.int) = KD ks f := by
  refine snocRec (fun _ => rfl) ?_
  intro ks k ih nd
  have h1 := List.nodup_append.mp nd
  have h2 : k ∉ ks := fun hm => h1.2.2 _ hm _ (List.mem_singleton.mpr rfl) rfl
  have e := ih h1.1
  unfold dmade at e ⊢
  rw [List.map_append, List.foldl_append, e]
  show stor (KD ks f) k (.int (f k)) = _
  unfold stor
  rw [any_KD, decide_eq_false h2, if_neg (by simp)]
  simp [KD]
theorem look_KD {f : Int → Int} {ks : List Int} {k : Int} (h : k ∈ ks) : look (KD ks f) k = some (.int (f k)) := by
  unfold look
  induction ks with
  | nil => nomatch h
  | cons j ks ih =>
    show ((((j, D.int (f j)) :: KD ks f).find? _).map _) = _
    rw [List.find?_cons]
    by_cases hj : j = k
    · subst hj; simp
    · simp only [hj, decide_false]
      exact ih (by rcases List.mem_cons.mp h with e | e; exact absurd e.symm hj; exact e)
theorem keys_BD (B : List (Int × Bk)) : (BD B).map (fun p => D.int p.1) = (B.map (·.1)).map D.int := by
  simp [BD]

noncomputable def outA (film : List Int) (one : Int) : D → Option D
  | .int two => if bgn film two < bgn film one ∧ bgn film one < ovr film two then some (pr (bgn film two, two)) else none
  | _ => none
noncomputable def scond (film : List Int) (one k : Int) : Bool := decide (film.getD k.toNat 0 = one) && (decide (k = bgn film one) || !decide (film.getD (k - 1).toNat 0 = one))
noncomputable def outS (film : List Int) (one : Int) : D → Option D
  | .int k => if scond film one k = true then some (.int k) else none
  | _ => none
noncomputable def outC (film ks : List Int) (one : Int) : D → Option D
  | .int two => if ((clrs film ks two).any fun p => p.1 = one) = true then some (.int (ovr film two - bgn film two)) else none
  | _ => none
theorem look_emb (ds : List (Int × Int)) (k : Int) : (look (emb ds) k).isSome = ds.any fun p => p.1 = k := by
  unfold look emb
  induction ds with
  | nil => rfl
  | cons p ds ih =>
    rw [List.map_cons, List.find?_cons, List.any_cons]
    by_cases h : p.1 = k
    · simp [h]
    · simp only [h, decide_false, Bool.false_or]; exact ih
theorem law_calls_c {w : World} {loose mean mg mb} {B : List (Int × Bk)} {ks film ends : List Int} (hks : B.map (·.1) = ks) (hnd : ks.Nodup) (hkl : ks.length ≤ 60) (hfl : film.length ≤ 1000) (hin : ∀ one ∈ ks, one ∈ film)
    (hsort : ∀ ns' : List Int, ns'.Perm (ks.map (ovr film)) → ns'.Pairwise (· ≤ ·) → ns' = ends)
    (hbook : ∀ one ∈ ks, bget B one = some ⟨1, (strx film one).length, film.count one, ovr film one - bgn film one, clrs film ks one⟩)
    (hsum : ∀ one ∈ ks, ovr film one - bgn film one = film.count one + ((ks.filter fun two => (clrs film ks two).any fun p => p.1 = one).map fun two => ovr film two - bgn film two).sum) :
    PureC (amb w loose mean mg mb) 138 2 [(true, .dct (BD B)), (true, .lst (film.map D.int)), (true, .lst (ends.map D.int))] [] [] (.bool true) := by
  refine' PureC.ofCells (rs' := [(Str.ofString "books", (true, .dct (BD B))), (Str.ofString "film", (true, .lst (film.map D.int))), (Str.ofString "ends", (true, .lst (ends.map D.int)))]) (mods' := []) ⟨?ho, ?hcd, ?hco, ?hgen, ?hk⟩ ?hnd ?hloc ?hb ?hbody
  case ho => show (hd.heap_1 w.params).lookup 138 = some _; k_is
  case hcd => show codeIn (hd.heap_1 w.params) _ _ = true; k_is
  case hco => rfl
  case hgen => rfl
  case hk => rfl
  case hnd => decide
  case hloc => simp only [List.forall_mem_cons]; refine ⟨⟨.inr rfl, by decide⟩, ⟨.inr rfl, by decide⟩, ⟨.inl rfl, by decide⟩, ?_⟩; intro _ h; nomatch h
  case hb =>
    intro s W vs hv
    obtain ⟨v1, v2, v3, rfl, h1, h2, h3⟩ := hv.e3
    exact ⟨[(_, _), (_, _), (_, _)], rfl, .cons h1 (.cons h2 (.cons h3 .nil))⟩
  case hbody =>
    intro β hlv hlent
    have hzk : ((BD B).map fun p => D.int p.1).length ≤ sizeLine := by
      have := congrArg List.length hks
      rw [List.length_map] at this
      simp [sizeLine]; omega
    refine' Sp.cons (S1.assign (d := .dct (KD ks (bgn film))) (fun own => ?ev) (.inr rfl) (by decide) ?_ (hs := (sw_with β.hsc _ _ _).trans rfl))
    case ev =>
      rw [← dmade_KD ks hnd, ← hks, ← keys_BD]
      refine' Ev.dictComp (outK (bgn film)) ?bok (EvI.keys ?bit) ?bturn hzk
      case bok => walk_at "bo"
      case bit => walk_at "ev"
      case bturn =>
        intro j d he
        rw [keys_BD, hks, List.getElem?_map] at he
        obtain ⟨k, hk, rfl⟩ := Option.map_eq_some_iff.mp he
        have hkf := hin k (List.mem_of_getElem? hk)
        obtain ⟨q1, q2⟩ := idxOf_spec hkf
        refine ⟨_, .name (.inl rfl) (by decide) (by decide), fun B' => ⟨TrL.nil, ?t1, ?t2⟩⟩
        case t1 => walk_at "ev"
        case t2 =>
          refine' Ev.index (b₁ := true) (b₂ := true) (ns := film) (k := k) (j := film.idxOf k) ?u1 ?u2 q1 q2 (by omega)
          case u1 => walk_at "ev"
          case u2 => walk_at "ev"
    refine' Sp.cons (S1.assign (d := .dct (KD ks (ovr film))) (fun own => ?ev) (.inr rfl) (by decide) ?_ (hs := (sw_with β.hsc _ _ _).trans rfl))
    case ev =>
      have e : KD ks (ovr film) = dmade (outK (ovr film)) ((BD B).map fun p => D.int p.1) := by rw [keys_BD, hks, dmade_KD ks hnd]
      rw [e]
      refine' Ev.dictComp (outK (ovr film)) ?bok (EvI.keys ?bit) ?bturn hzk
      case bok => walk_at "bo"
      case bit => walk_at "ev"
      case bturn =>
        intro j d he
        rw [keys_BD, hks, List.getElem?_map] at he
        obtain ⟨k, hk, rfl⟩ := Option.map_eq_some_iff.mp he
        have hkf := hin k (List.mem_of_getElem? hk)
        obtain ⟨q1, q2⟩ := idxOf_spec (List.mem_reverse.mpr hkf)
        refine ⟨_, .name (.inl rfl) (by decide) (by decide), fun B' => ⟨TrL.nil, ?t1, ?t2⟩⟩
        case t1 => walk_at "ev"
        case t2 =>
          refine' Ev.bin (r₁ := (true, .int ((film.map D.int).length : Nat))) (r₂ := (true, .int (film.reverse.idxOf k : Nat))) ?v1 ?v2 ?v3
          case v1 =>
            refine' Ev.lenOf (b₁ := true) (Glob1.act rfl rfl) ?la ?lb
            case la => walk_at "ev"
            case lb => rw [List.length_map]; exact hfl
          case v2 =>
            refine' Ev.index (b₁ := true) (b₂ := true) (ns := film.reverse) (k := k) (j := film.reverse.idxOf k) ?u1 ?u2 q1 q2 (by rw [List.length_reverse]; omega)
            case u1 =>
              rw [List.map_reverse]
              refine' Ev.reversed (b₁ := true) ?w1 (by rw [List.length_map]; unfold sizeLine; omega) (Ev.neg (b₁ := true) ?w2)
              case w1 => walk_at "ev"
              case w2 => walk_at "ev"
            case u2 => walk_at "ev"
          case v3 =>
            rw [List.length_map]
            exact Op2.sub
    refine' Sp.cons (S1.ife (b := false) (fun own => ?tr) (fun hq => by cases hq) (fun _ => Sp.nil ?_))
    case tr =>
      refine' Tr.cmp (r₁ := (true, .lst (ends.map D.int))) (r₂ := (true, .lst (ends.map D.int))) ?t1 ?t2 Op2.neInts
      case t1 =>
        refine' Ev.sortedValues (kvs := KD ks (ovr film)) (ns := ks.map (ovr film)) (Glob1.act rfl rfl) (EvV.of (b₁ := true) ?s1) ?s2 (by rw [List.length_map]; omega) hsort
        case s1 => walk_at "ev"
        case s2 => simp [KD]
      case t2 => walk_at "ev"
    refine Sp.step (fun Γ' Ω' => Ω' = []) ?loop ?fin
    case fin =>
      rintro Γ' Ω' rfl
      refine' Sp.cons (S1.ret (d := .bool true) (fun own => Ev.bool) (.inl rfl))
    case loop =>
      refine' S1.for (mods' := []) (ds := ks.map D.int) (fun i Γ' Ω' => Γ' "books" = some (true, .dct (BD B)) ∧ Γ' "film" = some (true, .lst (film.map D.int)) ∧ Γ' "begins" = some (true, .dct (KD ks (bgn film))) ∧ Γ' "overs" = some (true, .dct (KD ks (ovr film))) ∧ Ω' = []) (ItA.of ?hit) ?h0 ?turn ?fn
      case hit =>
        intro own
        rw [← hks, ← keys_BD]
        refine' EvI.keys ?it
        case it => rw [hks]; walk_at "ev"
      case h0 => exact ⟨by walk_at "nm", by walk_at "nm", by walk_at "nm", by walk_at "nm", rfl⟩
      case fn => rintro Γ' Ω' ⟨_, _, _, _, rfl⟩; rfl
      case turn =>
        rintro i d Γ' Ω' he ⟨h1, h2, h3, h4, rfl⟩
        rw [List.getElem?_map] at he
        obtain ⟨one, hone, rfl⟩ := Option.map_eq_some_iff.mp he
        have hmem : one ∈ ks := List.mem_of_getElem? hone
        have hbk := hbook one hmem
        have hsm := hsum one hmem
        obtain ⟨bg, hbg⟩ : ∃ bg, bg = bgn film one := ⟨_, rfl⟩
        obtain ⟨ov, hov⟩ : ∃ ov, ov = ovr film one := ⟨_, rfl⟩
        refine ⟨_, .name (.inr rfl) (by decide) (by decide), fun I => ?_⟩
        refine' Sp.cons (S1.assignT (d := .tup [.int bg, .int ov]) (fun own => ?ev) (.tup2 (.inr rfl) (by decide) (by decide) (.inl rfl) (by decide) (by decide)) ?_ (hw := (sw_stores β.hsc _ _).trans rfl))
        case ev =>
          rw [hbg, hov]
          refine' Ev.tuple (EvL.cons (Ev.at (b₁ := true) (b₂ := true) (kvs := KD ks (bgn film)) (k := one) ?a1 ?a2 (look_KD hmem)) (EvL.cons (Ev.at (b₁ := true) (b₂ := true) (kvs := KD ks (ovr film)) (k := one) ?a3 ?a4 (look_KD hmem)) EvL.nil))
          case a1 => walk_at "ev"
          case a2 => walk_at "ev"
          case a3 => walk_at "ev"
          case a4 => walk_at "ev"
        have hA : ((BD B).map fun p => D.int p.1).filterMap (outA film one) = (arnd film ks one).map pr := by
          rw [keys_BD, hks, List.filterMap_map]
          unfold arnd
          rw [List.map_filterMap]
          congr 1
          funext two
          show (if bgn film two < bgn film one ∧ bgn film one < ovr film two then some (pr (bgn film two, two)) else none) = _
          split <;> rfl
        refine' Sp.cons (S1.assignMade (d := .lst ((arnd film ks one).map pr)) (fun own => ?bok) (fun own => ?mk) (.inl rfl) (by decide) ?_ (hsw := (sw_with β.hsc _ _ _).trans rfl))
        case bok => walk_at "bo"
        case mk =>
          rw [← hA]
          refine' Made.list (outA film one) ?bok2 (EvI.keys ?bit) ?bturn hzk
          case bok2 => walk_at "bo"
          case bit => walk_at "ev"
          case bturn =>
            intro j d he
            rw [keys_BD, hks, List.getElem?_map] at he
            obtain ⟨two, htwo, rfl⟩ := Option.map_eq_some_iff.mp he
            have hm2 : two ∈ ks := List.mem_of_getElem? htwo
            refine ⟨_, .name (.inl rfl) (by decide) (by decide), fun B' => ⟨?tl, fun y hy => ?el⟩⟩
            case tl =>
              have e3 : (outA film one (D.int two)).isSome = (decide (bgn film two < bg) && decide (bg < ovr film two)) := by
                rw [hbg]
                show (if bgn film two < bgn film one ∧ bgn film one < ovr film two then some (pr (bgn film two, two)) else none).isSome = _
                by_cases h1 : bgn film two < bgn film one <;> by_cases h2 : bgn film one < ovr film two <;> simp [h1, h2]
              rw [e3]
              refine' TrL.one (Tr.chainLt (b₁ := true) (b₂ := true) (b₃ := true) (Ev.at (b₁ := true) (b₂ := true) (kvs := KD ks (bgn film)) (k := two) ?a1 ?a2 (look_KD hm2)) ?a3 (Ev.at (b₁ := true) (b₂ := true) (kvs := KD ks (ovr film)) (k := two) ?a4 ?a5 (look_KD hm2)))
              case a1 => walk_at "ev"
              case a2 => walk_at "ev"
              case a3 => walk_at "ev"
              case a4 => walk_at "ev"
              case a5 => walk_at "ev"
            case el =>
              have hy' : (if bgn film two < bgn film one ∧ bgn film one < ovr film two then some (pr (bgn film two, two)) else none) = some y := hy
              split at hy'
              · cases hy'
                refine' Ev.tuple (EvL.cons (Ev.at (b₁ := true) (b₂ := true) (kvs := KD ks (bgn film)) (k := two) ?c1 ?c2 (look_KD hm2)) (EvL.cons ?c3 EvL.nil))
                case c1 => walk_at "ev"
                case c2 => walk_at "ev"
                case c3 => walk_at "ev"
              · cases hy'
        have harl : (arnd film ks one).length ≤ 60 := by
          unfold arnd
          exact Nat.le_trans (List.length_filterMap_le _ _) hkl
        refine' Sp.cons (S1.assign (d := .dct (emb (clrs film ks one))) (fun own => ?ev) (.inl rfl) (by decide) ?_)
        case ev =>
          refine' Ev.ife (c := !((arnd film ks one).map pr).isEmpty) (Tr.plain (r := (true, .lst ((arnd film ks one).map pr))) ?t (Truthy.lst (by rw [List.length_map]; omega))) ?yy ?nn
          case t => walk_at "ev"
          case yy =>
            intro hq
            cases har : arnd film ks one with
            | nil => rw [har] at hq; cases hq
            | cons p ps =>
              have e : clrs film ks one = [((mostP p ps).2, 1)] := by unfold clrs; rw [har]
              rw [e]
              refine' Ev.dict1 (b₁ := true) (b₂ := true) (Ev.place (b₁ := true) (b₂ := true) (ds := [.int (mostP p ps).1, .int (mostP p ps).2]) (k := 1) (Ev.blt (rs := [(true, .lst ((p :: ps).map pr))]) (Glob1.act rfl rfl) (EvM.cons ?m1 EvM.nil) BltC.maxPairs) ?m2 (by decide) (by decide) rfl) ?m3
              case m1 => rw [← har]; walk_at "ev"
              case m2 => walk_at "ev"
              case m3 => walk_at "ev"
          case nn =>
            intro hq
            cases har : arnd film ks one with
            | nil =>
              have e : clrs film ks one = [] := by unfold clrs; rw [har]
              rw [e]
              exact Ev.dict0
            | cons p ps => rw [har] at hq; cases hq
        have hbg0 : 0 ≤ bg := by rw [hbg]; unfold bgn; omega
        have hov1 : ov ≤ film.length := by rw [hov]; unfold ovr; omega
        have hbg1 : bg < film.length := by
          have := (List.getElem?_eq_some_iff.mp (idxOf_spec (hin one hmem)).1).1
          rw [hbg]; unfold bgn; omega
        have hov0 : 0 ≤ ov := by
          have := (List.getElem?_eq_some_iff.mp (idxOf_spec (List.mem_reverse.mpr (hin one hmem))).1).1
          rw [List.length_reverse] at this
          rw [hov]; unfold ovr; omega
        have hS : ((List.range (ov - bg).toNat).map fun (i : Nat) => D.int (bg + i)).filterMap (outS film one) = (strx film one).map D.int := by
          unfold strx
          rw [← hbg, ← hov, ← List.filterMap_eq_filter, List.map_filterMap, List.filterMap_map, List.filterMap_map]
          congr 1
          funext i
          show (if scond film one (bg + (i : Int)) = true then some (D.int (bg + (i : Int))) else none) = _
          unfold scond
          rw [← hbg]
          simp only [Function.comp, Option.guard]
          split <;> simp_all
        refine' Sp.cons (S1.assignMade (d := .lst ((strx film one).map D.int)) (fun own => ?bok) (fun own => ?mk) (.inl rfl) (by decide) ?_ (hsw := (sw_with β.hsc _ _ _).trans rfl))
        case bok => walk_at "bo"
        case mk =>
          rw [← hS]
          refine' Made.list (outS film one) ?bok2 (EvI.range2 (b₁ := true) (b₂ := true) (Glob1.act rfl rfl) ?rm (by omega) (by omega) (by omega) (by omega)) ?bturn (by simp [sizeLine]; omega)
          case bok2 => walk_at "bo"
          case rm => walk_at "em"
          case bturn =>
            intro j d he
            rw [List.getElem?_map] at he
            obtain ⟨i, hi, rfl⟩ := Option.map_eq_some_iff.mp he
            have hir := List.mem_range.mp (List.mem_of_getElem? hi)
            obtain ⟨k, hk⟩ : ∃ k : Int, k = bg + (i : Int) := ⟨_, rfl⟩
            rw [← hk]
            have hk0 : 0 ≤ k ∧ k < film.length ∧ bg ≤ k := by omega
            have hat : ∀ m : Int, 0 ≤ m → m < film.length → (film.map D.int)[m.toNat]? = some (.int (film.getD m.toNat 0)) := fun m h0 h1 => by
              have hlt : m.toNat < film.length := by omega
              rw [List.getElem?_map, List.getElem?_eq_getElem hlt, List.getD_eq_getElem?_getD, List.getElem?_eq_getElem hlt]; rfl
            refine ⟨_, .name (.inl rfl) (by decide) (by decide), fun B' => ⟨?tl, fun y hy => ?el⟩⟩
            case tl =>
              have e3 : (outS film one (D.int k)).isSome = (decide (film.getD k.toNat 0 = one) && ((decide (k = bg) || (!decide (film.getD (k - 1).toNat 0 = one) || false)) && true)) := by
                show (if scond film one k = true then some (D.int k) else none).isSome = _
                unfold scond
                rw [← hbg]
                cases decide (film.getD k.toNat 0 = one) <;> cases decide (k = bg) <;> cases decide (film.getD (k - 1).toNat 0 = one) <;> rfl
              rw [e3]
              refine' TrL.one (Tr.and (Tr.cmp (r₁ := (true, .int (film.getD k.toNat 0))) (r₂ := (true, .int one)) (Ev.item (b₁ := true) (b₂ := true) (ds := film.map D.int) (k := k) ?a1 ?a2 hk0.1 (by omega) (hat k hk0.1 hk0.2.1)) ?a3 Op2.eq) (fun _ => Tr.and (Tr.or (Tr.cmp (r₁ := (true, .int k)) (r₂ := (true, .int bg)) ?a4 ?a5 Op2.eq) (fun hne => Tr.or (Tr.cmp (r₁ := (true, .int (film.getD (k - 1).toNat 0))) (r₂ := (true, .int one)) (Ev.item (b₁ := true) (b₂ := true) (ds := film.map D.int) (k := k - 1) ?a6 ?a7 ?a8 (by omega) (hat (k - 1) ?a9 (by omega))) ?b1 Op2.ne) (fun _ => Tr.orNil))) (fun _ => Tr.andNil)))
              case a1 => walk_at "ev"
              case a2 => walk_at "ev"
              case a3 => walk_at "ev"
              case a4 => walk_at "ev"
              case a5 => walk_at "ev"
              case a6 => walk_at "ev"
              case a7 => walk_at "ev"
              case a8 => have := of_decide_eq_false hne; omega
              case a9 => have := of_decide_eq_false hne; omega
              case b1 => walk_at "ev"
            case el =>
              have hy' : (if scond film one k = true then some (D.int k) else none) = some y := hy
              split at hy'
              · cases hy'
                walk_at "ev"
              · cases hy'
        have hbd : look (BD B) one = some (bk 1 (strx film one).length (film.count one) (ov - bg) (clrs film ks one)) := by
          rw [look_BD, hbk, hbg, hov]; rfl
        refine' Sp.cons (S1.assign (d := .int (film.count one : Nat)) (fun own => ?ev) (.inl rfl) (by decide) ?_)
        case ev =>
          refine' Ev.count (b₁ := true) (b₂ := true) ?u1 ?u2
          case u1 => walk_at "ev"
          case u2 => walk_at "ev"
        refine' Sp.cons (S1.ife (b := false) (fun own => ?tr) (fun hq => by cases hq) (fun _ => Sp.nil ?_))
        case tr =>
          refine' Tr.cmp (r₁ := (true, bk 1 (strx film one).length (film.count one) (ov - bg) (clrs film ks one))) (r₂ := (true, bk 1 (strx film one).length (film.count one) (ov - bg) (clrs film ks one))) (Ev.at (b₁ := true) (b₂ := true) (kvs := BD B) (k := one) ?a1 ?a2 hbd) (Ev.tuple (EvL.cons ?a3 (EvL.cons ?a4 (EvL.cons ?a5 (EvL.cons ?a6 (EvL.cons ?a7 EvL.nil)))))) Op2.neBook
          case a1 => walk_at "ev"
          case a2 => walk_at "ev"
          case a3 => walk_at "ev"
          case a4 =>
            have e : ((strx film one).length : Int) = (((strx film one).map D.int).length : Nat) := by rw [List.length_map]
            rw [e]
            refine' Ev.lenOf (b₁ := true) (Glob1.act rfl rfl) ?la ?lb
            case la => walk_at "ev"
            case lb =>
              rw [List.length_map]
              unfold strx
              refine Nat.le_trans (List.length_filter_le _ _) ?_
              rw [List.length_map, List.length_range, ← hbg, ← hov]
              omega
          case a5 => walk_at "ev"
          case a6 => walk_at "ev"
          case a7 => walk_at "ev"
        have hcs : ((clrs film ks one).map (·.2)).sum = (if (((arnd film ks one).map pr).length : Int) < 1 then (((arnd film ks one).map pr).length : Int) else 1) := by
          unfold clrs
          cases arnd film ks one with
          | nil => rfl
          | cons p ps =>
            rw [if_neg (by simp; omega)]; rfl
        refine' Sp.cons (S1.ife (b := !decide (((clrs film ks one).map (·.2)).sum = (if (((arnd film ks one).map pr).length : Int) < 1 then (((arnd film ks one).map pr).length : Int) else 1))) (fun own => ?tr) (fun hq => by rw [decide_eq_true hcs] at hq; cases hq) (fun _ => Sp.nil ?_))
        case tr =>
          refine' Tr.cmp (r₁ := (true, .int ((clrs film ks one).map (·.2)).sum)) (r₂ := (true, .int (if (((arnd film ks one).map pr).length : Int) < 1 then (((arnd film ks one).map pr).length : Int) else 1))) (Ev.call (rs := [(true, .dct (emb (clrs film ks one)))]) (Glob1.act rfl rfl) ?kk (EvM.cons (Ev.place (b₁ := true) (b₂ := true) (k := 4) (Ev.at (b₁ := true) (b₂ := true) (kvs := BD B) (k := one) ?a1 ?a2 hbd) ?a3 (by decide) (by decide) rfl) EvM.nil) (count_calls_c (ds := clrs film ks one)) (by show 0 < β.lv; omega)) (Ev.blt (rs := [(true, .int 1), (true, .int (((arnd film ks one).map pr).length : Nat))]) (Glob1.act rfl rfl) (EvM.cons ?a4 (EvM.cons (Ev.lenOf (b₁ := true) (Glob1.act rfl rfl) ?a5 (by rw [List.length_map]; omega)) EvM.nil)) BltC.min2) Op2.ne
          case kk => show keepIn (hd.heap_1 w.params) _ = true; k_is
          case a1 => walk_at "ev"
          case a2 => walk_at "ev"
          case a3 => walk_at "ev"
          case a4 => walk_at "ev"
          case a5 => walk_at "ev"
        obtain ⟨ns, hns⟩ : ∃ ns : List Int, ns = (ks.filter fun two => (clrs film ks two).any fun p => p.1 = one).map fun two => ovr film two - bgn film two := ⟨_, rfl⟩
        rw [← hns] at hsm
        have hC : ((BD B).map fun p => D.int p.1).filterMap (outC film ks one) = ns.map D.int := by
          rw [keys_BD, hks, List.filterMap_map, hns, ← List.filterMap_eq_filter, List.map_filterMap, List.map_filterMap]
          congr 1
          funext two
          show (if ((clrs film ks two).any fun p => p.1 = one) = true then some (D.int (ovr film two - bgn film two)) else none) = _
          simp only [Option.guard]
          split <;> simp_all
        refine' Sp.cons (S1.ife (b := !decide (ov - bg = (film.count one : Nat) + ns.sum)) (fun own => ?tr) (fun hq => ?no) (fun _ => Sp.nil (Sp.nil ?_)))
        case no =>
          rw [← hbg, ← hov] at hsm
          rw [decide_eq_true hsm] at hq
          cases hq
        case tr =>
          refine' Tr.cmp (r₁ := (true, .int (ov - bg))) (r₂ := (true, .int ((film.count one : Nat) + ns.sum))) ?a1 (Ev.bin (r₁ := (true, .int (film.count one : Nat))) (r₂ := (true, .int ns.sum)) ?a2 (Ev.blt (rs := [(true, .lst (ns.map D.int))]) (Glob1.act rfl rfl) (EvM.cons ?a3 EvM.nil) BltC.sumL) Op2.add) Op2.ne
          case a1 => walk_at "ev"
          case a2 => walk_at "ev"
          case a3 =>
            rw [← hC]
            refine' Ev.listComp (outC film ks one) ?bok (EvI.keys ?bit) ?bturn hzk
            case bok => walk_at "bo"
            case bit => walk_at "ev"
            case bturn =>
              intro j d he
              rw [keys_BD, hks, List.getElem?_map] at he
              obtain ⟨two, htwo, rfl⟩ := Option.map_eq_some_iff.mp he
              have hb2 := hbook two (List.mem_of_getElem? htwo)
              have hbd2 : look (BD B) two = some (bk 1 (strx film two).length (film.count two) (ovr film two - bgn film two) (clrs film ks two)) := by rw [look_BD, hb2]; rfl
              refine ⟨_, .name (.inl rfl) (by decide) (by decide), fun B' => ⟨?tl, fun y hy => ?el⟩⟩
              case tl =>
                have e3 : (outC film ks one (D.int two)).isSome = (look (emb (clrs film ks two)) one).isSome := by
                  rw [look_emb]
                  show (if ((clrs film ks two).any fun p => p.1 = one) = true then some (D.int (ovr film two - bgn film two)) else none).isSome = _
                  cases ((clrs film ks two).any fun p => p.1 = one) <;> rfl
                rw [e3]
                refine' TrL.one (Tr.cmp (r₁ := (true, .int one)) (r₂ := (true, .dct (emb (clrs film ks two)))) ?c1 (Ev.place (b₁ := true) (b₂ := true) (k := 4) (Ev.at (b₁ := true) (b₂ := true) (kvs := BD B) (k := two) ?c2 ?c3 hbd2) ?c4 (by decide) (by decide) rfl) Op2.inDict)
                case c1 => walk_at "ev"
                case c2 => walk_at "ev"
                case c3 => walk_at "ev"
                case c4 => walk_at "ev"
              case el =>
                have hy' : (if ((clrs film ks two).any fun p => p.1 = one) = true then some (D.int (ovr film two - bgn film two)) else none) = some y := hy
                split at hy'
                · cases hy'
                  refine' Ev.place (b₁ := true) (b₂ := true) (k := 3) (Ev.at (b₁ := true) (b₂ := true) (kvs := BD B) (k := two) ?d1 ?d2 hbd2) ?d3 (by decide) (by decide) rfl
                  case d1 => walk_at "ev"
                  case d2 => walk_at "ev"
                  case d3 => walk_at "ev"
                · cases hy'
        exact ⟨by walk_at "nm", by walk_at "nm", by walk_at "nm", by walk_at "nm", rfl⟩

theorem bisect_c {w : World} {loose mean mg mb} {b : Bool} {row : List (Int × Int × Int)} {x : Int} {f : Addr} {os : List (Addr × Obj)} (hk : IsKey f os) (hz : row.length ≤ 1000) :
    PureC (amb w loose mean mg mb) 32 1 [(b, .lst (row.map tr3)), (true, .int x), (true, .int 0), (true, .none)] [Str.ofString "key"] [(true, .obj (.ref f) os)] (.int (bis (row.map (·.1)) x 0 row.length : Nat)) := by
  refine' PureC.of (rs' := [(Str.ofString "a", (b, .lst (row.map tr3))), (Str.ofString "x", (true, .int x)), (Str.ofString "lo", (true, .int 0)), (Str.ofString "hi", (true, .none)), (Str.ofString "key", (true, .obj (.ref f) os))]) (mods' := []) ⟨?ho, ?hcd, ?hco, ?hgen, ?hk⟩ ?hcell ?hloc ?hb ?hbody
  case ho => show (hd.heap_1 w.params).lookup 32 = some _; k_is
  case hcd => show codeIn (hd.heap_1 w.params) _ _ = true; k_is
  case hco => rfl
  case hgen => rfl
  case hk => rfl
  case hcell => decide
  case hloc => simp only [List.forall_mem_cons]; refine ⟨⟨rfl, by decide⟩, ⟨rfl, by decide⟩, ⟨rfl, by decide⟩, ⟨rfl, by decide⟩, ⟨rfl, by decide⟩, ?_⟩; intro _ h; nomatch h
  case hb =>
    intro s W vs ks hX hv hk
    obtain ⟨u1, rfl, k1⟩ := hk.e1
    obtain ⟨v1, v2, v3, v4, rfl, h1, h2, h3, h4⟩ := hv.e4
    refine ⟨[(_, _), (_, _), (_, _), (_, _), (_, _)], binds_K (K := hd.heap_1 w.params) hX rfl (by k_is) rfl rfl rfl, .cons h1 (.cons h2 (.cons h3 (.cons h4 (.cons k1 .nil))))⟩
  case hbody =>
    intro β hlv hlent
    refine' Sp.cons (S1.ife (b := decide ((0 : Int) < 0)) (fun own => ?tr) (fun hq => by simp at hq) (fun _ => Sp.nil ?_))
    case tr => walk_at "tr"
    refine' Sp.cons (S1.ife (b := true) (fun own => ?tr) (fun _ => ?_) (fun hq => by cases hq))
    case tr =>
      refine' Tr.cmp (r₁ := (true, .none)) (r₂ := (true, .none)) ?t1 ?t2 Op2.isNone
      case t1 => walk_at "ev"
      case t2 => walk_at "ev"
    refine' Sp.cons (S1.assign (d := .int ((row.map tr3).length : Nat)) (fun own => ?ev) (.inl rfl) (by decide) (Sp.nil ?_))
    case ev =>
      refine' Ev.lenOf (b₁ := b) (Glob1.act rfl rfl) ?la ?lb
      case la => walk_at "ev"
      case lb => rw [List.length_map]; exact hz
    rw [List.length_map]
    refine' Sp.cons (S1.ife (b := false) (fun own => ?tr) (fun hq => by cases hq) (fun _ => ?_))
    case tr =>
      refine' Tr.cmp (r₁ := (true, .obj (.ref f) os)) (r₂ := (true, .none)) ?t1 ?t2 Op2.isNoneObj
      case t1 => walk_at "ev"
      case t2 => walk_at "ev"
    refine Sp.step (fun Γ' Ω' => Γ' "lo" = some (true, .int (bis (row.map (·.1)) x 0 row.length : Nat)) ∧ Ω' = []) ?loop ?fin
    case loop =>
      refine S1.while (fun k Γ' Ω' => ∃ lo hi : Nat, Γ' "a" = some (b, .lst (row.map tr3)) ∧ Γ' "x" = some (true, .int x) ∧ Γ' "lo" = some (true, .int lo) ∧ Γ' "hi" = some (true, .int hi) ∧ Γ' "key" = some (true, .obj (.ref f) os) ∧ Ω' = [] ∧ lo ≤ hi ∧ hi ≤ row.length ∧ k = hi - lo ∧ bis (row.map (·.1)) x lo hi = bis (row.map (·.1)) x 0 row.length) row.length ⟨0, row.length, rfl, rfl, rfl, rfl, rfl, rfl, by omega, by omega, by omega, rfl⟩ ?_
      rintro k Γ' Ω' ⟨lo, hi, h1, h2, h3, h4, h5, rfl, h6, h7, h8, h9⟩
      refine ⟨decide ((lo : Int) < hi), fun own => by walk_at "tr", fun hb => ?_, fun hb => ?_⟩
      · have hlt : lo < hi := by simpa using hb
        have e1 : ((lo : Int) + hi).fdiv 2 = (((lo + hi) / 2 : Nat) : Int) := by
          rw [Int.fdiv_eq_ediv_of_nonneg _ (by decide)]; omega
        have hq : (lo + hi) / 2 < row.length := by omega
        obtain ⟨y, hy⟩ : ∃ y, row[(lo + hi) / 2]? = some y := ⟨_, List.getElem?_eq_getElem hq⟩
        have hg : (row.map (·.1)).getD ((lo + hi) / 2) 0 = y.1 := by simp [List.getD, hy]
        rw [bis, dif_pos hlt, hg] at h9
        refine Sp.cons (S1.assign (d := .int (((lo + hi) / 2 : Nat) : Int)) (fun own => by rw [← e1]; walk_at "ev") (.inl rfl) (by decide) ?_)
        refine' Sp.cons (S1.ife (b := decide (x < y.1)) (fun own => ?tr) (fun hb => ?_) fun hb => ?_)
        case tr =>
          refine' Tr.cmp (r₁ := (true, .int x)) (r₂ := (true, .int y.1)) ?t1 ?t2 Op2.lt
          case t1 => walk_at "ev"
          case t2 =>
            refine' Ev.callKey (ds := [.int y.2.1, .int y.2.2]) ?k1 hk ?k2 (by omega)
            case k1 => walk_at "nm"
            case k2 =>
              refine' Ev.item (ds := row.map tr3) (k := (((lo + hi) / 2 : Nat) : Int)) (b₁ := b) (b₂ := true) ?a ?b ?c ?d ?e ?f
              case a => walk_at "ev"
              case b => walk_at "ev"
              case c => omega
              case d => omega
              case e => rw [Int.toNat_natCast, List.getElem?_map, hy]; rfl
              case f => intro _ _; rfl
        · rw [if_pos (by simpa using hb)] at h9
          refine' Sp.cons (S1.assign (d := .int (((lo + hi) / 2 : Nat) : Int)) (fun own => ?e) (.inl rfl) (by decide) (Sp.nil (Sp.nil ?_)))
          case e => walk_at "ev"
          refine' ⟨(lo + hi) / 2 - lo, by omega, lo, (lo + hi) / 2, ?a, ?b, ?c, ?d, ?e, rfl, by omega, by omega, rfl, h9⟩
          case a => walk_at "nm"
          case b => walk_at "nm"
          case c => walk_at "nm"
          case d => walk_at "nm"
          case e => walk_at "nm"
        · rw [if_neg (by simpa using hb)] at h9
          refine' Sp.cons (S1.assign (d := .int (((lo + hi) / 2 + 1 : Nat) : Int)) (fun own => ?e) (.inl rfl) (by decide) (Sp.nil (Sp.nil ?_)))
          case e =>
            rw [show (((lo + hi) / 2 + 1 : Nat) : Int) = (((lo + hi) / 2 : Nat) : Int) + 1 by omega]
            walk_at "ev"
          refine' ⟨hi - ((lo + hi) / 2 + 1), by omega, (lo + hi) / 2 + 1, hi, ?a, ?b, ?c, ?d, ?e, rfl, by omega, by omega, rfl, h9⟩
          case a => walk_at "nm"
          case b => walk_at "nm"
          case c => walk_at "nm"
          case d => walk_at "nm"
          case e => walk_at "nm"
      · have hge : ¬ lo < hi := by simpa using hb
        rw [bis, dif_neg hge] at h9
        exact ⟨by rw [h3, h9], rfl⟩
    case fin =>
      rintro Γ' Ω' ⟨h1, rfl⟩
      refine Sp.nil ?_
      refine' Sp.cons (S1.ret (d := .int (bis (row.map (·.1)) x 0 row.length : Nat)) (fun own => ?e) (.inl rfl))
      case e => walk_at "ev"

theorem bisect2_c {w : World} {loose mean mg mb} {b : Bool} {row : List (Int × Int × Int)} {x : Int} {f : Addr} {os : List (Addr × Obj)} (hk : IsKey f os) (hz : row.length ≤ 1000) :
    PureC (amb w loose mean mg mb) 32 1 [(b, .lst (row.map tr3)), (true, .int x)] [Str.ofString "key"] [(true, .obj (.ref f) os)] (.int (bis (row.map (·.1)) x 0 row.length : Nat)) := by
  refine' PureC.of (rs' := [(Str.ofString "a", (b, .lst (row.map tr3))), (Str.ofString "x", (true, .int x)), (Str.ofString "lo", (true, .int 0)), (Str.ofString "hi", (true, .none)), (Str.ofString "key", (true, .obj (.ref f) os))]) (mods' := []) ⟨?ho, ?hcd, ?hco, ?hgen, ?hk⟩ ?hcell ?hloc ?hb ?hbody
  case ho => show (hd.heap_1 w.params).lookup 32 = some _; k_is
  case hcd => show codeIn (hd.heap_1 w.params) _ _ = true; k_is
  case hco => rfl
  case hgen => rfl
  case hk => rfl
  case hcell => decide
  case hloc => simp only [List.forall_mem_cons]; refine ⟨⟨rfl, by decide⟩, ⟨rfl, by decide⟩, ⟨rfl, by decide⟩, ⟨rfl, by decide⟩, ⟨rfl, by decide⟩, ?_⟩; intro _ h; nomatch h
  case hb =>
    intro s W vs ks hX hv hk
    obtain ⟨u1, rfl, k1⟩ := hk.e1
    obtain ⟨v1, v2, rfl, h1, h2⟩ := hv.e2
    refine ⟨[(_, _), (_, _), (_, _), (_, _), (_, _)], binds_K (K := hd.heap_1 w.params) hX rfl (by k_is) rfl rfl rfl, .cons h1 (.cons h2 (.cons (Vi.of_int _ _) (.cons Vi.of_none (.cons k1 .nil))))⟩
  case hbody =>
    intro β hlv hlent
    refine' Sp.cons (S1.ife (b := decide ((0 : Int) < 0)) (fun own => ?tr) (fun hq => by simp at hq) (fun _ => Sp.nil ?_))
    case tr => walk_at "tr"
    refine' Sp.cons (S1.ife (b := true) (fun own => ?tr) (fun _ => ?_) (fun hq => by cases hq))
    case tr =>
      refine' Tr.cmp (r₁ := (true, .none)) (r₂ := (true, .none)) ?t1 ?t2 Op2.isNone
      case t1 => walk_at "ev"
      case t2 => walk_at "ev"
    refine' Sp.cons (S1.assign (d := .int ((row.map tr3).length : Nat)) (fun own => ?ev) (.inl rfl) (by decide) (Sp.nil ?_))
    case ev =>
      refine' Ev.lenOf (b₁ := b) (Glob1.act rfl rfl) ?la ?lb
      case la => walk_at "ev"
      case lb => rw [List.length_map]; exact hz
    rw [List.length_map]
    refine' Sp.cons (S1.ife (b := false) (fun own => ?tr) (fun hq => by cases hq) (fun _ => ?_))
    case tr =>
      refine' Tr.cmp (r₁ := (true, .obj (.ref f) os)) (r₂ := (true, .none)) ?t1 ?t2 Op2.isNoneObj
      case t1 => walk_at "ev"
      case t2 => walk_at "ev"
    refine Sp.step (fun Γ' Ω' => Γ' "lo" = some (true, .int (bis (row.map (·.1)) x 0 row.length : Nat)) ∧ Ω' = []) ?loop ?fin
    case loop =>
      refine S1.while (fun k Γ' Ω' => ∃ lo hi : Nat, Γ' "a" = some (b, .lst (row.map tr3)) ∧ Γ' "x" = some (true, .int x) ∧ Γ' "lo" = some (true, .int lo) ∧ Γ' "hi" = some (true, .int hi) ∧ Γ' "key" = some (true, .obj (.ref f) os) ∧ Ω' = [] ∧ lo ≤ hi ∧ hi ≤ row.length ∧ k = hi - lo ∧ bis (row.map (·.1)) x lo hi = bis (row.map (·.1)) x 0 row.length) row.length ⟨0, row.length, rfl, rfl, rfl, rfl, rfl, rfl, by omega, by omega, by omega, rfl⟩ ?_
      rintro k Γ' Ω' ⟨lo, hi, h1, h2, h3, h4, h5, rfl, h6, h7, h8, h9⟩
      refine ⟨decide ((lo : Int) < hi), fun own => by walk_at "tr", fun hb => ?_, fun hb => ?_⟩
      · have hlt : lo < hi := by simpa using hb
        have e1 : ((lo : Int) + hi).fdiv 2 = (((lo + hi) / 2 : Nat) : Int) := by
          rw [Int.fdiv_eq_ediv_of_nonneg _ (by decide)]; omega
        have hq : (lo + hi) / 2 < row.length := by omega
        obtain ⟨y, hy⟩ : ∃ y, row[(lo + hi) / 2]? = some y := ⟨_, List.getElem?_eq_getElem hq⟩
        have hg : (row.map (·.1)).getD ((lo + hi) / 2) 0 = y.1 := by simp [List.getD, hy]
        rw [bis, dif_pos hlt, hg] at h9
        refine Sp.cons (S1.assign (d := .int (((lo + hi) / 2 : Nat) : Int)) (fun own => by rw [← e1]; walk_at "ev") (.inl rfl) (by decide) ?_)
        refine' Sp.cons (S1.ife (b := decide (x < y.1)) (fun own => ?tr) (fun hb => ?_) fun hb => ?_)
        case tr =>
          refine' Tr.cmp (r₁ := (true, .int x)) (r₂ := (true, .int y.1)) ?t1 ?t2 Op2.lt
          case t1 => walk_at "ev"
          case t2 =>
            refine' Ev.callKey (ds := [.int y.2.1, .int y.2.2]) ?k1 hk ?k2 (by omega)
            case k1 => walk_at "nm"
            case k2 =>
              refine' Ev.item (ds := row.map tr3) (k := (((lo + hi) / 2 : Nat) : Int)) (b₁ := b) (b₂ := true) ?a ?b ?c ?d ?e ?f
              case a => walk_at "ev"
              case b => walk_at "ev"
              case c => omega
              case d => omega
              case e => rw [Int.toNat_natCast, List.getElem?_map, hy]; rfl
              case f => intro _ _; rfl
        · rw [if_pos (by simpa using hb)] at h9
          refine' Sp.cons (S1.assign (d := .int (((lo + hi) / 2 : Nat) : Int)) (fun own => ?e) (.inl rfl) (by decide) (Sp.nil (Sp.nil ?_)))
          case e => walk_at "ev"
          refine' ⟨(lo + hi) / 2 - lo, by omega, lo, (lo + hi) / 2, ?a, ?b, ?c, ?d, ?e, rfl, by omega, by omega, rfl, h9⟩
          case a => walk_at "nm"
          case b => walk_at "nm"
          case c => walk_at "nm"
          case d => walk_at "nm"
          case e => walk_at "nm"
        · rw [if_neg (by simpa using hb)] at h9
          refine' Sp.cons (S1.assign (d := .int (((lo + hi) / 2 + 1 : Nat) : Int)) (fun own => ?e) (.inl rfl) (by decide) (Sp.nil (Sp.nil ?_)))
          case e =>
            rw [show (((lo + hi) / 2 + 1 : Nat) : Int) = (((lo + hi) / 2 : Nat) : Int) + 1 by omega]
            walk_at "ev"
          refine' ⟨hi - ((lo + hi) / 2 + 1), by omega, (lo + hi) / 2 + 1, hi, ?a, ?b, ?c, ?d, ?e, rfl, by omega, by omega, rfl, h9⟩
          case a => walk_at "nm"
          case b => walk_at "nm"
          case c => walk_at "nm"
          case d => walk_at "nm"
          case e => walk_at "nm"
      · have hge : ¬ lo < hi := by simpa using hb
        rw [bis, dif_neg hge] at h9
        exact ⟨by rw [h3, h9], rfl⟩
    case fin =>
      rintro Γ' Ω' ⟨h1, rfl⟩
      refine Sp.nil ?_
      refine' Sp.cons (S1.ret (d := .int (bis (row.map (·.1)) x 0 row.length : Nat)) (fun own => ?e) (.inl rfl))
      case e => walk_at "ev"

theorem insort_c {w : World} {loose mean mg mb} {row : List (Int × Int × Int)} {t : Int × Int × Int} {f : Addr} {os : List (Addr × Obj)} (hk : IsKey f os) (hz : row.length ≤ 1000) :
    LendC (amb w loose mean mg mb) 23 2 (.lst (row.map tr3)) [(true, tr3 t)] [Str.ofString "key"] [(true, .obj (.ref f) os)] (.lst ((row.take (bis (row.map (·.1)) t.1 0 row.length) ++ t :: row.drop (bis (row.map (·.1)) t.1 0 row.length)).map tr3)) .none := by
  have hble := (bis_le (row.map (·.1)) t.1 0 row.length (by omega)).2
  refine' LendC.of (y := Str.ofString "a") (rs' := [(Str.ofString "x", (true, tr3 t)), (Str.ofString "lo", (true, .int 0)), (Str.ofString "hi", (true, .none)), (Str.ofString "key", (true, .obj (.ref f) os))]) (mods' := [Str.ofString "a"]) ⟨?ho, ?hcd, ?hco, ?hgen, ?hk⟩ ?hcell ?hloc ?hfz ?hb ?hbody
  case ho => show (hd.heap_1 w.params).lookup 23 = some _; k_is
  case hcd => show codeIn (hd.heap_1 w.params) _ _ = true; k_is
  case hco => rfl
  case hgen => rfl
  case hk => rfl
  case hcell => decide
  case hloc => simp only [List.forall_mem_cons]; refine ⟨⟨rfl, by decide⟩, ⟨rfl, by decide⟩, ⟨rfl, by decide⟩, ⟨rfl, by decide⟩, ⟨rfl, by decide⟩, ?_⟩; intro _ h; nomatch h
  case hfz => simp
  case hb =>
    intro s W v₀ vs ks hX hv hk
    obtain ⟨u1, rfl, k1⟩ := hk.e1
    obtain ⟨v1, rfl, h1⟩ := hv.e1
    refine ⟨[(_, _), (_, _), (_, _), (_, _)], binds_K (K := hd.heap_1 w.params) hX rfl (by k_is) rfl rfl rfl, .cons h1 (.cons (Vi.of_int _ _) (.cons Vi.of_none (.cons k1 .nil)))⟩
  case hbody =>
    intro β hlv hlent
    refine' Sp.cons (S1.ife (b := false) (fun own => ?tr) (fun hq => by cases hq) (fun _ => ?_))
    case tr =>
      refine' Tr.cmp (r₁ := (true, .obj (.ref f) os)) (r₂ := (true, .none)) ?t1 ?t2 Op2.isNoneObj
      case t1 => walk_at "ev"
      case t2 => walk_at "ev"
    refine' Sp.cons (S1.assign (d := .int (bis (row.map (·.1)) t.1 0 row.length : Nat)) (fun own => ?ev) (.inl rfl) (by decide) (Sp.nil ?_))
    case ev =>
      refine' Ev.callKw (f := 32) (n := 1) (kn := [Str.ofString "key"]) (rs := [(false, .lst (row.map tr3)), (true, .int t.1), (true, .int 0), (true, .none)]) (krs := [(true, .obj (.ref f) os)]) (Glob1.act rfl rfl) (by show keepIn (hd.heap_1 w.params) _ = true; k_is) ?ha ?hks (bisect_c hk hz) (by omega)
      case ha =>
        refine' EvM.cons ?a1 (EvM.cons ?a2 (EvM.cons ?a3 (EvM.cons ?a4 EvM.nil)))
        case a1 => walk_at "ev"
        case a2 =>
          refine' Ev.callKey (ds := [.int t.2.1, .int t.2.2]) ?k1 hk ?k2 (by omega)
          case k1 => walk_at "nm"
          case k2 => walk_at "ev"
        case a3 => walk_at "ev"
        case a4 => walk_at "ev"
      case hks =>
        refine' EvK.cons ?a1 EvK.nil
        case a1 => walk_at "ev"
    refine' Sp.cons (S1.insert (d := tr3 t) (k := (bis (row.map (·.1)) t.1 0 row.length : Nat)) (ds := row.map tr3) (b := true) ?a (by decide) (by decide) (fun own => ?b) (fun own => ?c) (by omega) (by rw [List.length_map]; omega) ?z (Sp.nil ?fin9))
    case a => walk_at "nm"
    case b => walk_at "ev"
    case c => walk_at "ev"
    case z => rw [List.length_map]; exact Nat.le_trans hz (by decide)
    case fin9 =>
      refine ⟨.inr ⟨rfl, rfl⟩, ?_, by decide⟩
      rw [Gam.set_eq, Int.toNat_natCast, List.map_append, List.map_cons, List.map_take, List.map_drop]

noncomputable def cmpP (p q : Int × Int) : Int := if ltp p q then -1 else if ltp q p then 1 else 0
theorem compare_c {w : World} {loose mean mg mb} {p q : Int × Int} {a : Addr} {os : List (Addr × Obj)} (ho : IsOne PySem.Challenge.rw_pg0167_01.row.prog w 91 (Str.ofString "comp_select_list") a [pr (0, 1), pr (1, 1)] os) :
    PureC (amb w loose mean mg mb) 88 0 [(true, .obj (.ref a) os), (true, pr p), (true, pr q)] [] [] (.int (cmpP p q)) := by
  refine' PureC.of (rs' := [(Str.ofString "self", (true, .obj (.ref a) os)), (Str.ofString "left", (true, pr p)), (Str.ofString "right", (true, pr q))]) (mods' := []) ⟨?ho, ?hcd, ?hco, ?hgen, ?hk⟩ ?hcell ?hloc ?hb ?hbody
  case ho => show (hd.heap_1 w.params).lookup 88 = some _; k_is
  case hcd => show codeIn (hd.heap_1 w.params) _ _ = true; k_is
  case hco => rfl
  case hgen => rfl
  case hk => rfl
  case hcell => decide
  case hloc => simp only [List.forall_mem_cons]; refine ⟨⟨rfl, by decide⟩, ⟨rfl, by decide⟩, ⟨rfl, by decide⟩, ?_⟩; intro _ h; nomatch h
  case hb =>
    intro s W vs ks hX hv hk
    obtain rfl := hk.e0
    obtain ⟨v1, v2, v3, rfl, h1, h2, h3⟩ := hv.e3
    exact ⟨[(_, _), (_, _), (_, _)], BindsTo.of_eq rfl, .cons h1 (.cons h2 (.cons h3 .nil))⟩
  case hbody =>
    intro β hlv hlent
    refine' Sp.cons (S1.for (mods' := []) (ds := [pr (0, 1), pr (1, 1)]) (fun i Γ' Ω' => Γ' "left" = some (true, pr p) ∧ Γ' "right" = some (true, pr q) ∧ Ω' = [] ∧ (1 ≤ i → p.1 = q.1) ∧ (2 ≤ i → p.2 = q.2)) (ItA.of fun own => EvI.listTup (Ev.attrOne (attr := none) ?x ho ?k1 ?k2 ?k3 ?k4) ?tup) ?h0 ?turn ?fn)
    case x => walk_at "nm"
    case k1 => show plainGet (hd.heap_1 w.params) _ _ = true; k_is
    case k2 => show hasDictIn (hd.heap_1 w.params) _ = true; k_is
    case k3 => show findIn (hd.heap_1 w.params) _ _ = _; k_is
    case k4 => show noGet (hd.heap_1 w.params) _ = true; k_is
    case tup => 
      intro d hd
      rcases List.mem_cons.mp hd with rfl | hd
      · exact ⟨_, rfl⟩
      · rw [List.mem_singleton.mp hd]; exact ⟨_, rfl⟩
    case h0 => exact ⟨by walk_at "nm", by walk_at "nm", rfl, by omega, by omega⟩
    case turn =>
      rintro i d Γ' Ω' hd ⟨h1, h2, rfl, h3, h4⟩
      obtain ⟨j, x, y, hj, hj2, e1, e2, hd, c1, c2, c3⟩ : ∃ j x y : Int, 0 ≤ j ∧ j < 2 ^ 60 ∧ [D.int p.1, D.int p.2][j.toNat]? = some (.int x) ∧ [D.int q.1, D.int q.2][j.toNat]? = some (.int y) ∧ d = pr (j, 1) ∧
          (x < y → cmpP p q = -1) ∧ (y < x → cmpP p q = 1) ∧ (x = y → (1 ≤ i + 1 → p.1 = q.1) ∧ (2 ≤ i + 1 → p.2 = q.2)) := by
        match i, hd with
        | 0, hd =>
          cases hd
          refine ⟨0, p.1, q.1, by decide, by decide, rfl, rfl, rfl, fun h => ?_, fun h => ?_, fun h => ⟨fun _ => h, fun h => by omega⟩⟩
          · unfold cmpP ltp; simp [h]
          · have h1 : ¬ p.1 < q.1 := by omega
            have h2 : ¬ p.1 = q.1 := by omega
            unfold cmpP ltp; simp [h, h1, h2]
        | 1, hd =>
          cases hd
          have e := h3 (by decide)
          refine ⟨1, p.2, q.2, by decide, by decide, rfl, rfl, rfl, fun h => ?_, fun h => ?_, fun h => ⟨fun _ => e, fun _ => h⟩⟩
          · unfold cmpP ltp; simp [h, e]
          · have h1 : ¬ p.2 < q.2 := by omega
            unfold cmpP ltp; simp [h, h1, e]
      subst hd
      refine ⟨_, .tup2 (.inl rfl) (by decide) (by decide) (.inl rfl) (by decide) (by decide), fun I => ?_⟩
      refine' Sp.cons (S1.assign (d := .int x) (fun own => ?ev) (.inl rfl) (by decide) ?_)
      case ev =>
        refine' Ev.place (ds := [.int p.1, .int p.2]) (k := j) (b₁ := true) (b₂ := true) ?a ?b hj hj2 e1
        case a => walk_at "ev"
        case b => walk_at "ev"
      refine' Sp.cons (S1.assign (d := .int y) (fun own => ?ev) (.inl rfl) (by decide) ?_)
      case ev =>
        refine' Ev.place (ds := [.int q.1, .int q.2]) (k := j) (b₁ := true) (b₂ := true) ?a ?b hj hj2 e2
        case a => walk_at "ev"
        case b => walk_at "ev"
      refine' Sp.cons (S1.ife (b := decide (x < y)) (fun own => ?tr) (fun hq => ?_) (fun hq => Sp.nil ?_))
      case tr => walk_at "tr"
      · refine' Sp.cons (S1.ret (d := .int (-1)) (fun own => ?e) (.inl ?_))
        case e => exact Ev.neg (b₁ := true) (by walk_at "ev")
        rw [c1 (by simpa using hq)]
      refine' Sp.cons (S1.ife (b := decide (y < x)) (fun own => ?tr) (fun hq => ?_) (fun hq2 => Sp.nil ?_))
      case tr => walk_at "tr"
      · refine' Sp.cons (S1.ret (d := .int 1) (fun own => ?e) (.inl ?_))
        case e => walk_at "ev"
        rw [c2 (by simpa using hq)]
      simp only [decide_eq_false_iff_not] at hq hq2
      refine Sp.nil ⟨by walk_at "nm", by walk_at "nm", rfl, c3 (by omega)⟩
    case fn =>
      rintro Γ' Ω' ⟨h1, h2, rfl, h3, h4⟩
      have e1 := h3 (by decide)
      have e2 := h4 (by decide)
      refine' Sp.cons (S1.ret (d := .int 0) (fun own => ?e) (.inl ?_))
      case e => walk_at "ev"
      unfold cmpP ltp
      simp [e1, e2]

theorem code_film {w : World} : ∀ h : Heap, (hd.heap_1 w.params).In h → CodeHd h 127 125 := fun h hX => by
  have := hX 127 _ (by k_is)
  refine ⟨_, _, _, _, _, _, _, _, _, this, rfl, rfl, rfl, rfl, rfl, rfl, rfl, rfl, by decide⟩


theorem Op2.ge {prog : Program} {w : World} {X : Cx} {b₁ b₂ : Bool} {a b : Int} : Op2 prog w X (compareOp .GtE) (b₁, .int a) (b₂, .int b) (true, .bool (decide (b ≤ a))) := fun s Q v₁ v₂ hI i₁ i₂ hQ => by
  obtain ⟨t, rfl⟩ := i₁.int; obtain ⟨u, rfl⟩ := i₂.int
  exact P.ge_int (hQ _ _ (Kp.refl s) (Vi.of_bool _))
theorem any_map_key {out : D → Int × D} {ds : List D} {k : Int} : (ds.map out).any (fun e => e.1 = k) = decide (k ∈ ds.map fun d => (out d).1) := by
  induction ds with
  | nil => rfl
  | cons d ds ih =>
    show (decide ((out d).1 = k) || (ds.map out).any _) = _
    rw [ih]
    by_cases h : (out d).1 = k
    · simp [h]
    · simp [h, eq_comm]
      exact fun e => absurd e.symm h
theorem dmade_nodup {out : D → Int × D} : ∀ (ds : List D), (ds.map fun d => (out d).1).Nodup → dmade out ds = ds.map out := by
  refine snocRec (fun _ => rfl) ?_
  intro ds d ih nd
  rw [List.map_append] at nd
  have h1 := List.nodup_append.mp nd
  have h2 : (out d).1 ∉ ds.map fun d => (out d).1 := fun hm => h1.2.2 _ hm _ (List.mem_singleton.mpr rfl) rfl
  have e := ih h1.1
  unfold dmade at e ⊢
  rw [List.foldl_append, e]
  show stor (ds.map out) (out d).1 (out d).2 = _
  unfold stor
  rw [any_map_key, decide_eq_false h2, if_neg (by simp), List.map_append]
  rfl
theorem stor_KD {f : Int → Int} {ks : List Int} {k v : Int} (h : k ∈ ks) : stor (KD ks f) k (.int v) = KD ks (fun x => if x = k then v else f x) := by
  unfold stor
  rw [any_KD, decide_eq_true h, if_pos rfl]
  unfold KD
  rw [List.map_map]
  refine List.map_congr_left fun x _ => ?_
  dsimp only [Function.comp]
  split <;> rfl
noncomputable def outL : D → Int × D
  | .tup [.int _, .int o, .int n] => (o, .int n)
  | _ => (0, .none)
theorem dmade_row {row : List Work} (hnd : (row.map (·.2.1)).Nodup) : dmade outL (row.map tr3) = KD (row.map (·.2.1)) (lf row []) := by
  rw [dmade_nodup]
  · unfold KD
    rw [List.map_map, List.map_map]
    refine List.map_congr_left fun r hr => ?_
    show (r.2.1, D.int r.2.2) = (r.2.1, D.int (lf row [] r.2.1))
    rw [lf_need hnd hr]
    simp
  · rw [List.map_map]; exact hnd
theorem pick1_cmp {f : Int → Int} {hand : Int} {r : Work} : pick1 f hand r = if (decide (0 < f r.2.1) && ((decide (hand < 0) || (decide (cmpP (f r.2.1, r.2.1) (f hand, hand) < 0) || false)) && true)) = true then r.2.1 else hand := by
  have h : (cmpP (f r.2.1, r.2.1) (f hand, hand) < 0) ↔ ltp (f r.2.1, r.2.1) (f hand, hand) = true := by
    unfold cmpP
    split
    · rename_i e; simp [e]
    · rename_i e
      split <;> simp [e]
  unfold pick1
  simp only [Bool.and_eq_true, Bool.or_eq_true, decide_eq_true_eq, h, Bool.or_false, Bool.and_true]
theorem law_film_c {w : World} {loose mean mg mb} {row : List Work} {F : List Int} (hrow : row.length ≤ 16) (hnd : (row.map (·.2.1)).Nodup) (h0 : ∀ r ∈ row, 0 ≤ r.2.1) (hF : IsFilm row F) (hFl : F.length ≤ 900) :
    TabC (amb w loose mean mg mb) 128 125 3 [(true, .lst (row.map tr3))] (.lst (F.map D.int)) := by
  refine' TabC.of (lp := { line := 140, col := 48, endLine := 140, endCol := 68 }) (rs' := [(Str.ofString "row", (true, .lst (row.map tr3)))]) (mods' := [Str.ofString "lefts", Str.ofString "film"]) ⟨?ho, ?hcd, ?hco, ?hgen, ?hk⟩ ?hcell ?hloc ?hfr ?hb ?hbody
  case ho => show (hd.heap_1 w.params).lookup 128 = some _; k_is
  case hcd => show codeIn (hd.heap_1 w.params) _ _ = true; k_is
  case hco => rfl
  case hgen => rfl
  case hk => rfl
  case hcell => decide
  case hloc => simp only [List.forall_mem_cons]; refine ⟨⟨rfl, by decide⟩, ?_⟩; intro _ h; nomatch h
  case hfr => simp
  case hb =>
    intro s W vs hv
    obtain ⟨v1, rfl, h1⟩ := hv.e1
    exact ⟨[(_, _)], BindsTo.of_eq rfl, .cons h1 .nil⟩
  case hbody =>
    intro β hlv hcode hlent
    have tj : TJ [(tabN, 125)] (TabAt ⟨tabN, 125, { line := 140, col := 48, endLine := 140, endCol := 68 }, β.env.qual ++ "<lambda>"⟩) β := ⟨TabAt.ok1, fun p hp => by rw [List.mem_singleton.mp hp, hlent]; exact .head _⟩
    have hmods : ∀ p ∈ [(tabN, (125 : Addr))], p.1 ∉ [Str.ofString "lefts", Str.ofString "film"] := by
      intro p hp; rw [List.mem_singleton.mp hp]; decide
    refine' SpT.consS tj hmods (S1.assignOne (ds := [pr (0, 1), pr (1, 1)]) (C := 91) (fI := 81) (fun own => Glob1.act rfl rfl) ?kp (fun own => ?ls) (by omega) ⟨?ho, ?hcd, ?e1, ?e2, ?e3⟩ ?q1 ?q2 ?q3 ?q4 ?q5 ?q6 ?q7 ?bb ?c1 ?r1 ?r2 ?c2 ?c3 ?c4 ?qs (.inl rfl) (by decide) (fun a os hos => ?next))
    case kp => show keepIn (hd.heap_1 w.params) _ = true; k_is
    case ls =>
      refine' Ev.list (EvL.cons ?l1 (EvL.cons ?l2 EvL.nil))
      case l1 => exact Ev.tuple (EvL.cons Ev.int (EvL.cons Ev.int EvL.nil))
      case l2 => exact Ev.tuple (EvL.cons Ev.int (EvL.cons Ev.int EvL.nil))
    case ho => show (hd.heap_1 w.params).lookup 81 = some _; k_is
    case hcd => show codeIn (hd.heap_1 w.params) _ _ = true; k_is
    case e1 => rfl
    case e2 => rfl
    case e3 => rfl
    case r1 => rfl
    case r2 => rfl
    case bb => exact fun s x v => BindsTo.of_eq rfl
    case q1 => show makesIn (hd.heap_1 w.params) _ = true; k_is
    case q2 => show findIn (hd.heap_1 w.params) _ _ = _; k_is
    case q3 => show isFn (hd.heap_1 w.params) _ = true; k_is
    case q4 => show findIn (hd.heap_1 w.params) _ _ = _; k_is
    case q5 => show plainOver (hd.heap_1 w.params) _ = true; k_is
    case q6 => show takerIn (hd.heap_1 w.params) _ _ = _; k_is
    case c1 => decide
    case c2 => decide
    case c3 => decide
    case c4 => decide
    case q7 => show hasDictIn (hd.heap_1 w.params) _ = true; k_is
    case qs => intro env he; exact (sw_with he _ _ _).trans rfl
    case next =>
      refine' SpT.consS tj hmods (S1.assignMadeOwn (d := .dct (KD (row.map (·.2.1)) (lf row []))) (fun own => ?ok) (fun own => ?mk) (.inl rfl) ?n0 ?nx (hsw := ?sw))
      case ok => walk_at "bo"
      case mk =>
        rw [← dmade_row hnd]
        refine' Made.dict outL ?k1 (EvI.listTup ?k2 ?k3) ?k4 ?k5
        case k1 => walk_at "bo"
        case k2 => walk_at "ev"
        case k3 =>
          intro d hd
          obtain ⟨r, _, rfl⟩ := List.mem_map.mp hd
          exact ⟨_, rfl⟩
        case k4 =>
          intro i d hd
          rw [List.getElem?_map] at hd
          obtain ⟨r, hr, rfl⟩ := Option.map_eq_some_iff.mp hd
          refine ⟨_, .tup3 (.inl rfl) (by decide) (by decide) (.inl rfl) (by decide) (by decide) (.inl rfl) (by decide) (by decide), fun B => ⟨TrL.nil, ?_, ?_⟩⟩
          · show Ev _ _ _ _ _ (true, .int r.2.1)
            walk_at "ev"
          · show Ev _ _ _ _ _ (true, .int r.2.2)
            walk_at "ev"
        case k5 => rw [List.length_map]; exact Nat.le_trans hrow (by decide)
      case n0 => intro d h; have : (none : Option (Bool × D)) = some (false, d) := h; cases this
      case sw => exact (sw_with β.hsc _ _ _).trans rfl
      case nx =>
        refine' SpT.consS tj hmods (S1.assignOwn (d := .lst []) EvN.nil (.inl rfl) (by decide) (fun d h => by have : (none : Option (Bool × D)) = some (false, d) := h; cases this) ?_)
        refine SpT.step (fun Γ' Ω' => Γ' "film" = some (false, .lst (F.map D.int)) ∧ Ω' = [Str.ofString "film", Str.ofString "lefts", tabN]) ?loop ?fin
        case loop =>
          refine S1T.while tj (fun k Γ' Ω' => ∃ t, t ≤ F.length ∧ k = F.length - t ∧ Γ' "row" = some (true, .lst (row.map tr3)) ∧ Γ' "rule" = some (true, .obj (.ref a) os) ∧ Γ' "lefts" = some (false, .dct (KD (row.map (·.2.1)) (lf row (F.take t)))) ∧ Γ' "film" = some (false, .lst ((F.take t).map D.int)) ∧ Ω' = [Str.ofString "film", Str.ofString "lefts", tabN]) F.length ⟨0, Nat.zero_le _, rfl, rfl, rfl, rfl, rfl, rfl⟩ ?_
          rintro k Γ' Ω' ⟨t, ht, rfl, g1, g2, g3, g4, rfl⟩
          have hvals : (KD (row.map (·.2.1)) (lf row (F.take t))).map (·.2) = (row.map fun r => lf row (F.take t) r.2.1).map D.int := by
            unfold KD
            rw [List.map_map, List.map_map, List.map_map]; rfl
          refine ⟨decide (0 < sumL row (F.take t)), fun own => ?tr, fun hb => ?_, fun hb => ?_⟩
          case tr =>
            refine' Tr.cmp (r₁ := (true, .int (sumL row (F.take t)))) (r₂ := (true, .int 0)) (Ev.sumValues (Glob1.act rfl rfl) (EvV.of (b₁ := false) ?t1) hvals) ?t2 Op2.gt
            case t1 => walk_at "ev"
            case t2 => walk_at "ev"
          · have hpos : 0 < sumL row (F.take t) := by simpa using hb
            have hlt : t < F.length := by
              rcases Nat.lt_or_ge t F.length with h | h
              · exact h
              · rw [List.take_of_length_le h] at hpos; exact absurd hpos hF.fin
            obtain ⟨_, hpk⟩ := hF.step t hlt
            have htl : (F.take t).length = t := by rw [List.length_take]; omega
            have hz : row.length ≤ 1000 := by omega
            have hsnoc : F.take (t + 1) = F.take t ++ [pickAt row (F.take t)] := by rw [List.take_add_one, hpk]; rfl
            refine' SpT.cons (S1T.assignKey (t := ⟨tabN, 125, { line := 140, col := 48, endLine := 140, endCol := 68 }, β.env.qual ++ "<lambda>"⟩) (n := 1) (f := 32) (rs := [(true, .lst (row.map tr3)), (true, .int t)]) (d := .int (bis (row.map (·.1)) (t : Nat) 0 row.length : Nat)) tj ?L ⟨fun _ _ h => h, fun _ _ _ _ h _ => h⟩ (.head _) (fun own => Glob1.act rfl rfl) ?kp (fun own => ?ha) (by simp) (fun fa os' ik => bisect2_c ik hz) (by omega) (.inl rfl) (by decide) ?rest)
            case L => exact ⟨by rw [hlent]; exact .head _, rfl, ⟨127, hcode, code_film⟩, rfl, rfl, fun _ => rfl, fun _ _ _ _ _ _ => rfl⟩
            case kp => show keepIn (hd.heap_1 w.params) _ = true; k_is
            case ha =>
              refine' EvM.cons ?a1 (EvM.cons ?a2 EvM.nil)
              case a1 => walk_at "ev"
              case a2 =>
                rw [show ((t : Nat) : Int) = (((F.take t).map D.int).length : Nat) by rw [List.length_map, htl]]
                refine' Ev.lenOf (b₁ := false) (Glob1.act rfl rfl) ?l1 ?l2
                case l1 => walk_at "ev"
                case l2 => rw [List.length_map, htl]; omega
            case rest =>
              refine SpT.of tj hmods ?_
              obtain ⟨f, hf⟩ : ∃ f, f = lf row (F.take t) := ⟨_, rfl⟩
              obtain ⟨rs, hrs⟩ : ∃ rs, rs = row.take (bis (row.map (·.1)) (t : Nat) 0 row.length) := ⟨_, rfl⟩
              have hpick : pickAt row (F.take t) = rs.foldl (pick1 f) (-1) := by
                unfold pickAt pick
                rw [htl, hf, hrs]
              have hrm : ∀ r ∈ rs, r ∈ row := fun r hr => by rw [hrs] at hr; exact List.mem_of_mem_take hr
              rw [← hf] at g3
              refine' Sp.cons (S1.assign (d := .int (-1)) (fun own => ?e) (.inl rfl) (by decide) ?_)
              case e => exact Ev.neg (b₁ := true) (by walk_at "ev")
              refine Sp.step (fun Γ' Ω' => Γ' "hand" = some (true, .int (rs.foldl (pick1 f) (-1))) ∧ Γ' "row" = some (true, .lst (row.map tr3)) ∧ Γ' "rule" = some (true, .obj (.ref a) os) ∧ Γ' "lefts" = some (false, .dct (KD (row.map (·.2.1)) f)) ∧ Γ' "film" = some (false, .lst ((F.take t).map D.int)) ∧ Ω' = [Str.ofString "film", Str.ofString "lefts", tabN]) ?lp1 ?behind
              case lp1 =>
                refine' S1.for (mods' := []) (ds := (row.map tr3).take ((bis (row.map (·.1)) (t : Nat) 0 row.length : Nat) : Int).toNat) (fun i Γ' Ω' => Γ' "hand" = some (true, .int ((rs.take i).foldl (pick1 f) (-1))) ∧ Γ' "row" = some (true, .lst (row.map tr3)) ∧ Γ' "rule" = some (true, .obj (.ref a) os) ∧ Γ' "lefts" = some (false, .dct (KD (row.map (·.2.1)) f)) ∧ Γ' "film" = some (false, .lst ((F.take t).map D.int)) ∧ Ω' = [Str.ofString "film", Str.ofString "lefts", tabN]) (ItA.of fun own => EvI.listTup (Ev.sliceTo (b₁ := true) (b₂ := true) ?s1 ?s2 (by omega) ?s3) ?tup) ?i0 ?turn ?fn
                case s1 => walk_at "ev"
                case s2 => walk_at "ev"
                case s3 => rw [List.length_map]; exact Nat.le_trans hrow (by decide)
                case tup =>
                  intro d hd
                  obtain ⟨r, _, rfl⟩ := List.mem_map.mp (List.mem_of_mem_take hd)
                  exact ⟨_, rfl⟩
                case i0 =>
                  refine ⟨?_, ?_, ?_, ?_, ?_, rfl⟩
                  · rw [List.take_zero, List.foldl_nil]; walk_at "nm"
                  · walk_at "nm"
                  · walk_at "nm"
                  · walk_at "nm"
                  · walk_at "nm"
                case turn =>
                  rintro i d Γ' Ω' hdd ⟨k1, k2, k3, k4, k5, rfl⟩
                  rw [Int.toNat_natCast, ← List.map_take, ← hrs, List.getElem?_map] at hdd
                  obtain ⟨r, hr, rfl⟩ := Option.map_eq_some_iff.mp hdd
                  have hrr : r ∈ rs := List.mem_of_getElem? hr
                  have hone : r.2.1 ∈ row.map (·.2.1) := List.mem_map_of_mem (f := fun q : Work => q.2.1) (hrm r hrr)
                  have hacc : rs.take (i + 1) = rs.take i ++ [r] := by rw [List.take_add_one, hr]; rfl
                  obtain ⟨hand, hhand⟩ : ∃ hand, hand = (rs.take i).foldl (pick1 f) (-1) := ⟨_, rfl⟩
                  rw [← hhand] at k1
                  have hnext : (rs.take (i + 1)).foldl (pick1 f) (-1) = pick1 f hand r := by rw [hacc, List.foldl_append, ← hhand]; rfl
                  have hhm : 0 ≤ hand → hand ∈ row.map (·.2.1) := fun h => by
                    obtain ⟨q, hq, e⟩ := pick_mem (f := f) (rs := rs.take i) (by unfold pick; rw [← hhand]; exact h)
                    rw [show hand = q.2.1 from hhand.trans e]
                    exact List.mem_map_of_mem (f := fun q : Work => q.2.1) (hrm q (List.mem_of_mem_take hq))
                  refine ⟨_, .tup3 (.inl rfl) (by decide) (by decide) (.inl rfl) (by decide) (by decide) (.inl rfl) (by decide) (by decide), fun I => ?_⟩
                  refine' Sp.cons (S1.ife (b := decide (0 < f r.2.1) && ((decide (hand < 0) || (decide (cmpP (f r.2.1, r.2.1) (f hand, hand) < 0) || false)) && true)) (fun own => ?tr) (fun hq => ?_) (fun hq => Sp.nil (Sp.nil ?_)))
                  case tr =>
                    refine' Tr.and ?t1 (fun _ => Tr.and ?t2 (fun _ => Tr.andNil))
                    case t1 =>
                      refine' Tr.cmp (r₁ := (true, .int (f r.2.1))) (r₂ := (true, .int 0)) (Ev.at (b₁ := false) (b₂ := true) ?u1 ?u2 (look_KD hone)) ?u3 Op2.gt
                      case u1 => walk_at "ev"
                      case u2 => walk_at "ev"
                      case u3 => walk_at "ev"
                    case t2 =>
                      refine' Tr.or ?v1 (fun hge => Tr.or ?v2 (fun _ => Tr.orNil))
                      case v1 => walk_at "tr"
                      case v2 =>
                        have hge' : 0 ≤ hand := by simpa using hge
                        refine' Tr.cmp (r₁ := (true, .int (cmpP (f r.2.1, r.2.1) (f hand, hand)))) (r₂ := (true, .int 0)) (Ev.methOne (n := 0) (rs := [(true, pr (f r.2.1, r.2.1)), (true, pr (f hand, hand))]) (f := 88) (b := true) ?w1 hos ?w2 ?w3 ?w4 ?w5 ?w6 ?w7 (compare_c hos) ?w8) ?w9 Op2.lt
                        case w1 => walk_at "nm"
                        case w2 => show plainGet (hd.heap_1 w.params) _ _ = true; k_is
                        case w3 => show findIn (hd.heap_1 w.params) _ _ = _; k_is
                        case w4 => show isFn (hd.heap_1 w.params) _ = true; k_is
                        case w5 => show keepIn (hd.heap_1 w.params) _ = true; k_is
                        case w6 => decide
                        case w7 =>
                          refine' EvM.cons (Ev.tuple (EvL.cons ?x1 (EvL.cons ?x2 EvL.nil))) (EvM.cons (Ev.tuple (EvL.cons ?x3 (EvL.cons ?x4 EvL.nil))) EvM.nil)
                          case x1 =>
                            refine' Ev.at (b₁ := false) (b₂ := true) ?u1 ?u2 (look_KD hone)
                            case u1 => walk_at "ev"
                            case u2 => walk_at "ev"
                          case x2 => walk_at "ev"
                          case x3 =>
                            refine' Ev.at (b₁ := false) (b₂ := true) ?u1 ?u2 (look_KD (hhm hge'))
                            case u1 => walk_at "ev"
                            case u2 => walk_at "ev"
                          case x4 => walk_at "ev"
                        case w8 => show 0 < β.lv; omega
                        case w9 => walk_at "ev"
                  · refine' Sp.cons (S1.assign (d := .int r.2.1) (fun own => ?e) (.inl rfl) (by decide) (Sp.nil (Sp.nil ?_)))
                    case e => walk_at "ev"
                    refine ⟨?_, ?_, ?_, ?_, ?_, rfl⟩
                    · rw [hnext, Gam.set_eq, pick1_cmp, if_pos hq]
                    · walk_at "nm"
                    · walk_at "nm"
                    · walk_at "nm"
                    · walk_at "nm"
                  · refine ⟨?_, ?_, ?_, ?_, ?_, rfl⟩
                    · rw [hnext, pick1_cmp, if_neg (by rw [hq]; decide)]
                      walk_at "nm"
                    · walk_at "nm"
                    · walk_at "nm"
                    · walk_at "nm"
                    · walk_at "nm"
                case fn =>
                  rintro Γ' Ω' ⟨k1, k2, k3, k4, k5, rfl⟩
                  rw [Int.toNat_natCast, ← List.map_take, ← hrs, List.length_map, List.take_length] at k1
                  exact ⟨k1, k2, k3, k4, k5, rfl⟩
              case behind =>
                rintro Γ' Ω' ⟨k1, k2, k3, k4, k5, rfl⟩
                rw [← hpick] at k1
                obtain ⟨hand, hhand⟩ : ∃ hand, hand = pickAt row (F.take t) := ⟨_, rfl⟩
                rw [← hhand] at k1 hsnoc
                refine' Sp.cons (S1.append (ds := (F.take t).map D.int) (d := .int hand) k5 (.head _) (by decide) (fun own => ?e) ?z ?_)
                case e => walk_at "ev"
                case z => rw [List.length_map, htl]; exact Nat.le_trans (show t ≤ 900 by omega) (by decide)
                have hfilm : (F.take t).map D.int ++ [D.int hand] = (F.take (t + 1)).map D.int := by rw [hsnoc, List.map_append]; rfl
                rw [hfilm]
                have hlf : ∀ x, lf row (F.take (t + 1)) x = f x - if x = hand then 1 else 0 := fun x => by rw [hsnoc, lf_snoc, hf]
                refine' Sp.cons (S1.ife (b := decide (0 ≤ hand)) (fun own => ?tr) (fun hq => ?_) (fun hq => Sp.nil (Sp.nil ?_)))
                case tr =>
                  refine' Tr.cmp (r₁ := (true, .int hand)) (r₂ := (true, .int 0)) ?t1 ?t2 Op2.ge
                  case t1 => walk_at "ev"
                  case t2 => walk_at "ev"
                · have hge : 0 ≤ hand := by simpa using hq
                  have hin : hand ∈ row.map (·.2.1) := by
                    rw [hhand, hpick] at hge
                    obtain ⟨q, hq, e⟩ := pick_mem (f := f) (rs := rs) hge
                    rw [show hand = q.2.1 from (hhand.trans hpick).trans e]
                    exact List.mem_map_of_mem (f := fun q : Work => q.2.1) (hrm q hq)
                  refine' Sp.cons (S1.isubKey (kvs := KD (row.map (·.2.1)) f) (n := f hand) (k := hand) (m := 1) (b := true) (b' := true) ?a1 (by decide) (by decide) (fun own => ?a2) (fun own => ?a3) (look_KD hin) ?a4 (Sp.nil (Sp.nil ?a5)))
                  case a1 => walk_at "nm"
                  case a2 => walk_at "ev"
                  case a3 => walk_at "ev"
                  case a4 => unfold KD; rw [List.length_map, List.length_map]; exact Nat.le_trans hrow (by decide)
                  case a5 =>
                    refine ⟨F.length - (t + 1), by omega, t + 1, hlt, rfl, ?_, ?_, ?_, ?_, rfl⟩
                    · walk_at "nm"
                    · walk_at "nm"
                    · rw [Gam.set_eq, stor_KD hin]
                      congr 4
                      funext x
                      rw [hlf]
                      split
                      · rename_i e; rw [e]
                      · omega
                    · walk_at "nm"
                · have hlt' : hand < 0 := by simpa using hq
                  refine ⟨F.length - (t + 1), by omega, t + 1, hlt, rfl, ?_, ?_, ?_, ?_, rfl⟩
                  · walk_at "nm"
                  · walk_at "nm"
                  · rw [Gam.set_ne (by decide), k4]
                    congr 3
                    unfold KD
                    refine List.map_congr_left fun x hx => ?_
                    rw [hlf, if_neg, Int.sub_zero]
                    obtain ⟨r, hr, rfl⟩ := List.mem_map.mp hx
                    have := h0 r hr
                    omega
                  · walk_at "nm"
          · have hle : ¬ 0 < sumL row (F.take t) := by simpa using hb
            have : t = F.length := by
              rcases Nat.lt_or_ge t F.length with h | h
              · exact absurd (hF.step t h).1 hle
              · omega
            subst this
            rw [List.take_length] at g4
            exact ⟨g4, rfl⟩
        case fin =>
          rintro Γ' Ω' ⟨g1, rfl⟩
          refine SpT.of tj hmods (Sp.cons (S1.retOwn (d := .lst (F.map D.int)) g1 (.head _) ?_ (.inl rfl)))
          rw [hlent]; decide

theorem code_law {w : World} : ∀ h : Heap, (hd.heap_1 w.params).In h → CodeHd h 142 140 := fun h hX => by
  have := hX 142 _ (by k_is)
  refine ⟨_, _, _, _, _, _, _, _, _, this, rfl, rfl, rfl, rfl, rfl, rfl, rfl, rfl, by decide⟩
noncomputable def drawsOf (ns : List Int) : List Int := [32, 17, 2] ++ (ns.take 4).map fun x => x.fmod 40
noncomputable def outD : D → Option D
  | .int x => some (.int (x.fmod 40))
  | _ => none
theorem outD_map (ns : List Int) : (ns.map D.int).filterMap outD = (ns.map fun x => x.fmod 40).map D.int := by
  rw [List.filterMap_map, List.map_map, ← List.filterMap_eq_map]
  rfl
noncomputable def outB : D → Int × D
  | .int k => (k, bkd ⟨0, 0, 0, 0, []⟩)
  | _ => (0, .none)
theorem law_c {w : World} {loose mean mg mb} {ns : List Int} {a : Addr} {o : Obj} {vs : List Value} {k : Nat} (hc : o.cls = .type "list") (hdt : o.data = .seq vs.toArray k) (hi : IntsAre vs ns) (hl : ns.length ≤ 63) {Inv : List Work → RunS → Prop} {F : List Int}
    (PL : PlainLaw (rowOf (drawsOf ns)) ((List.range (drawsOf ns).length).map fun (i : Nat) => (i : Int)) (books0 (drawsOf ns).length) Inv F) :
    LawC (amb w loose mean mg mb) 143 140 125 [(Str.ofString "script", (true, .obj (.ref a) [(a, o)]))] true := by
  refine' LawC.of (mods := [Str.ofString "row", Str.ofString "books"]) (lp := { line := 176, col := 74, endLine := 176, endCol := 94 }) ?ho ?hbody
  case ho => show (hd.heap_1 w.params).lookup 143 = some _; k_is
  case hbody =>
    intro β hlv hcode hlent
    obtain ⟨dr, hdr⟩ : ∃ dr, dr = drawsOf ns := ⟨_, rfl⟩
    have hdl : dr.length ≤ 7 := by
      rw [hdr]; unfold drawsOf
      rw [List.length_append, List.length_map, List.length_take]
      simp only [List.length_cons, List.length_nil]; omega
    rw [← hdr] at PL
    have hrl : (rowOf dr).length = dr.length := rowTo_length dr _
    have tj : TJ [(tab1, 140), (tab2, 125)] (fun W h => TabAt ⟨tab1, 140, { line := 176, col := 74, endLine := 176, endCol := 94 }, β.env.qual ++ "<lambda>"⟩ W h ∧ h.get? 125 = some (tabObj #[])) β := ⟨TabAt.ok2, fun p hp => by rw [hlent]; exact hp⟩
    have hG : ∀ (W : List Addr) (h : Heap), (fun W h => TabAt ⟨tab1, 140, { line := 176, col := 74, endLine := 176, endCol := 94 }, β.env.qual ++ "<lambda>"⟩ W h ∧ h.get? 125 = some (tabObj #[])) W h → GrownTn [(tab1, 140), (tab2, 125)] h := fun W h hJ p hp => by
      rcases List.mem_cons.mp hp with rfl | hp
      · obtain ⟨ps, e, _⟩ := hJ.1; exact ⟨ps, e⟩
      · rw [List.mem_singleton.mp hp]; exact ⟨_, hJ.2⟩
    have hmods : ∀ p ∈ [(tab1, (140 : Addr)), (tab2, 125)], p.1 ∉ [Str.ofString "row", Str.ofString "books"] := by
      intro p hp
      rcases List.mem_cons.mp hp with rfl | hp
      · decide
      · rw [List.mem_singleton.mp hp]; decide
    refine' SpE.consS hG tj hmods (S1.assign (d := .lst (dr.map D.int)) (fun own => ?ev) (.inl rfl) (by decide) ?_)
    case ev =>
      rw [hdr]
      unfold drawsOf
      rw [List.map_append, ← outD_map]
      refine' Ev.bin (r₁ := (true, .lst ([32, 17, 2].map D.int))) (r₂ := (true, .lst (((ns.take 4).map D.int).filterMap outD))) ?h1 ?h2 (Op2.addL ?h3)
      case h1 => exact Ev.list (ds := [.int 32, .int 17, .int 2]) (EvL.cons Ev.int (EvL.cons Ev.int (EvL.cons Ev.int EvL.nil)))
      case h2 =>
        refine' Ev.listComp outD ?k1 (EvI.list (Ev.sliceObj (b₁ := true) (b₂ := true) (n := 4) ?k2 hc hdt hi (by omega) ?k3 (by decide))) ?k4 ?k5
        case k1 => walk_at "bo"
        case k2 => walk_at "nm"
        case k3 => walk_at "ev"
        case k4 =>
          intro i d hd
          rw [List.getElem?_map] at hd
          obtain ⟨x, hx, rfl⟩ := Option.map_eq_some_iff.mp hd
          refine ⟨_, .name (.inl rfl) (by decide) (by decide), fun B => ⟨TrL.nil, fun y hy => ?_⟩⟩
          cases hy
          walk_at "ev"
        case k5 => rw [List.length_map, List.length_take]; exact Nat.le_trans (Nat.min_le_left _ _) (by decide)
      case h3 =>
        refine Nat.le_trans (Nat.add_le_add_left (List.length_filterMap_le _ _) _) ?_
        rw [List.length_map, List.length_map, List.length_take]
        exact Nat.le_trans (Nat.add_le_add_left (Nat.min_le_left _ _) _) (by decide)
    refine' SpE.consS hG tj hmods (S1.assignOwn (d := .lst []) EvN.nil (.inl rfl) (by decide) (fun d h => by have : (none : Option (Bool × D)) = some (false, d) := h; cases this) ?_)
    refine SpE.step hG (fun Γ' Ω' => Γ' "row" = some (false, .lst ((rowOf dr).map tr3)) ∧ Γ' "draws" = some (true, .lst (dr.map D.int)) ∧ Γ' "books" = none ∧ Ω' = [Str.ofString "row", tab1, tab2]) ?lp1 ?fin
    case lp1 =>
      refine' S1T.for (mods' := [Str.ofString "row"]) (ds := (List.range ((dr.length : Nat) : Int).toNat).map fun (i : Nat) => D.int i) tj (fun i Γ' Ω' => Γ' "row" = some (false, .lst ((rowTo dr i).map tr3)) ∧ Γ' "draws" = some (true, .lst (dr.map D.int)) ∧ Γ' "books" = none ∧ Ω' = [Str.ofString "row", tab1, tab2]) (ItA.of fun own => EvI.range1 (b₁ := true) (Glob1.act rfl rfl) (EvM.cons ?r1 EvM.nil) ?r2 ?r3) ?i0 ?turn ?fn
      case r1 =>
        rw [← List.length_map (f := D.int)]
        refine' Ev.lenOf (b₁ := true) (Glob1.act rfl rfl) ?l1 ?l2
        case l1 => walk_at "ev"
        case l2 => rw [List.length_map]; omega
      case r2 => omega
      case r3 => omega
      case i0 => exact ⟨rfl, rfl, rfl, rfl⟩
      case turn =>
        rintro i d Γ' Ω' hdd ⟨g1, g2, g3, rfl⟩
        rw [Int.toNat_natCast, List.getElem?_map] at hdd
        obtain ⟨j, hj, rfl⟩ := Option.map_eq_some_iff.mp hdd
        have hij : i < dr.length ∧ j = i := by
          obtain ⟨h1, h2⟩ := List.getElem?_eq_some_iff.mp hj
          rw [List.length_range] at h1
          rw [List.getElem_range] at h2
          exact ⟨h1, h2.symm⟩
        obtain ⟨hil, rfl⟩ := hij
        obtain ⟨x, hx⟩ : ∃ x, dr[j]? = some x := ⟨_, List.getElem?_eq_getElem hil⟩
        have hxd : dr.getD j 0 = x := by simp [List.getD, hx]
        have hw : tr3 (workOf dr j) = .tup [.int (x.fmod 8), .int (j : Nat), .int (x.fdiv 8 + 1)] := by
          unfold workOf; rw [hxd]
        refine ⟨_, .name (.inl rfl) (by decide) (by decide), fun I => ?_⟩
        refine' SpT.cons (S1T.lendKey (t := ⟨tab1, 140, { line := 176, col := 74, endLine := 176, endCol := 94 }, β.env.qual ++ "<lambda>"⟩) (n := 2) (f := 23) (d₀ := .lst ((rowTo dr j).map tr3)) (rs := [(true, tr3 (workOf dr j))]) (d := .none) (d' := .lst ((rowTo dr (j + 1)).map tr3)) tj.hide ?L ?jt (.head _) ?hxt (fun own => Glob1.act rfl rfl) ?kp (fun own => ?ha) (by simp) (fun fa os ik => ?hc) ?lv ?gx (.head _) (.head _) (SpT.nil ?pp))
        case L => exact ⟨by show _ ∈ β.lent; rw [hlent]; exact .head _, rfl, ⟨142, hcode, code_law⟩, rfl, rfl, fun _ => rfl, fun _ _ _ _ _ _ => rfl⟩
        case jt => exact ⟨fun _ _ h => h.1, fun W h h' hJ TA kk => ⟨TA, kk _ _ (show (125 : Addr) ≠ 140 by decide) hJ.2⟩⟩
        case hxt =>
          intro p hp
          rcases List.mem_cons.mp hp with rfl | hp
          · decide
          · rw [List.mem_singleton.mp hp]; decide
        case kp => show keepIn (hd.heap_1 w.params) _ = true; k_is
        case ha =>
          rw [hw]
          refine' EvM.cons (Ev.tuple (EvL.cons ?e1 (EvL.cons ?e2 (EvL.cons ?e3 EvL.nil)))) EvM.nil
          case e1 =>
            refine' Ev.bin (r₁ := (true, .int x)) (r₂ := (true, .int 8)) ?f1 ?f2 (Op2.mod (by decide))
            case f1 =>
              refine' Ev.item (ds := dr.map D.int) (k := (j : Nat)) (b₁ := true) (b₂ := true) ?i1 ?i2 ?i3 ?i4 ?i5
              case i1 => walk_at "ev"
              case i2 => walk_at "ev"
              case i3 => omega
              case i4 => omega
              case i5 => rw [Int.toNat_natCast, List.getElem?_map, hx]; rfl
            case f2 => walk_at "ev"
          case e2 => walk_at "ev"
          case e3 =>
            refine' Ev.bin (r₁ := (true, .int (x.fdiv 8))) (r₂ := (true, .int 1)) ?g1 ?g2 Op2.add
            case g1 =>
              refine' Ev.bin (r₁ := (true, .int x)) (r₂ := (true, .int 8)) ?f1 ?f2 (Op2.fdiv (by decide) (by decide))
              case f1 =>
                refine' Ev.item (ds := dr.map D.int) (k := (j : Nat)) (b₁ := true) (b₂ := true) ?i1 ?i2 ?i3 ?i4 ?i5
                case i1 => walk_at "ev"
                case i2 => walk_at "ev"
                case i3 => omega
                case i4 => omega
                case i5 => rw [Int.toNat_natCast, List.getElem?_map, hx]; rfl
              case f2 => walk_at "ev"
            case g2 => walk_at "ev"
        case hc =>
          rw [rowTo_succ]
          exact insort_c ik (by rw [rowTo_length]; omega)
        case lv => show 2 < β.lv; omega
        case gx => walk_at "nm"
        case pp => exact ⟨Gam.set_eq, by walk_at "nm", by walk_at "nm", rfl⟩
      case fn =>
        rintro Γ' Ω' ⟨g1, g2, g3, rfl⟩
        rw [List.length_map, List.length_range, Int.toNat_natCast] at g1
        exact ⟨g1, g2, g3, rfl⟩
    case fin =>
      rintro Γ' Ω' ⟨g1, g2, g3, rfl⟩
      refine SpE.freeze (x := Str.ofString "row") (d := .lst ((rowOf dr).map tr3)) g1 tj (by rw [hlent]; decide) (by decide) ?_
      refine' SpE.consS hG tj hmods (S1.assignMadeOwn (d := .dct (BD (books0 dr.length))) (fun own => ?ok) (fun own => ?mk) (.inl rfl) ?n0 ?nx (hsw := ?sw))
      case ok => walk_at "bo"
      case mk =>
        have hb : BD (books0 dr.length) = dmade outB ((List.range ((dr.length : Nat) : Int).toNat).map fun (i : Nat) => D.int i) := by
          rw [dmade_nodup, Int.toNat_natCast]
          · unfold books0; rw [List.map_map]; show List.map _ (List.map _ _) = _; rw [List.map_map]; rfl
          · rw [List.map_map]
            show ((List.range ((dr.length : Nat) : Int).toNat).map fun (i : Nat) => (i : Int)).Nodup
            exact List.Pairwise.map _ (fun a b (h : a ≠ b) => by omega) List.nodup_range
        rw [hb]
        refine' Made.dict outB ?k1 (EvI.range1 (b₁ := true) (Glob1.act rfl rfl) (EvM.cons ?r1 EvM.nil) ?r2 ?r3) ?k4 ?k5
        case k1 => walk_at "bo"
        case r1 =>
          rw [← List.length_map (f := D.int)]
          refine' Ev.lenOf (b₁ := true) (Glob1.act rfl rfl) ?l1 ?l2
          case l1 => walk_at "ev"
          case l2 => rw [List.length_map]; omega
        case r2 => omega
        case r3 => omega
        case k4 =>
          intro i d hd
          rw [List.getElem?_map] at hd
          obtain ⟨r, hr, rfl⟩ := Option.map_eq_some_iff.mp hd
          refine ⟨_, .name (.inl rfl) (by decide) (by decide), fun B => ⟨TrL.nil, ?_, ?_⟩⟩
          · show Ev _ _ _ _ _ (true, .int (r : Nat))
            walk_at "ev"
          · show Ev _ _ _ _ _ (true, .tup [.int 0, .int 0, .int 0, .int 0, .dct []])
            exact Ev.tuple (EvL.cons Ev.int (EvL.cons Ev.int (EvL.cons Ev.int (EvL.cons Ev.int (EvL.cons Ev.dict0 EvL.nil)))))
        case k5 => rw [List.length_map, List.length_range, Int.toNat_natCast]; exact Nat.le_trans hdl (by decide)
      case n0 =>
        intro d h
        rw [Gam.set_ne (by decide), g3] at h
        cases h
      case sw => exact (sw_with β.hsc _ _ _).trans rfl
      case nx =>
        refine' SpE.consS hG tj hmods (S1.assignLend2 (f := 123) (n := 4) (r₀ := .lst ((rowOf dr).map tr3)) (d₀ := .dct (BD (books0 dr.length))) (fun own => Glob1.act rfl rfl) ?kp (fun own => ?e) (law_run_c Inv (by omega) PL.start (fun t rest S h1 h2 h3 => ⟨⟨(PL.turn t rest S h1 h2 h3).1.own, (PL.turn t rest S h1 h2 h3).1.one, (PL.turn t rest S h1 h2 h3).1.keys, (PL.turn t rest S h1 h2 h3).1.top, (PL.turn t rest S h1 h2 h3).1.lens⟩, (PL.turn t rest S h1 h2 h3).2⟩) PL.arr PL.len) (by omega) ?gb (.head _) (by decide) (.inl rfl) (by decide) ?nx2)
        case kp => show keepIn (hd.heap_1 w.params) _ = true; k_is
        case e => walk_at "ev"
        case gb => walk_at "nm"
        case nx2 =>
          refine SpE.freeze (x := Str.ofString "books") (d := .dct (BD (runAll (rowOf dr ++ [(99, -1, 0)]) (run0 (books0 dr.length))).books)) (by walk_at "nm") tj (by rw [hlent]; decide) (by decide) ?_
          rw [PL.ends]
          refine' SpE.consS hG tj hmods (S1.ife (b := false) (fun own => ?tr) (fun hq => by cases hq) (fun _ => Sp.nil ?nx3))
          case tr =>
            refine' Tr.cmp (r₁ := (true, .lst ((soonest (rowOf dr)).map D.int))) (r₂ := (true, .lst ((soonest (rowOf dr)).map D.int))) ?t1 ?t2 Op2.neInts
            case t1 => walk_at "ev"
            case t2 =>
              refine' Ev.call (f := 133) (n := 2) (rs := [(true, .lst ((rowOf dr).map tr3))]) (Glob1.act rfl rfl) ?kp (EvM.cons ?a1 EvM.nil) (law_soonest_c (by omega)) (by omega)
              case kp => show keepIn (hd.heap_1 w.params) _ = true; k_is
              case a1 => walk_at "ev"
          case nx3 =>
            refine' SpE.retTab (f := 128) (g := 138) (T := 125) (n := 2) (m := 3) (tb := tab2) (d1 := .dct (BD (runAll (rowOf dr ++ [(99, -1, 0)]) (run0 (books0 dr.length))).books)) (d2 := .lst ((rowOf dr).map tr3)) (d3 := .lst ((soonest (rowOf dr)).map D.int)) (d4 := .lst (F.map D.int)) tj (fun own => Glob1.act rfl rfl) ?kg (fun own => Glob1.act rfl rfl) ?kf (fun own => ?v1) (fun own => ?v2) (fun own => ?v3) (law_film_c (by omega) ?ndd ?nn PL.film PL.filmLen) (law_calls_c PL.keys PL.nd ?kl (by have := PL.filmLen; omega) PL.inF ?so PL.book PL.sum) (by omega) (by omega) (.tail _ (.head _)) rfl (fun W h hJ => hJ.2) hG ?one rfl
            case kg => show keepIn (hd.heap_1 w.params) _ = true; k_is
            case kf => show keepIn (hd.heap_1 w.params) _ = true; k_is
            case v1 => walk_at "ev"
            case v2 => walk_at "ev"
            case v3 => walk_at "ev"
            case ndd => exact PL.ones
            case nn => exact PL.nn
            case kl => rw [List.length_map, List.length_range]; omega
            case so => rw [← PL.ends]; exact PL.sort
            case one =>
              intro p hp he
              rcases List.mem_cons.mp hp with rfl | hp
              · exact absurd he (by decide)
              · rw [List.mem_singleton.mp hp]

end Mine

namespace Mine
theorem law_top {w : World} {loose mean mg mb} {G0 h₁ : Heap} {L fa a : Addr} {vs : List Value} {ns : List Int} {name qual : Str} {params : Arguments} {body : List Stmt} {scope : Scope} {dV kV doc pm ct oc : Value} {an od : Option Addr} {osl : Array (Option Value)} {Q : Flow → Shared → Prop} {E : Value → Shared → Prop} {s : Shared}
    (ho : (hd.heap_1 w.params).lookup 143 = some ⟨oc, od, .func (fnOf name qual params body scope dV kV doc pm an (.ref 142) ct), osl⟩) (hke : scope.kind = .function) (hsc : scope.names.lookup (Str.ofString "script") = some .local)
    (F : Fr G0 L h₁ (fun x => List.lookup x [(Str.ofString "script", Value.ref a)].reverse)) (X : (hd.heap_1 w.params).In G0) (T : Top topProg loose mean mg mb G0) (K : Below callerA G0 [] G0)
    (N : News G0 L h₁ [(125, tabObj #[]), (140, tabObj #[])]) (l0 : 125 < L ∧ 140 < L) (lst : G0.IsList a vs.toArray) (hI : IntsAre vs ns) (hlen : ¬ (63 : Int) < ns.length) (hs : s.heap = h₁) 
    (PL : ∀ ns : List Int, ∃ Inv F, PlainLaw (rowOf (drawsOf ns)) ((List.range (drawsOf ns).length).map fun (i : Nat) => (i : Int)) (books0 (drawsOf ns).length) Inv F)
    (hnc : ∀ x ∈ scope.names, x.2 ≠ .cell)
    (hQ : ∀ s', (∃ h t, s' = { s with heap := h, toks := t }) → (∀ c o, G0.get? c = some o → s'.heap.get? c = some o) → (∃ ps, s'.heap.get? 140 = some (tabObj ps)) → (∃ ps, s'.heap.get? 125 = some (tabObj ps)) → Q (.ret (.bool true)) s') :
    wpAny (model PySem.Challenge.rw_pg0167_01.row.prog w) (callerA.deeper (envOf qual scope L fa (.ref 142))) (execs body (envOf qual scope L fa (.ref 142))) Q E s := by
  subst hs
  obtain ⟨Inv, Fm, PL⟩ := PL ns
  obtain ⟨o, go, hc, k, hd'⟩ := lst
  let α : Act (amb w loose mean mg mb) scope :=
    { A := callerA.deeper (envOf qual scope L fa (.ref 142)), env := envOf qual scope L fa (.ref 142), outer := [], A₀ := callerA, base := G0, h₀ := G0, W₀ := [], lent := [(tab1, 140), (tab2, 125)], lv := 9,
      B := K, X := X, T := T, hA := rfl, hf := rfl, hsc := rfl, hke := hke, hg := rfl, hb := rfl, hh := rfl, room := (by show 4 + 3 + 20 * 9 + 150 < cLine; decide), deep := (by show 1 + claimMargin + 1 + 9 < recursionLimit; decide), cls := fun c hc => nomatch hc }
  have n140 := N (140, tabObj #[]) (.tail _ (.head _))
  have n125 := N (125, tabObj #[]) (.head _)
  have hL : L ≠ 140 ∧ L ≠ 125 := ⟨n140.2.1.symm, n125.2.1.symm⟩
  have hWa : a ∉ α.W [(tab1, 140), (tab2, 125)] := fun hm => by
    rcases List.mem_cons.mp hm with rfl | hm
    · rw [n140.2.2] at go; cases go
    · rcases List.mem_cons.mp hm with rfl | hm
      · rw [n125.2.2] at go; cases go
      · rw [show a = L from List.mem_singleton.mp hm] at go
        exact absurd (Heap.lt_size go) (Nat.not_lt.mpr F.above)
  have S : St α (argsG [(Str.ofString "script", (true, .obj (.ref a) [(a, o)]))]) [tab1, tab2] (fun x => List.lookup x [(Str.ofString "script", Value.ref a)].reverse) [(tab1, 140), (tab2, 125)] s := by
    refine ⟨rfl, ?_, ⟨⟨_, F, fun _ _ => rfl⟩, fun x hx => absurd rfl (hnc _ (lookup_mem hx))⟩, ?_, ⟨[], rfl⟩, ?_, ?_⟩
    · show [140, 125, L].Nodup
      simp [hL.1.symm, hL.2.symm]
    · intro p hp
      rcases List.mem_cons.mp hp with rfl | hp
      · exact n140.2.2
      · rw [List.mem_singleton.mp hp]; exact n125.2.2
    · intro b hb
      rcases List.mem_cons.mp hb with rfl | hb
      · exact ⟨_, n140.1⟩
      · rcases List.mem_cons.mp hb with rfl | hb
        · exact ⟨_, n125.1⟩
        · rw [show b = L from List.mem_singleton.mp hb]
          obtain ⟨o, _, _, ho, _⟩ := F.ns
          exact ⟨o, ho⟩
    · intro x r e
      unfold argsG at e
      rw [List.reverse_singleton, List.lookup_cons] at e
      split at e
      · rename_i hx
        have hx : x = Str.ofString "script" := by simpa using hx
        subst hx
        cases e
        refine ⟨⟨by decide, .inl hsc⟩, .ref a, rfl, ?_⟩
        unfold VarOk
        rw [if_pos rfl]
        exact In.obj_iff.mpr ⟨rfl, List.forall_mem_cons.mpr ⟨hideAll_get _ (F.keep _ _ go) hWa, List.forall_mem_nil _⟩⟩
      · cases e
  refine wpAny_mono (E := NoE) ((law_c (loose := loose) (mean := mean) (mg := mg) (mb := mb) hc hd' hI (by omega) PL) name qual params body scope dV kV doc pm (.ref 142) ct oc an od osl ho α rfl rfl rfl rfl _ s Q S n140.1 n125.1 hQ) (fun _ _ h => h) fun _ _ h => h.elim
end Mine
theorem Mine.plain_law : ∀ ns : List Int, ∃ Inv F, Mine.PlainLaw (Mine.rowOf (Mine.drawsOf ns)) ((List.range (Mine.drawsOf ns).length).map fun (i : Nat) => (i : Int)) (Mine.books0 (Mine.drawsOf ns).length) Inv F := fun ns => by
  refine Mine.plain (fun d hd => ?_) ?_
  · unfold Mine.drawsOf at hd
    rcases List.mem_append.mp hd with h | h
    · rcases List.mem_cons.mp h with rfl | h
      · omega
      · rcases List.mem_cons.mp h with rfl | h
        · omega
        · rw [List.mem_singleton.mp h]; omega
    · obtain ⟨x, _, rfl⟩ := List.mem_map.mp h
      rw [Int.fmod_eq_emod_of_nonneg _ (by decide)]
      omega
  · unfold Mine.drawsOf
    rw [List.length_append, List.length_map, List.length_take]
    simp only [List.length_cons, List.length_nil]
    omega
theorem PySem.Challenge.cw_pg0167_01_holds : PySem.Challenge.rw_pg0167_01.Holds :=
  Mine.hd (And.intro Mine.run (by
  w_strict (k_go0; (all_goals try k_fold); (refine' Mine.law_top ?ho ?hke ?hsc ?F ?X ?T ?K ?N ?l0 ?lst ?hI ?hlen ?hs Mine.plain_law ?hnc ?hQ); (case ho => k_is); (case hke => rfl); (case hsc => rfl); (case hs => rfl); (case F => assumption); (case X => assumption); (case T => assumption); (case K => assumption); (case N => assumption); (case l0 => assumption); (case lst => assumption); (case hI => assumption); (case hlen => assumption); (case hnc => decide); (case hQ => rintro s' ⟨h', t', rfl⟩ hk g1 g2; refine ⟨⟨.inl ⟨.bool true, .bool true, [], rfl, fun _ => rfl, .bool true, by wrow_post, fun _ => ⟨List.nodup_nil, fun _ h => nomatch h⟩⟩, hk, rfl, by assumption⟩, g2, g1, trivial⟩))))
