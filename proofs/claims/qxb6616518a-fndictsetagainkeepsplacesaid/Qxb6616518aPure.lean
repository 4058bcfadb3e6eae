/- Plain lists: what a script of Set calls leaves. No Go here. -/
namespace Go.Proofs.Qxb6616518a.Pl

def addKey (acc : List ByteArray) (k : ByteArray) : List ByteArray := if acc.any (fun x => decide (x = k)) = true then acc else acc ++ [k]
theorem any_mem (acc : List ByteArray) (k : ByteArray) : acc.any (fun x => decide (x = k)) = true ↔ k ∈ acc := by simp
/-- the keys at their first calls, in order -/
def fk (L : List (ByteArray × Int)) : List ByteArray := L.foldl (fun acc p => addKey acc p.1) []
/-- the value of the last call that sets k -/
def lv (L : List (ByteArray × Int)) (k : ByteArray) : Option Int := L.foldl (fun o p => if p.1 = k then some p.2 else o) none
/-- some call sets k -/
def hk (L : List (ByteArray × Int)) (k : ByteArray) : Bool := (lv L k).isSome
def hist (K : Nat → ByteArray) (V : Nat → Int) (n : Nat) : List (ByteArray × Int) := (List.range n).map fun j => (K j, V j)

theorem fk_nil : fk [] = [] := rfl
theorem lv_nil (k : ByteArray) : lv [] k = none := rfl
theorem hk_nil (k : ByteArray) : hk [] k = false := rfl
theorem fk_snoc (L : List (ByteArray × Int)) (p : ByteArray × Int) : fk (L ++ [p]) = addKey (fk L) p.1 := by simp [fk]
theorem lv_snoc (L : List (ByteArray × Int)) (p : ByteArray × Int) (k : ByteArray) : lv (L ++ [p]) k = if p.1 = k then some p.2 else lv L k := by simp [lv]
theorem hk_snoc (L : List (ByteArray × Int)) (p : ByteArray × Int) (k : ByteArray) : hk (L ++ [p]) k = (decide (p.1 = k) || hk L k) := by
  unfold hk; rw [lv_snoc]; by_cases h : p.1 = k <;> simp [h]

theorem snoc_ind {P : List (ByteArray × Int) → Prop} (h0 : P []) (hs : ∀ L p, P L → P (L ++ [p])) (L : List (ByteArray × Int)) : P L := by
  have : ∀ M : List (ByteArray × Int), P M.reverse := by
    intro M
    induction M with
    | nil => exact h0
    | cons p M ih => rw [List.reverse_cons]; exact hs _ _ ih
  have := this L.reverse
  rwa [List.reverse_reverse] at this

theorem mem_addKey (acc : List ByteArray) (k x : ByteArray) : x ∈ addKey acc k ↔ x ∈ acc ∨ x = k := by
  unfold addKey
  split
  · rename_i h
    rw [any_mem] at h
    constructor
    · exact Or.inl
    · rintro (h1 | h1)
      · exact h1
      · rw [h1]; exact h
  · simp

theorem mem_fk (L : List (ByteArray × Int)) (k : ByteArray) : k ∈ fk L ↔ hk L k = true := by
  induction L using snoc_ind with
  | h0 => simp [fk_nil, hk_nil]
  | hs L p ih =>
    rw [fk_snoc, mem_addKey, hk_snoc, ih]
    simp only [Bool.or_eq_true, decide_eq_true_eq]
    constructor
    · rintro (h | h)
      · exact Or.inr h
      · exact Or.inl h.symm
    · rintro (h | h)
      · exact Or.inr h.symm
      · exact Or.inl h

theorem fk_snoc_of_has (L : List (ByteArray × Int)) (p : ByteArray × Int) (h : hk L p.1 = true) : fk (L ++ [p]) = fk L := by
  rw [fk_snoc, addKey, if_pos ((any_mem _ _).2 ((mem_fk L p.1).2 h))]
theorem fk_snoc_of_not (L : List (ByteArray × Int)) (p : ByteArray × Int) (h : hk L p.1 = false) : fk (L ++ [p]) = fk L ++ [p.1] := by
  rw [fk_snoc, addKey, if_neg (fun hm => by rw [any_mem, mem_fk] at hm; rw [h] at hm; cases hm)]

theorem fk_length (L : List (ByteArray × Int)) : (fk L).length ≤ L.length := by
  induction L using snoc_ind with
  | h0 => simp [fk_nil]
  | hs L p ih =>
    rw [fk_snoc]; unfold addKey; split <;> simp <;> omega

theorem fk_nodup (L : List (ByteArray × Int)) : (fk L).Nodup := by
  induction L using snoc_ind with
  | h0 => simp [fk_nil]
  | hs L p ih =>
    rw [fk_snoc]; unfold addKey
    split
    · exact ih
    · rename_i h
      rw [any_mem] at h
      rw [List.nodup_append]
      exact ⟨ih, by simp, by intro a ha b hb; simp at hb; rw [hb]; intro e; rw [e] at ha; exact h ha⟩

/-! the script by index -/
theorem hist_zero (K : Nat → ByteArray) (V : Nat → Int) : hist K V 0 = [] := rfl
theorem hist_succ (K : Nat → ByteArray) (V : Nat → Int) (n : Nat) : hist K V (n + 1) = hist K V n ++ [(K n, V n)] := by simp [hist, List.range_succ]
theorem hist_length (K : Nat → ByteArray) (V : Nat → Int) (n : Nat) : (hist K V n).length = n := by simp [hist]
theorem hist_add (K : Nat → ByteArray) (V : Nat → Int) (c m : Nat) : hist K V c ++ hist (fun j => K (c + j)) (fun j => V (c + j)) m = hist K V (c + m) := by
  induction m with
  | zero => simp [hist_zero]
  | succ m ih => rw [hist_succ, ← List.append_assoc, ih, ← hist_succ]; rfl

theorem hk_hist (K : Nat → ByteArray) (V : Nat → Int) (n : Nat) (k : ByteArray) : hk (hist K V n) k = true ↔ ∃ j, j < n ∧ K j = k := by
  induction n with
  | zero => simp [hist_zero, hk_nil]
  | succ n ih =>
    rw [hist_succ, hk_snoc]
    simp only [Bool.or_eq_true, decide_eq_true_eq, ih]
    constructor
    · rintro (h | ⟨j, hj, h⟩)
      · exact ⟨n, by omega, h⟩
      · exact ⟨j, by omega, h⟩
    · rintro ⟨j, hj, h⟩
      by_cases e : j = n
      · subst e; exact Or.inl h
      · exact Or.inr ⟨j, by omega, h⟩

/-- the last call at the key of call i -/
def lastTo (K : Nat → ByteArray) (V : Nat → Int) (i : Nat) : Nat → Int
  | 0 => V i
  | m + 1 => if K (i + 1 + m) = K i then V (i + 1 + m) else lastTo K V i m
theorem lv_last (K : Nat → ByteArray) (V : Nat → Int) (i m : Nat) : lv (hist K V (i + 1 + m)) (K i) = some (lastTo K V i m) := by
  induction m with
  | zero => rw [Nat.add_zero, hist_succ, lv_snoc]; simp [lastTo]
  | succ m ih =>
    rw [show i + 1 + (m + 1) = (i + 1 + m) + 1 by omega, hist_succ, lv_snoc]
    simp only [lastTo]
    split
    · rfl
    · exact ih

/-- the calls again, from the last down to call i -/
def back (K : Nat → ByteArray) (V : Nat → Int) (n : Nat) : Nat → List (ByteArray × Int)
  | 0 => []
  | m + 1 => back K V n m ++ [(K (n - (m + 1)), V (n - (m + 1)))]
theorem back_length (K : Nat → ByteArray) (V : Nat → Int) (n m : Nat) : (back K V n m).length = m := by
  induction m with
  | zero => rfl
  | succ m ih => simp [back, ih]
theorem hk_append_left (L M : List (ByteArray × Int)) (k : ByteArray) (h : hk L k = true) : hk (L ++ M) k = true := by
  induction M using snoc_ind with
  | h0 => simpa using h
  | hs M p ih => rw [← List.append_assoc, hk_snoc, ih]; simp
theorem fk_back (K : Nat → ByteArray) (V : Nat → Int) (n m : Nat) (hm : m ≤ n) : fk (hist K V n ++ back K V n m) = fk (hist K V n) := by
  induction m with
  | zero => simp [back]
  | succ m ih =>
    simp only [back]
    rw [← List.append_assoc, fk_snoc_of_has, ih (by omega)]
    refine hk_append_left _ _ _ ?_
    rw [hk_hist]
    exact ⟨n - (m + 1), by omega, rfl⟩
/-- once all calls have been made again, a key holds the value of its first call -/
theorem lv_back (K : Nat → ByteArray) (V : Nat → Int) (n j : Nat) (hj : j < n) (hno : ∀ x, x < j → K x ≠ K j) : lv (hist K V n ++ back K V n n) (K j) = some (V j) := by
  have key : ∀ m, m ≤ n → n - m ≤ j → lv (hist K V n ++ back K V n m) (K j) = some (V j) := by
    intro m
    induction m with
    | zero => intro _ h; omega
    | succ m ih =>
      intro hm h
      simp only [back]
      rw [← List.append_assoc, lv_snoc]
      split
      · rename_i e
        by_cases e2 : n - (m + 1) = j
        · rw [e2]
        · exact absurd e (hno _ (by omega))
      · rename_i e
        refine ih (by omega) ?_
        by_cases e2 : n - (m + 1) = j
        · rw [e2] at e; exact absurd rfl e
        · omega
  exact key n (Nat.le_refl _) (by omega)

/-! a list of keys set one by one -/
def play (f : ByteArray → Int) (ks : List ByteArray) : List (ByteArray × Int) := ks.map fun k => (k, f k)
theorem hk_play (f : ByteArray → Int) (ks : List ByteArray) (k : ByteArray) : hk (play f ks) k = true ↔ k ∈ ks := by
  have : ∀ M : List ByteArray, hk (play f M.reverse) k = true ↔ k ∈ M := by
    intro M
    induction M with
    | nil => simp [play, hk_nil]
    | cons x M ih =>
      have e : play f (x :: M).reverse = play f M.reverse ++ [(x, f x)] := by simp [play]
      rw [e, hk_snoc]
      simp only [Bool.or_eq_true, decide_eq_true_eq, ih, List.mem_cons]
      constructor
      · rintro (h | h)
        · exact Or.inl h.symm
        · exact Or.inr h
      · rintro (h | h)
        · exact Or.inl h.symm
        · exact Or.inr h
  have := this ks.reverse
  rw [List.reverse_reverse] at this
  rw [this]; simp
theorem play_snoc (f : ByteArray → Int) (ks : List ByteArray) (k : ByteArray) : play f (ks ++ [k]) = play f ks ++ [(k, f k)] := by simp [play]
theorem fk_play (f : ByteArray → Int) (ks : List ByteArray) (h : ks.Nodup) : fk (play f ks) = ks := by
  have : ∀ M : List ByteArray, M.reverse.Nodup → fk (play f M.reverse) = M.reverse := by
    intro M
    induction M with
    | nil => intro _; rfl
    | cons x M ih =>
      intro hn
      rw [List.reverse_cons] at hn ⊢
      rw [play_snoc, fk_snoc_of_not, ih]
      · exact (List.nodup_append.1 hn).1
      · have h2 := (List.nodup_append.1 hn).2.2
        cases e : hk (play f M.reverse) x with
        | false => rfl
        | true =>
          rw [hk_play] at e
          exact absurd rfl (h2 x e x (by simp))
  have := this ks.reverse (by simpa using h)
  simpa using this
theorem lv_play (f : ByteArray → Int) (ks : List ByteArray) (k : ByteArray) (h : k ∈ ks) : lv (play f ks) k = some (f k) := by
  have : ∀ M : List ByteArray, k ∈ M → lv (play f M.reverse) k = some (f k) := by
    intro M
    induction M with
    | nil => intro h; cases h
    | cons x M ih =>
      intro hm
      rw [List.reverse_cons, play_snoc, lv_snoc]
      split
      · rename_i e; simp at e; rw [e]
      · rename_i e
        rcases List.mem_cons.1 hm with h1 | h1
        · exact absurd h1.symm e
        · exact ih h1
  have := this ks.reverse (by simpa using h)
  simpa using this

end Go.Proofs.Qxb6616518a.Pl
