/-
  Seat b6600954a: the places of a list, stably sorted by an index (no program in it).
-/
namespace Go.Proofs.Qxb6600954a

/-- place k is set behind the last place of an index that is not greater -/
def insK (ix : Nat → Int) (k : Nat) (o : List Nat) : List Nat := o.takeWhile (fun m => decide (ix m ≤ ix k)) ++ k :: o.dropWhile (fun m => decide (ix m ≤ ix k))
/-- the places 0 .. n-1, stably sorted by index -/
def ordK (ix : Nat → Int) : Nat → List Nat
  | 0 => []
  | k + 1 => insK ix k (ordK ix k)

def LexLt (ix : Nat → Int) (a b : Nat) : Prop := ix a < ix b ∨ (ix a = ix b ∧ a < b)

theorem insK_length (ix : Nat → Int) (k : Nat) (o : List Nat) : (insK ix k o).length = o.length + 1 := by
  have h := congrArg List.length (List.takeWhile_append_dropWhile (p := fun m => decide (ix m ≤ ix k)) (l := o))
  rw [List.length_append] at h
  simp only [insK, List.length_append, List.length_cons]
  omega

theorem insK_mem (ix : Nat → Int) (k : Nat) (o : List Nat) (m : Nat) : m ∈ insK ix k o ↔ m = k ∨ m ∈ o := by
  have h : m ∈ o ↔ m ∈ o.takeWhile (fun m => decide (ix m ≤ ix k)) ++ o.dropWhile (fun m => decide (ix m ≤ ix k)) := by rw [List.takeWhile_append_dropWhile]
  rw [h]
  simp only [insK, List.mem_append, List.mem_cons]
  constructor
  · rintro (h | h | h)
    · exact .inr (.inl h)
    · exact .inl h
    · exact .inr (.inr h)
  · rintro (h | h | h)
    · exact .inr (.inl h)
    · exact .inl h
    · exact .inr (.inr h)

theorem ordK_length (ix : Nat → Int) : ∀ n, (ordK ix n).length = n
  | 0 => rfl
  | n + 1 => by rw [ordK, insK_length, ordK_length ix n]

theorem ordK_mem (ix : Nat → Int) : ∀ n m, m ∈ ordK ix n ↔ m < n
  | 0, m => by simp [ordK]
  | n + 1, m => by rw [ordK, insK_mem, ordK_mem ix n]; omega

theorem mem_takeWhile_imp' {p : Nat → Bool} : ∀ {l : List Nat} {a : Nat}, a ∈ l.takeWhile p → p a = true
  | [], a, h => by simp at h
  | b :: l, a, h => by
    rw [List.takeWhile_cons] at h
    split at h
    · rename_i hb
      rcases List.mem_cons.1 h with rfl | h
      · exact hb
      · exact mem_takeWhile_imp' h
    · simp at h

/-- behind the first that fails, in a sorted list, all fail -/
theorem dropWhile_gt (ix : Nat → Int) (x : Int) : ∀ (o : List Nat), o.Pairwise (LexLt ix) → ∀ b ∈ o.dropWhile (fun m => decide (ix m ≤ x)), x < ix b
  | [], _, b, h => by simp at h
  | a :: o, hp, b, h => by
    rw [List.dropWhile_cons] at h
    split at h
    · exact dropWhile_gt ix x o (List.pairwise_cons.1 hp).2 b h
    · rename_i ha
      have ha' : x < ix a := by simpa using ha
      rcases List.mem_cons.1 h with rfl | h
      · exact ha'
      · rcases (List.pairwise_cons.1 hp).1 b h with h1 | h1 <;> omega

theorem ordK_pw (ix : Nat → Int) : ∀ n, (ordK ix n).Pairwise (LexLt ix)
  | 0 => List.Pairwise.nil
  | n + 1 => by
    have ih := ordK_pw ix n
    have hs := ih
    rw [← List.takeWhile_append_dropWhile (p := fun m => decide (ix m ≤ ix n)) (l := ordK ix n), List.pairwise_append] at hs
    obtain ⟨h1, h2, h3⟩ := hs
    rw [ordK, insK, List.pairwise_append, List.pairwise_cons]
    refine ⟨h1, ⟨fun b hb => .inl (dropWhile_gt ix _ _ ih b hb), h2⟩, fun a ha b hb => ?_⟩
    rcases List.mem_cons.1 hb with rfl | hb
    · have e1 : ix a ≤ ix b := by simpa using mem_takeWhile_imp' ha
      have e2 := (ordK_mem ix b a).1 ((List.takeWhile_sublist _).subset ha)
      unfold LexLt
      omega
    · exact h3 a ha b hb

theorem LexLt.ne {ix : Nat → Int} {a b : Nat} (h : LexLt ix a b) : a ≠ b := fun e => by subst e; rcases h with h | h <;> omega

theorem ordK_nodup (ix : Nat → Int) (n : Nat) : (ordK ix n).Nodup := (ordK_pw ix n).imp LexLt.ne

theorem takeWhile_congr' {p q : Nat → Bool} : ∀ {l : List Nat}, (∀ a ∈ l, p a = q a) → l.takeWhile p = l.takeWhile q ∧ l.dropWhile p = l.dropWhile q
  | [], _ => ⟨rfl, rfl⟩
  | a :: l, h => by
    have ha := h a (by simp)
    have ih := takeWhile_congr' (l := l) (fun b hb => h b (by simp [hb]))
    simp only [List.takeWhile_cons, List.dropWhile_cons, ha, ih.1, ih.2, and_self]

theorem ordK_congr {ix iy : Nat → Int} : ∀ n, (∀ m, m < n → ix m = iy m) → ordK ix n = ordK iy n
  | 0, _ => rfl
  | n + 1, h => by
    have ih := ordK_congr n (fun m hm => h m (by omega))
    have hc := takeWhile_congr' (p := fun m => decide (ix m ≤ ix n)) (q := fun m => decide (iy m ≤ iy n)) (l := ordK iy n) (fun a ha => by
      have := (ordK_mem iy n a).1 ha
      simp only [h a (by omega), h n (by omega)])
    rw [ordK, ordK, ih, insK, insK, hc.1, hc.2]

/-- later in the order: greater -/
theorem ordK_lt {ix : Nat → Int} {n i j a b : Nat} (hi : (ordK ix n)[i]? = some a) (hj : (ordK ix n)[j]? = some b) (hij : i < j) : LexLt ix a b := by
  have h := List.pairwise_iff_getElem.1 (ordK_pw ix n)
  obtain ⟨h1, rfl⟩ := List.getElem?_eq_some_iff.1 hi
  obtain ⟨h2, rfl⟩ := List.getElem?_eq_some_iff.1 hj
  exact h i j h1 h2 hij

end Go.Proofs.Qxb6600954a
