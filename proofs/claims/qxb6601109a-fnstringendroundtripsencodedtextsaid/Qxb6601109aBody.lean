/-
  Seat b6601109a: the plain law of the round trip: the first unescaped quote behind an encoded text's head is its end.
-/
import Derived.Test.Qxb6601109aLawQ
namespace Go.Proofs.Qxb6601109a
open Go.RowKit

/-- what stands between the quotes: pairs behind a backslash, and bytes that are neither quote nor backslash -/
inductive Body : List Int → Prop
  | nil : Body []
  | esc (c : Int) {xs : List Int} : Body xs → Body (xs ++ [92, c])
  | plain (z : Int) {xs : List Int} : z ≠ 34 → z ≠ 92 → Body xs → Body (xs ++ [z])

theorem get_mid (pre xs rest : List Int) (y : Int) (p : Nat) (hp : p = pre.length + 1 + xs.length) : (pre ++ 34 :: (xs ++ y :: rest))[p]? = some y := by
  subst hp
  rw [List.getElem?_append_right (by omega), show pre.length + 1 + xs.length - pre.length = xs.length + 1 by omega, List.getElem?_cons_succ, List.getElem?_append_right (by omega)]
  simp

theorem body_law (pre : List Int) {xs : List Int} (h : Body xs) : ∀ rest : List Int,
    (∀ i, pre.length < i → i < pre.length + 1 + xs.length → ¬ Quote (pre ++ 34 :: (xs ++ rest)) pre.length i) ∧ bs (pre ++ 34 :: (xs ++ rest)) pre.length (pre.length + 1 + xs.length) % 2 = 0 := by
  induction h with
  | nil =>
    intro rest
    refine ⟨fun i h1 h2 => by simp at h2; omega, ?_⟩
    rw [show pre.length + 1 + ([] : List Int).length = pre.length + 1 by simp, bs_zero (fun h => absurd h.1 (Nat.lt_irrefl _))]
  | @plain z xs h34 h92 _ ih =>
    intro rest
    have e : xs ++ [z] ++ rest = xs ++ z :: rest := by simp
    rw [e, show pre.length + 1 + (xs ++ [z]).length = pre.length + 1 + xs.length + 1 by simp; omega]
    obtain ⟨i1, i2⟩ := ih (z :: rest)
    have g := get_mid pre xs rest z _ rfl
    refine ⟨fun i h1 h2 hq => ?_, ?_⟩
    · rcases Nat.lt_succ_iff_lt_or_eq.1 h2 with h3 | h3
      · exact i1 i h1 h3 hq
      · have := hq.1
        rw [h3, g] at this
        exact h34 (Option.some.inj this)
    · rw [bs_zero (fun h => h92 (by have := h.2; rw [g] at this; exact Option.some.inj this))]
  | @esc c xs _ ih =>
    intro rest
    have e : xs ++ [92, c] ++ rest = xs ++ 92 :: c :: rest := by simp
    have e2 : xs ++ 92 :: c :: rest = (xs ++ [92]) ++ c :: rest := by simp
    rw [e, show pre.length + 1 + (xs ++ [92, c]).length = pre.length + 1 + xs.length + 2 by simp; omega]
    obtain ⟨i1, i2⟩ := ih (92 :: c :: rest)
    have g := get_mid pre xs (c :: rest) 92 _ rfl
    have s1 := bs_succ (s := pre.length) (by omega) g
    refine ⟨fun i h1 h2 hq => ?_, ?_⟩
    · by_cases h3 : i < pre.length + 1 + xs.length
      · exact i1 i h1 h3 hq
      · by_cases h4 : i = pre.length + 1 + xs.length
        · have := hq.1
          rw [h4, g] at this
          cases this
        · have h5 : i = pre.length + 1 + xs.length + 1 := by omega
          have := hq.2
          rw [h5, s1] at this
          omega
    · by_cases hc : (pre ++ 34 :: (xs ++ 92 :: c :: rest))[pre.length + 1 + xs.length + 1]? = some 92
      · rw [bs_succ (by omega) hc, s1]
        omega
      · rw [bs_zero (fun h => hc h.2)]

theorem body_end (pre xs post : List Int) (h : Body xs) : IsEnd (pre ++ (34 :: (xs ++ [34])) ++ post) pre.length (pre.length + 1 + xs.length) := by
  have e : pre ++ (34 :: (xs ++ [34])) ++ post = pre ++ 34 :: (xs ++ 34 :: post) := by simp
  rw [e]
  obtain ⟨h1, h2⟩ := body_law pre h (34 :: post)
  exact ⟨by omega, ⟨get_mid pre xs post 34 _ rfl, h2⟩, h1⟩

end Go.Proofs.Qxb6601109a
