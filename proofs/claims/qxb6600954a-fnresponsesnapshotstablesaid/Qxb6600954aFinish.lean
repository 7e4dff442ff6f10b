/-
  Seat b6600954a: NormalizeFinishReason (33), wantFinishB1 (18), (*strings.Builder).String of an empty builder (41), zzBytes_FnResponseFinishTable (32).
-/
import Derived.Test.Qxb6600954aLeaf1
import Derived.BigQuiet
import Derived.Deep.QuietTactic
namespace Go.Proofs.Qxb6600954a
open Go.RowKit
set_option linter.unusedSimpArgs false

abbrev sStop : ByteArray := ⟨#[115, 116, 111, 112]⟩
abbrev sLength : ByteArray := ⟨#[108, 101, 110, 103, 116, 104]⟩
abbrev sCalls : ByteArray := ⟨#[116, 111, 111, 108, 95, 99, 97, 108, 108, 115]⟩
abbrev sBlocked : ByteArray := ⟨#[98, 108, 111, 99, 107, 101, 100]⟩
abbrev sOther : ByteArray := ⟨#[111, 116, 104, 101, 114]⟩

/-- the vendor's word, normalised -/
def normF (raw : ByteArray) : ByteArray :=
  if raw.toList == [115, 116, 111, 112] then sStop
  else if raw.toList == [101, 110, 100, 95, 116, 117, 114, 110] then sStop
  else if raw.toList == [115, 116, 111, 112, 95, 115, 101, 113, 117, 101, 110, 99, 101] then sStop
  else if raw.toList == [108, 101, 110, 103, 116, 104] then sLength
  else if raw.toList == [109, 97, 120, 95, 116, 111, 107, 101, 110, 115] then sLength
  else if raw.toList == [116, 111, 111, 108, 95, 99, 97, 108, 108, 115] then sCalls
  else if raw.toList == [102, 117, 110, 99, 116, 105, 111, 110, 95, 99, 97, 108, 108] then sCalls
  else if raw.toList == [116, 111, 111, 108, 95, 117, 115, 101] then sCalls
  else if raw.toList == [99, 111, 110, 116, 101, 110, 116, 95, 102, 105, 108, 116, 101, 114] then sBlocked
  else if raw.toList == [114, 101, 102, 117, 115, 97, 108] then sBlocked
  else sOther

theorem ret_str {a b : ByteArray} (h : a = b) : Ending.returned (.string a) = .returned (.string b) := by rw [h]

set_option maxRecDepth 100000 in
set_option maxHeartbeats 2000000 in
theorem normalize_any (raw : ByteArray) (w : World) : Calls Try.prog 33 #[.string raw] w fun e w' => e = .returned (.string (normF raw)) ∧ w' = w := by
  cases h0 : raw.toList == [115, 116, 111, 112] with
  | true =>
    go_enter Try.func33, Try.ntmps33
    go_wp2
    go_ret
    exact ⟨ret_str (by simp only [normF, h0, Bool.false_eq_true, if_true, if_false]), rfl⟩
  | false =>
    cases h1 : raw.toList == [101, 110, 100, 95, 116, 117, 114, 110] with
    | true =>
      go_enter Try.func33, Try.ntmps33
      go_wp2
      go_ret
      exact ⟨ret_str (by simp only [normF, h0, h1, Bool.false_eq_true, if_true, if_false]), rfl⟩
    | false =>
      cases h2 : raw.toList == [115, 116, 111, 112, 95, 115, 101, 113, 117, 101, 110, 99, 101] with
      | true =>
        go_enter Try.func33, Try.ntmps33
        go_wp2
        go_ret
        exact ⟨ret_str (by simp only [normF, h0, h1, h2, Bool.false_eq_true, if_true, if_false]), rfl⟩
      | false =>
        cases h3 : raw.toList == [108, 101, 110, 103, 116, 104] with
        | true =>
          go_enter Try.func33, Try.ntmps33
          go_wp2
          go_ret
          exact ⟨ret_str (by simp only [normF, h0, h1, h2, h3, Bool.false_eq_true, if_true, if_false]), rfl⟩
        | false =>
          cases h4 : raw.toList == [109, 97, 120, 95, 116, 111, 107, 101, 110, 115] with
          | true =>
            go_enter Try.func33, Try.ntmps33
            go_wp2
            go_ret
            exact ⟨ret_str (by simp only [normF, h0, h1, h2, h3, h4, Bool.false_eq_true, if_true, if_false]), rfl⟩
          | false =>
            cases h5 : raw.toList == [116, 111, 111, 108, 95, 99, 97, 108, 108, 115] with
            | true =>
              go_enter Try.func33, Try.ntmps33
              go_wp2
              go_ret
              exact ⟨ret_str (by simp only [normF, h0, h1, h2, h3, h4, h5, Bool.false_eq_true, if_true, if_false]), rfl⟩
            | false =>
              cases h6 : raw.toList == [102, 117, 110, 99, 116, 105, 111, 110, 95, 99, 97, 108, 108] with
              | true =>
                go_enter Try.func33, Try.ntmps33
                go_wp2
                go_ret
                exact ⟨ret_str (by simp only [normF, h0, h1, h2, h3, h4, h5, h6, Bool.false_eq_true, if_true, if_false]), rfl⟩
              | false =>
                cases h7 : raw.toList == [116, 111, 111, 108, 95, 117, 115, 101] with
                | true =>
                  go_enter Try.func33, Try.ntmps33
                  go_wp2
                  go_ret
                  exact ⟨ret_str (by simp only [normF, h0, h1, h2, h3, h4, h5, h6, h7, Bool.false_eq_true, if_true, if_false]), rfl⟩
                | false =>
                  cases h8 : raw.toList == [99, 111, 110, 116, 101, 110, 116, 95, 102, 105, 108, 116, 101, 114] with
                  | true =>
                    go_enter Try.func33, Try.ntmps33
                    go_wp2
                    go_ret
                    exact ⟨ret_str (by simp only [normF, h0, h1, h2, h3, h4, h5, h6, h7, h8, Bool.false_eq_true, if_true, if_false]), rfl⟩
                  | false =>
                    cases h9 : raw.toList == [114, 101, 102, 117, 115, 97, 108] with
                    | true =>
                      go_enter Try.func33, Try.ntmps33
                      go_wp2
                      go_ret
                      exact ⟨ret_str (by simp only [normF, h0, h1, h2, h3, h4, h5, h6, h7, h8, h9, Bool.false_eq_true, if_true, if_false]), rfl⟩
                    | false =>
                      go_enter Try.func33, Try.ntmps33
                      go_wp2
                      go_ret
                      exact ⟨ret_str (by simp only [normF, h0, h1, h2, h3, h4, h5, h6, h7, h8, h9, Bool.false_eq_true, if_true, if_false]), rfl⟩

/-- the law's own table: stop turned to tool_calls where there are calls -/
def wantF (raw : ByteArray) (anyCalls : Bool) : ByteArray := if normF raw = sStop then (if anyCalls = true then sCalls else sStop) else normF raw

set_option maxRecDepth 100000 in
set_option maxHeartbeats 2000000 in
theorem want_any (raw : ByteArray) (anyCalls : Bool) (w : World) : Calls Try.prog 18 #[.string raw, .bool anyCalls] w fun e w' => e = .returned (.string (wantF raw anyCalls)) ∧ w' = w := by
  cases h0 : raw.toList == [115, 116, 111, 112] with
  | true =>
    have hn : normF raw = sStop := by simp only [normF, h0, Bool.false_eq_true, if_true, if_false]
    have HN : Hid (normF raw = sStop) := hn
    clear hn
    cases anyCalls with
    | true =>
      go_enter Try.func18, Try.ntmps18
      go_wp2
      go_ret
      exact ⟨ret_str (by unfold wantF; rw [HN.out]; simp), rfl⟩
    | false =>
      go_enter Try.func18, Try.ntmps18
      go_wp2
      go_ret
      exact ⟨ret_str (by unfold wantF; rw [HN.out]; simp), rfl⟩
  | false =>
    cases h1 : raw.toList == [101, 110, 100, 95, 116, 117, 114, 110] with
    | true =>
      have hn : normF raw = sStop := by simp only [normF, h0, h1, Bool.false_eq_true, if_true, if_false]
      have HN : Hid (normF raw = sStop) := hn
      clear hn
      cases anyCalls with
      | true =>
        go_enter Try.func18, Try.ntmps18
        go_wp2
        go_ret
        exact ⟨ret_str (by unfold wantF; rw [HN.out]; simp), rfl⟩
      | false =>
        go_enter Try.func18, Try.ntmps18
        go_wp2
        go_ret
        exact ⟨ret_str (by unfold wantF; rw [HN.out]; simp), rfl⟩
    | false =>
      cases h2 : raw.toList == [115, 116, 111, 112, 95, 115, 101, 113, 117, 101, 110, 99, 101] with
      | true =>
        have hn : normF raw = sStop := by simp only [normF, h0, h1, h2, Bool.false_eq_true, if_true, if_false]
        have HN : Hid (normF raw = sStop) := hn
        clear hn
        cases anyCalls with
        | true =>
          go_enter Try.func18, Try.ntmps18
          go_wp2
          go_ret
          exact ⟨ret_str (by unfold wantF; rw [HN.out]; simp), rfl⟩
        | false =>
          go_enter Try.func18, Try.ntmps18
          go_wp2
          go_ret
          exact ⟨ret_str (by unfold wantF; rw [HN.out]; simp), rfl⟩
      | false =>
        cases h3 : raw.toList == [108, 101, 110, 103, 116, 104] with
        | true =>
          have hn : normF raw = sLength := by simp only [normF, h0, h1, h2, h3, Bool.false_eq_true, if_true, if_false]
          have HN : Hid (normF raw = sLength) := hn
          clear hn
          go_enter Try.func18, Try.ntmps18
          go_wp2
          go_ret
          exact ⟨ret_str (by unfold wantF; rw [HN.out]; simp), rfl⟩
        | false =>
          cases h4 : raw.toList == [109, 97, 120, 95, 116, 111, 107, 101, 110, 115] with
          | true =>
            have hn : normF raw = sLength := by simp only [normF, h0, h1, h2, h3, h4, Bool.false_eq_true, if_true, if_false]
            have HN : Hid (normF raw = sLength) := hn
            clear hn
            go_enter Try.func18, Try.ntmps18
            go_wp2
            go_ret
            exact ⟨ret_str (by unfold wantF; rw [HN.out]; simp), rfl⟩
          | false =>
            cases h5 : raw.toList == [116, 111, 111, 108, 95, 99, 97, 108, 108, 115] with
            | true =>
              have hn : normF raw = sCalls := by simp only [normF, h0, h1, h2, h3, h4, h5, Bool.false_eq_true, if_true, if_false]
              have HN : Hid (normF raw = sCalls) := hn
              clear hn
              go_enter Try.func18, Try.ntmps18
              go_wp2
              go_ret
              exact ⟨ret_str (by unfold wantF; rw [HN.out]; simp), rfl⟩
            | false =>
              cases h6 : raw.toList == [102, 117, 110, 99, 116, 105, 111, 110, 95, 99, 97, 108, 108] with
              | true =>
                have hn : normF raw = sCalls := by simp only [normF, h0, h1, h2, h3, h4, h5, h6, Bool.false_eq_true, if_true, if_false]
                have HN : Hid (normF raw = sCalls) := hn
                clear hn
                go_enter Try.func18, Try.ntmps18
                go_wp2
                go_ret
                exact ⟨ret_str (by unfold wantF; rw [HN.out]; simp), rfl⟩
              | false =>
                cases h7 : raw.toList == [116, 111, 111, 108, 95, 117, 115, 101] with
                | true =>
                  have hn : normF raw = sCalls := by simp only [normF, h0, h1, h2, h3, h4, h5, h6, h7, Bool.false_eq_true, if_true, if_false]
                  have HN : Hid (normF raw = sCalls) := hn
                  clear hn
                  go_enter Try.func18, Try.ntmps18
                  go_wp2
                  go_ret
                  exact ⟨ret_str (by unfold wantF; rw [HN.out]; simp), rfl⟩
                | false =>
                  cases h8 : raw.toList == [99, 111, 110, 116, 101, 110, 116, 95, 102, 105, 108, 116, 101, 114] with
                  | true =>
                    have hn : normF raw = sBlocked := by simp only [normF, h0, h1, h2, h3, h4, h5, h6, h7, h8, Bool.false_eq_true, if_true, if_false]
                    have HN : Hid (normF raw = sBlocked) := hn
                    clear hn
                    go_enter Try.func18, Try.ntmps18
                    go_wp2
                    go_ret
                    exact ⟨ret_str (by unfold wantF; rw [HN.out]; simp), rfl⟩
                  | false =>
                    cases h9 : raw.toList == [114, 101, 102, 117, 115, 97, 108] with
                    | true =>
                      have hn : normF raw = sBlocked := by simp only [normF, h0, h1, h2, h3, h4, h5, h6, h7, h8, h9, Bool.false_eq_true, if_true, if_false]
                      have HN : Hid (normF raw = sBlocked) := hn
                      clear hn
                      go_enter Try.func18, Try.ntmps18
                      go_wp2
                      go_ret
                      exact ⟨ret_str (by unfold wantF; rw [HN.out]; simp), rfl⟩
                    | false =>
                      have hn : normF raw = sOther := by simp only [normF, h0, h1, h2, h3, h4, h5, h6, h7, h8, h9, Bool.false_eq_true, if_true, if_false]
                      have HN : Hid (normF raw = sOther) := hn
                      clear hn
                      go_enter Try.func18, Try.ntmps18
                      go_wp2
                      go_ret
                      exact ⟨ret_str (by unfold wantF; rw [HN.out]; simp), rfl⟩

set_option maxRecDepth 100000 in
set_option maxHeartbeats 400000 in
/-- String of a builder that nothing was written to -/
theorem bstring_any (A o : Nat) (w : World) (h : w.cell? ⟨A, o + 1, none⟩ = some (.slice none 0 0)) : Calls Try.prog 41 #[.pointer (some ⟨A, o, none⟩)] w fun e w' => e = .returned (.string ⟨#[]⟩) ∧ ∃ n, w' = w.drewN n := by
  have e1 : ∀ w, (Builtin.unsafeSliceData_ #[48] 90 #[Value.slice none 0 0]).run Try.prog w = .ok (.pointer none) w := fun _ => rfl
  have e2 : ∀ w, (Builtin.unsafeString_ #[90, 3] 9 #[.pointer none, .int .i64 0]).run Try.prog w = .ok (.string ⟨#[]⟩) w := fun _ => rfl
  go_enter Try.func41, Try.ntmps41
  go_wp2
  go_region
  go_wp2
  go_ret
  exact ⟨rfl, 1, rfl⟩

end Go.Proofs.Qxb6600954a
