/-
  Seat b6600954a: the other zzBytes_.. functions: 32 (FinishTable), 34 (Snapshot), 8 (Assembly), 19 (CallAt).
-/
import Derived.Test.Qxb6600954aLeaf1
namespace Go.Proofs.Qxb6600954a
open Go.RowKit

set_option maxRecDepth 100000 in
set_option maxHeartbeats 1000000 in
theorem zzBytes34_any (a : Option Addr) (cap : Nat) (fs : List Frag) (cut : Int) (w : World) (hr : IsFrags w a fs) (hl : fs.length ≤ 9223372036854775807) :
    Calls Try.prog 34 #[.slice a fs.length cap, .int .i64 cut] w (ZzPost (fs.length + total fs) w) := by
  by_cases hn : 1048576 < (fs.length : Int)
  · go_enter Try.func34, Try.ntmps34
    go_wp2
    go_ret
    exact zz_no
  · go_enter Try.func34, Try.ntmps34
    go_wp2
    go_loop [5, 6] (fun n i => ∃ k : Nat, k ≤ fs.length ∧ i = .int .i64 k ∧ n = .int .i64 (fs.length + total (fs.take k)) ∧ fs.length + total (fs.take k) ≤ 1048576) (fun _ i => fs.length - (intOf i).toNat)
    case atStart => exact ⟨0, Nat.zero_le _, rfl, by simp [total], by simp [total]; omega⟩
    case round =>
      obtain ⟨k, hk, rfl, rfl, hbd⟩ := hrel
      by_cases hlt : k < fs.length
      · obtain ⟨b, off, rfl, hb, hr⟩ := hr.at hlt
        obtain ⟨f, hf⟩ : ∃ f, fs[k]? = some f := ⟨_, List.getElem?_eq_getElem hlt⟩
        obtain ⟨c0, c1, c2, c3, c4⟩ := hr k _ hf
        have HT : Hid (total (fs.take (k + 1)) = total (fs.take k) + (f.id.size + f.name.size + f.args.size)) := total_take_succ fs k f hf
        clear hf
        go_wp2
        iterate 6
          · go_ret
            exact zz_no
        go_round
        case rel => exact ⟨k + 1, by omega, by go_num, by rw [HT.out]; go_num, by rw [HT.out]; omega⟩
        case measure => simp [intOf]; omega
      · go_wp2
        go_ret
        exact zz_yes (by rw [List.take_of_length_le (by omega)] at hbd; omega)

set_option maxRecDepth 100000 in
set_option maxHeartbeats 1000000 in
theorem zzBytes32_any (raw : ByteArray) (a : Option Addr) (cap : Nat) (fs : List Frag) (w : World) (hr : IsFrags w a fs) (hl : fs.length ≤ 9223372036854775807) :
    Calls Try.prog 32 #[.string raw, .slice a fs.length cap] w (ZzPost (raw.size + fs.length + total fs) w) := by
  by_cases h0 : 1048576 < (raw.size : Int)
  · go_enter Try.func32, Try.ntmps32
    go_wp2
    go_ret
    exact zz_no
  by_cases h1 : 1048576 < (fs.length : Int)
  · go_enter Try.func32, Try.ntmps32
    go_wp2
    go_ret
    exact zz_no
  by_cases h2 : 1048576 < (raw.size : Int) + (fs.length : Int)
  · go_enter Try.func32, Try.ntmps32
    go_wp2
    go_ret
    exact zz_no
  go_enter Try.func32, Try.ntmps32
  go_wp2
  go_loop [5, 6] (fun n i => ∃ k : Nat, k ≤ fs.length ∧ i = .int .i64 k ∧ n = .int .i64 ((raw.size + fs.length) + total (fs.take k)) ∧ (raw.size + fs.length) + total (fs.take k) ≤ 1048576) (fun _ i => fs.length - (intOf i).toNat)
  case atStart => exact ⟨0, Nat.zero_le _, rfl, by simp [total], by simp [total]; omega⟩
  case round =>
    obtain ⟨k, hk, rfl, rfl, hbd⟩ := hrel
    by_cases hlt : k < fs.length
    · obtain ⟨b, off, rfl, hb, hr⟩ := hr.at hlt
      obtain ⟨f, hf⟩ : ∃ f, fs[k]? = some f := ⟨_, List.getElem?_eq_getElem hlt⟩
      obtain ⟨c0, c1, c2, c3, c4⟩ := hr k _ hf
      have HT : Hid (total (fs.take (k + 1)) = total (fs.take k) + (f.id.size + f.name.size + f.args.size)) := total_take_succ fs k f hf
      clear hf
      go_wp2
      iterate 6
        · go_ret
          exact zz_no
      go_round
      case rel => exact ⟨k + 1, by omega, by go_num, by rw [HT.out]; go_num, by rw [HT.out]; omega⟩
      case measure => simp [intOf]; omega
    · go_wp2
      go_ret
      exact zz_yes (by rw [List.take_of_length_le (by omega)] at hbd; omega)

set_option maxRecDepth 100000 in
set_option maxHeartbeats 1000000 in
theorem zzBytes8_any (mo raw : ByteArray) (a : Option Addr) (cap : Nat) (fs : List Frag) (w : World) (hr : IsFrags w a fs) (hl : fs.length ≤ 9223372036854775807) :
    Calls Try.prog 8 #[.string mo, .string raw, .slice a fs.length cap] w (ZzPost (mo.size + raw.size + fs.length + total fs) w) := by
  by_cases h0 : 1048576 < (mo.size : Int)
  · go_enter Try.func8, Try.ntmps8
    go_wp2
    go_ret
    exact zz_no
  by_cases h1 : 1048576 < (raw.size : Int)
  · go_enter Try.func8, Try.ntmps8
    go_wp2
    go_ret
    exact zz_no
  by_cases h2 : 1048576 < (mo.size : Int) + (raw.size : Int)
  · go_enter Try.func8, Try.ntmps8
    go_wp2
    go_ret
    exact zz_no
  by_cases h3 : 1048576 < (fs.length : Int)
  · go_enter Try.func8, Try.ntmps8
    go_wp2
    go_ret
    exact zz_no
  by_cases h4 : 1048576 < (mo.size : Int) + (raw.size : Int) + (fs.length : Int)
  · go_enter Try.func8, Try.ntmps8
    go_wp2
    go_ret
    exact zz_no
  go_enter Try.func8, Try.ntmps8
  go_wp2
  go_loop [7, 8] (fun n i => ∃ k : Nat, k ≤ fs.length ∧ i = .int .i64 k ∧ n = .int .i64 ((mo.size + raw.size + fs.length) + total (fs.take k)) ∧ (mo.size + raw.size + fs.length) + total (fs.take k) ≤ 1048576) (fun _ i => fs.length - (intOf i).toNat)
  case atStart => exact ⟨0, Nat.zero_le _, rfl, by simp [total], by simp [total]; omega⟩
  case round =>
    obtain ⟨k, hk, rfl, rfl, hbd⟩ := hrel
    by_cases hlt : k < fs.length
    · obtain ⟨b, off, rfl, hb, hr⟩ := hr.at hlt
      obtain ⟨f, hf⟩ : ∃ f, fs[k]? = some f := ⟨_, List.getElem?_eq_getElem hlt⟩
      obtain ⟨c0, c1, c2, c3, c4⟩ := hr k _ hf
      have HT : Hid (total (fs.take (k + 1)) = total (fs.take k) + (f.id.size + f.name.size + f.args.size)) := total_take_succ fs k f hf
      clear hf
      go_wp2
      iterate 6
        · go_ret
          exact zz_no
      go_round
      case rel => exact ⟨k + 1, by omega, by go_num, by rw [HT.out]; go_num, by rw [HT.out]; omega⟩
      case measure => simp [intOf]; omega
    · go_wp2
      go_ret
      exact zz_yes (by rw [List.take_of_length_le (by omega)] at hbd; omega)

end Go.Proofs.Qxb6600954a
