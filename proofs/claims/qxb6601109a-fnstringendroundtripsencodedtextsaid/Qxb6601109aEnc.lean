/-
  Seat b6601109a: hexDigit (22) and encodeJSONString (19), walked.
-/
import Derived.Test.Qxb6601109aBody
import Derived.OwnWalk
import Derived.Below
namespace Go.Proofs.Qxb6601109a
open Go.RowKit

/-- the numbers xs built by the call itself, in world W -/
def Out (B : Nat) (w W : World) (v : Value) (xs : List Int) : Prop := W.ownsRow B 5 1 v xs.length (xs.map (Value.int .u8)) ∧ Below B w W ∧ B ≤ W.heap.size

theorem own_ge {w : World} {B : Nat} {e : TypeId} {size : Nat} {v : Value} {n : Nat} {xs : List Value} (h : w.ownsRow B e size v n xs) : ∀ k, v.ownBlock = some k → B ≤ k := by
  intro k hk
  rcases h.2 with ⟨rfl, _⟩ | ⟨g, cap, cur, rfl, hb, _⟩
  · simp [Value.ownBlock] at hk
  · simp [Value.ownBlock] at hk
    omega

theorem wpList_app {ops : Array Oper} {rest : List Oper} {o : Oper} {a : Act} {Q : Exit → Act → World → Prop} (hgd : o.guard = none) (s x : Operand)
    (ho : o.op = .call { callee := .builtin .append, args := #[s, x], argTypes := #[29, 29] })
    {B : Nat} {w W : World} {v : Value} {xs : List Int} (H : Hid (Out B w W v xs)) (hs : a.eval s = v) (cs : Array Value) (m c : Nat) (hx : a.eval x = .slice (some ⟨W.heap.size, 0, none⟩) m c)
    (news : List Int) (hcs : cs = (news.map (Value.int .u8)).toArray) (hm : news.length = m) (hle : xs.length + m ≤ 100000000)
    (h : ∀ v' w', Hid (Out B w w' v' (xs ++ news)) → wpList Try.prog ops Q rest (a.put o.dst v') w') : wpList Try.prog ops Q (o :: rest) a (W.alloc (.cells cs 5)) := by
  obtain ⟨hown, hb, hB⟩ := H.out
  obtain ⟨i, hi, hz0, hz1, hz2⟩ := info_parts info5
  refine wpList_append_own _ hgd s x 29 ho B 5 i (.int .u8 0) 1 1 Try.underlying29 hi hz0 hz1 hz2 rfl (by decide) v xs.length _ hs (hown.alloc _) ⟨W.heap.size, 0, none⟩ m c (news.map (Value.int .u8)) hx (by simp [hm]) ?_ ?_ (by unfold maxLen; omega) (by omega) (by simp; omega) ?_
  · intro j u hj
    rw [Addr.add_lit]
    subst hcs
    simp only [World.cell?, heap_alloc_new]
    simpa using hj
  · intro u hu
    obtain ⟨z, _, rfl⟩ := List.mem_map.1 hu
    rfl
  · intro v' w' h1 h2 _
    refine h v' w' ⟨?_, ?_, ?_⟩
    · rw [List.length_append, List.map_append, hm]
      exact h1
    · exact (hb.alloc hB _).grown h2 (by simp; omega) (own_ge hown)
    · have := h2.size
      simp at this
      omega

def HexPost (w : World) (e : Ending) (w' : World) : Prop := ∃ h : Int, e = .returned (.int .u8 h) ∧ (h ≠ 34 ∧ h ≠ 92) ∧ w = w'

set_option maxHeartbeats 400000 in
theorem hex_any (x : Int) (w : World) (h0 : 0 ≤ x) (h1 : x < 16) : Calls Try.prog 22 #[.int .u8 x] w (HexPost w) := by
  by_cases h : x < 10
  · go_enter Try.func22, Try.ntmps22
    go_wp2
    go_ret
    exact ⟨48 + x, by go_num, by omega, rfl⟩
  · go_enter Try.func22, Try.ntmps22
    go_wp2
    go_ret
    exact ⟨87 + x, by go_num, by omega, rfl⟩

/-- the answer: a quote, a body, a quote, in memory of its own -/
def EncPost (n : Nat) (w : World) (e : Ending) (w' : World) : Prop :=
  ∃ v' xs, e = .returned v' ∧ Body xs ∧ xs.length ≤ 6 * n ∧ Out w.heap.size w w' v' (34 :: (xs ++ [34]))

set_option maxRecDepth 100000 in
set_option maxHeartbeats 2000000 in
theorem encode_any (a : Option Addr) (cap : Nat) (zs : List Int) (w : World) (hr : IsBytes w a zs) (hz : ∀ z ∈ zs, 0 ≤ z ∧ z ≤ 255) (hl : zs.length ≤ 1048576) :
    Calls Try.prog 19 #[.slice a zs.length cap] w (EncPost zs.length w) := by
  obtain ⟨i, hi, hz0, hz1, hz2⟩ := info_parts info5
  have HR := hide1 hr
  have HZ := hide1 hz
  clear hr hz
  go_enter Try.func19, Try.ntmps19
  go_wp2_with (first
    | (at_make; refine wpList_make_own _ rfl _ _ 29 rfl w.heap.size 5 i (.int .u8 0) 1 Try.underlying29 hi hz0 hz1 _ _ _ (2 + 6 * zs.length) rfl rfl (by omega) (by rw [hz2]; omega) (by unfold maxLen; omega) (Nat.le_refl _) ?_; intro W1 hown hgrow; have H1 : Hid (Out w.heap.size w W1 (.slice (some ⟨w.heap.size, 0, none⟩) 0 (2 + 6 * zs.length)) []) := hide1 ⟨hown, (Below.refl _ _).grown hgrow (Nat.le_refl _) (fun k hk => by cases hk), hgrow.size⟩; clear hown hgrow)
    | (at_builtin; refine wpList_app rfl _ _ rfl H1 rfl _ 1 1 rfl [34] rfl rfl (by simp) ?_; intro v2 W2 H2))
  go_loopw [3, 4] (fun v i W => ∃ (k : Nat) (xs : List Int), k ≤ zs.length ∧ i = .int .i64 k ∧ Body xs ∧ xs.length ≤ 6 * k ∧ Out w.heap.size w W v (34 :: xs)) (fun _ i _ => zs.length - (intOf i).toNat)
  case atStart => exact ⟨0, [], Nat.zero_le _, rfl, .nil, by simp, H2.out⟩
  case round =>
    obtain ⟨k, xs, hk, rfl, hbody, hxl, hout⟩ := hrel
    have HO := hide1 hout
    have HY := hide1 hbody
    clear hbody
    by_cases hlt : k < zs.length
    · obtain ⟨b, off, rfl, hb, hrow⟩ := HR.out.at hlt
      obtain ⟨z, hz⟩ : ∃ z, zs[k]? = some z := ⟨_, List.getElem?_eq_getElem hlt⟩
      have c0 : wr.cell? ⟨b, off + k, none⟩ = some (.int .u8 z) := by rw [hout.2.1.cell (p := ⟨b, off + k, none⟩) hb]; exact hrow k z hz
      obtain ⟨hz1, hz2⟩ := HZ.out z (List.mem_of_getElem? hz)
      clear hrow hz hout
      by_cases h34 : z = 34
      · subst h34
        go_wp2_with (at_builtin; refine wpList_app rfl _ _ rfl HO rfl _ 2 2 rfl [92, 34] rfl rfl (by simp; omega) ?_; intro v3 W3 H3)
        go_round
        case rel => exact ⟨k + 1, xs ++ [92, 34], by omega, by go_num, HY.out.esc 34, by simp; omega, by simpa using H3.out⟩
        case measure => simp [intOf]; omega
      have h34' : (z == 34) = false := by simpa using h34
      by_cases h92 : z = 92
      · subst h92
        go_wp2_with (at_builtin; refine wpList_app rfl _ _ rfl HO rfl _ 2 2 rfl [92, 92] rfl rfl (by simp; omega) ?_; intro v3 W3 H3)
        go_round
        case rel => exact ⟨k + 1, xs ++ [92, 92], by omega, by go_num, HY.out.esc 92, by simp; omega, by simpa using H3.out⟩
        case measure => simp [intOf]; omega
      have h92' : (z == 92) = false := by simpa using h92
      by_cases h32 : z < 32
      · go_wp2_with fail
        refine (hex_any (z / 16) _ (by omega) (by omega)).mono ?_
        rintro e w' ⟨x1, rfl, hx1, rfl⟩
        have HX1 := hide1 hx1
        clear hx1
        go_wp2_with fail
        refine (hex_any (z % 16) _ (by omega) (by omega)).mono ?_
        rintro e w' ⟨x2, rfl, hx2, rfl⟩
        have HX2 := hide1 hx2
        clear hx2
        go_wp2_with (at_builtin; refine wpList_app rfl _ _ rfl HO rfl _ 6 6 rfl [92, 117, 48, 48, x1, x2] rfl rfl (by simp; omega) ?_; intro v3 W3 H3)
        go_round
        case rel =>
          refine ⟨k + 1, xs ++ [92, 117, 48, 48, x1, x2], by omega, by go_num, ?_, by simp; omega, by simpa using H3.out⟩
          have hB := ((((HY.out.esc 117).plain 48 (by decide) (by decide)).plain 48 (by decide) (by decide)).plain x1 HX1.out.1 HX1.out.2).plain x2 HX2.out.1 HX2.out.2
          simpa using hB
        case measure => simp [intOf]; omega
      · go_wp2_with (at_builtin; refine wpList_app rfl _ _ rfl HO rfl _ 1 1 rfl [z] rfl rfl (by simp; omega) ?_; intro v3 W3 H3)
        go_round
        case rel => exact ⟨k + 1, xs ++ [z], by omega, by go_num, HY.out.plain z h34 h92, by simp; omega, by simpa using H3.out⟩
        case measure => simp [intOf]; omega
    · clear hout
      go_wp2_with (at_builtin; refine wpList_app rfl _ _ rfl HO rfl _ 1 1 rfl [34] rfl rfl (by simp; omega) ?_; intro v3 W3 H3)
      go_ret
      exact ⟨_, xs, rfl, HY.out, by omega, by simpa using H3.out⟩

end Go.Proofs.Qxb6601109a
