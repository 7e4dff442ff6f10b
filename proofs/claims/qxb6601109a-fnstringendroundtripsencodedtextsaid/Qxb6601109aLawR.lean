/-
  Seat b6601109a: zzBytes (18) and FnStringEndRoundTripsEncodedText (6), walked.
-/
import Derived.Test.Qxb6601109aEnc
namespace Go.Proofs.Qxb6601109a
open Go.RowKit

theorem IsBytes.src {w : World} {a : Option Addr} {zs : List Int} (h : IsBytes w a zs) (c : Nat) : Src Try.prog 1 29 (.slice a zs.length c) zs.length (zs.map (Value.int .u8)) w := by
  have h1 : ∀ u ∈ zs.map (Value.int .u8), u.oneCell' = true := fun u hu => by
    obtain ⟨z, _, rfl⟩ := List.mem_map.1 hu
    rfl
  cases a with
  | none =>
    rcases h with rfl | ⟨b, off, h, _⟩
    · exact Src.ofNil w Try.underlying29 c
    · cases h
  | some x =>
    refine Src.ofSlice w Try.underlying29 x zs.length c _ (by simp) (fun j u hj => ?_) h1
    rcases h with rfl | ⟨b, off, h, _, hrow⟩
    · simp at hj
    · cases h
      rw [List.getElem?_map, Option.map_eq_some_iff] at hj
      obtain ⟨z, hz, rfl⟩ := hj
      rw [Addr.add_lit]
      exact hrow j z hz

theorem out_bytes {B : Nat} {w W : World} {v : Value} {xs : List Int} (h : Out B w W v xs) : ∃ a c, v = .slice a xs.length c ∧ IsBytes W a xs := by
  obtain ⟨hown, _⟩ := h
  rcases hown.2 with ⟨rfl, h0⟩ | ⟨g, cap, cur, rfl, hb, hg, _⟩
  · have hx : xs = [] := List.eq_nil_of_length_eq_zero h0
    subst hx
    exact ⟨none, 0, rfl, .inl rfl⟩
  · refine ⟨_, _, rfl, .inr ⟨g, 0, rfl, (Array.getElem?_eq_some_iff.1 hg).1, fun i z hz => ?_⟩⟩
    have := hown.cells (g := g) rfl i (.int .u8 z) (by rw [List.getElem?_map, hz]; rfl)
    rw [Addr.add_lit] at this
    exact this

theorem wpList_app2 {ops : Array Oper} {rest : List Oper} {o : Oper} {a : Act} {Q : Exit → Act → World → Prop} (hgd : o.guard = none) (s x : Operand)
    (ho : o.op = .call { callee := .builtin .append, args := #[s, x], argTypes := #[29, 29] })
    {w W : World} {v : Value} {xs : List Int} (H : Hid (Out w.heap.size w W v xs)) (hs : a.eval s = v) {b : Option Addr} {zs : List Int} (HS : Hid (IsBytes w b zs)) (m c : Nat) (hx : a.eval x = .slice b m c)
    (hm : m = zs.length) (hle : xs.length + m ≤ 100000000)
    (h : ∀ v' w', Hid (Out w.heap.size w w' v' (xs ++ zs)) → wpList Try.prog ops Q rest (a.put o.dst v') w') : wpList Try.prog ops Q (o :: rest) a W := by
  subst hm
  obtain ⟨hown, hb, hB⟩ := H.out
  obtain ⟨i, hi, hz0, hz1, hz2⟩ := info_parts info5
  obtain ⟨v', w', hrun, r1, r2, _⟩ := run_append_src (P := Try.prog) W w.heap.size 29 29 o.type 5 i (.int .u8 0) 1 1 Try.underlying29 hi hz0 hz1 hz2 rfl v xs.length _ hown (.slice b zs.length c) zs.length _ ((HS.out.below hb).src c) (by unfold maxLen; omega) (by omega) hB
  refine wpList_plain hgd fun K hK' => ?_
  unfold Oper.wp
  simp [execOp, ho, resolve, invoke, builtin, hs, hx, hrun, Result.andThen]
  refine hK' _ _ (h v' w' ⟨?_, ?_, ?_⟩)
  · rw [List.length_append, List.map_append]
    exact r1
  · exact hb.grown r2 hB (own_ge hown)
  · have := r2.size
    omega

set_option maxHeartbeats 1000000 in
theorem zz18_no (a b c : Option Addr) (n m k ca cb cc : Nat) (w : World) (hk : k ≤ 9223372036854775807) (h : 1048576 < (n : Int) + m + k) : Calls Try.prog 18 #[.slice a n ca, .slice b m cb, .slice c k cc] w fun e w' => e = .returned (.bool false) ∧ w = w' := by
  by_cases h1 : 1048576 < (n : Int)
  · go_enter Try.func18, Try.ntmps18
    go_wp2
    go_ret
    exact ⟨rfl, rfl⟩
  by_cases h2 : 1048576 < (m : Int)
  · go_enter Try.func18, Try.ntmps18
    go_wp2
    go_ret
    exact ⟨rfl, rfl⟩
  by_cases h3 : 1048576 < (n : Int) + m
  · go_enter Try.func18, Try.ntmps18
    go_wp2
    go_ret
    exact ⟨rfl, rfl⟩
  by_cases h4 : 1048576 < (k : Int)
  · go_enter Try.func18, Try.ntmps18
    go_wp2
    go_ret
    exact ⟨rfl, rfl⟩
  go_enter Try.func18, Try.ntmps18
  go_wp2
  go_ret
  exact ⟨rfl, rfl⟩

set_option maxHeartbeats 1000000 in
theorem zz18_yes (a b c : Option Addr) (n m k ca cb cc : Nat) (w : World) (h : (n : Int) + m + k ≤ 1048576) : Calls Try.prog 18 #[.slice a n ca, .slice b m cb, .slice c k cc] w fun e w' => e = .returned (.bool true) ∧ w = w' := by
  have h1 : (n : Int) ≤ 1048576 := by omega
  have h2 : (m : Int) ≤ 1048576 := by omega
  have h3 : (n : Int) + m ≤ 1048576 := by omega
  have h4 : (k : Int) ≤ 1048576 := by omega
  go_enter Try.func18, Try.ntmps18
  go_wp2
  go_ret
  exact ⟨rfl, rfl⟩

def EncPost2 (n : Nat) (w : World) (e : Ending) (w' : World) : Prop :=
  ∃ a' c' xs, e = .returned (.slice a' (xs.length + 2) c') ∧ Body xs ∧ xs.length ≤ 6 * n ∧ IsBytes w' a' (34 :: (xs ++ [34])) ∧ Below w.heap.size w w'

theorem encode2 (a : Option Addr) (cap : Nat) (zs : List Int) (w : World) (hr : IsBytes w a zs) (hz : ∀ z ∈ zs, 0 ≤ z ∧ z ≤ 255) (hl : zs.length ≤ 1048576) :
    Calls Try.prog 19 #[.slice a zs.length cap] w (EncPost2 zs.length w) := by
  refine (encode_any a cap zs w hr hz hl).mono ?_
  rintro e w' ⟨v', xs, rfl, h1, h2, h3⟩
  obtain ⟨a', c', rfl, h4⟩ := out_bytes h3
  exact ⟨a', c', xs, by simp, h1, h2, h4, h3.2.1⟩

set_option maxRecDepth 100000 in
set_option maxHeartbeats 4000000 in
theorem lawR_walk (a b c : Option Addr) (ca cb cc : Nat) (z0 z1 z2 : List Int) (w : World) (h0 : IsBytes w a z0) (h1 : IsBytes w b z1) (h2 : IsBytes w c z2) (hz : ∀ z ∈ z1, 0 ≤ z ∧ z ≤ 255)
    (hl0 : z0.length ≤ 9223372036854775807) (hl1 : z1.length ≤ 9223372036854775807) (hl2 : z2.length ≤ 9223372036854775807) :
    Calls Try.prog 6 #[.slice a z0.length ca, .slice b z1.length cb, .slice c z2.length cc] w (TrueBelow w) := by
  by_cases hs : 1048576 < (z0.length : Int) + z1.length + z2.length
  · go_enter Try.func6, Try.ntmps6
    go_wp2_with (go_at_call 18; refine (zz18_no a b c _ _ _ _ _ _ _ hl2 hs).mono ?_; rintro e w' ⟨rfl, rfl⟩)
    go_ret
    exact ⟨rfl, Below.refl _ _⟩
  have hz18 := zz18_yes a b c z0.length z1.length z2.length ca cb cc w (by omega)
  have hn0 : (z0.length : Int) ≤ 1048576 := by omega
  have hn1 : (z1.length : Int) ≤ 1048576 := by omega
  have hn2 : (z2.length : Int) ≤ 1048576 := by omega
  have hn3 : (z0.length : Int) + z1.length ≤ 1048576 := by omega
  have hn4 : (z0.length : Int) + z1.length + z2.length ≤ 1048576 := by omega
  clear hs hl0 hl1 hl2
  have H0 := hide1 h0
  have H1 := hide1 h1
  have H2 := hide1 h2
  have HZ := hide1 hz
  clear h0 h1 h2 hz
  obtain ⟨i, hi, hz0, hz1, hz2⟩ := info_parts info5
  go_enter Try.func6, Try.ntmps6
  go_wp2_with (go_at_call 18; refine hz18.mono ?_; rintro e w' ⟨rfl, rfl⟩)
  refine (clone_any a ca z0 _ H0.out (by omega)).mono ?_
  rintro e w1 ⟨a1, c1, rfl, hf1, hb1⟩
  have G0 := hide1 hf1
  have B1 := hide1 hb1
  clear hf1 hb1
  go_wp2_with fail
  refine (clone_any b cb z1 _ (H1.out.below B1.out) (by omega)).mono ?_
  rintro e w2 ⟨a2, c2, rfl, hf2, hb2⟩
  have G1 := hide1 hf2
  have B2 := hide1 hb2
  clear hf2 hb2
  go_wp2_with fail
  refine (clone_any c cc z2 _ ((H2.out.below B1.out).below B2.out) (by omega)).mono ?_
  rintro e w3 ⟨a3, c3, rfl, hf3, hb3⟩
  have G2 := hide1 hf3
  have B3 := hide1 hb3
  clear hf3 hb3
  go_wp2_with fail
  refine (encode2 a2 c2 z1 _ (G1.out.below B3.out) HZ.out (by omega)).mono ?_
  rintro e w4 ⟨a4, c4, xs, rfl, hy, hxl, hf4, hb4⟩
  have GE := hide1 hf4
  have B4 := hide1 hb4
  have HY := hide1 hy
  clear hf4 hb4 hy
  have K0 : Hid (IsBytes w4 a1 z0) := hide1 (((G0.out.below B2.out).below B3.out).below B4.out)
  have K2 : Hid (IsBytes w4 a3 z2) := hide1 (G2.out.below B4.out)
  go_wp2_with (first
    | (at_make; refine wpList_make_own _ rfl _ _ 29 rfl w4.heap.size 5 i (.int .u8 0) 1 Try.underlying29 hi hz0 hz1 _ _ _ (z0.length + (xs.length + 2) + z2.length) rfl rfl (by omega) (by rw [hz2]; omega) (by unfold maxLen; omega) (Nat.le_refl _) ?_; intro W1 hown hgrow; have O1 : Hid (Out w4.heap.size w4 W1 (.slice (some ⟨w4.heap.size, 0, none⟩) 0 (z0.length + (xs.length + 2) + z2.length)) []) := hide1 ⟨hown, (Below.refl _ _).grown hgrow (Nat.le_refl _) (fun k hk => by cases hk), hgrow.size⟩; clear hown hgrow)
    | (at_builtin; refine wpList_app2 rfl _ _ rfl O1 rfl K0 _ _ rfl rfl (by simp; omega) ?_; intro v2 W2 O2)
    | (at_builtin; refine wpList_app2 rfl _ _ rfl O2 rfl GE _ _ rfl (by simp) (by simp; omega) ?_; intro v3 W3 O3)
    | (at_builtin; refine wpList_app2 rfl _ _ rfl O3 rfl K2 _ _ rfl rfl (by simp; omega) ?_; intro v4 W4 O4))
  obtain ⟨a5, c5, rfl, hf5⟩ := out_bytes O4.out
  have hE := body_end z0 xs z2 HY.out
  have e5 : ([] : List Int) ++ z0 ++ 34 :: (xs ++ [34]) ++ z2 = z0 ++ (34 :: (xs ++ [34])) ++ z2 := by simp
  have hlen : (z0 ++ (34 :: (xs ++ [34])) ++ z2).length ≤ 100000000 := by simp; omega
  rw [e5] at hf5 ⊢
  refine (zzEnd_any a5 c5 _ z0.length _ _ hf5 hlen hE).mono ?_
  rintro e w6 ⟨rfl, rfl⟩
  have HBB : Hid (Below w.heap.size w W4) := by
    have s1 := B1.out.size
    have s2 := B2.out.size
    have s3 := B3.out.size
    have s4 := B4.out.size
    exact hide1 ((((B1.out.trans (B2.out.mono s1)).trans (B3.out.mono (by omega))).trans (B4.out.mono (by omega))).trans (O4.out.2.1.mono (by omega)))
  have hq : ((z0.length : Int) + 1 + (xs.length : Int) + 1 == (z0.length : Int) + ((xs.length : Int) + 2)) = true := by
    rw [beq_iff_eq]
    omega
  clear hf5 hE e5 hlen
  go_wp2_with fail
  go_ret
  exact ⟨rfl, HBB.out⟩

end Go.Proofs.Qxb6601109a
