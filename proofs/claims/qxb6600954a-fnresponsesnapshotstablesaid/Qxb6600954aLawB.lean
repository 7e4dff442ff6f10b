/-
  Seat b6600954a: FnResponseFinishTable (function 6), walked.
-/
import Derived.Test.Qxb6600954aLawA
import Derived.Test.Qxb6600954aResp
import Derived.Test.Qxb6600954aZz
namespace Go.Proofs.Qxb6600954a
open Go.RowKit

def RelB (B A : Nat) (mo fi : ByteArray) (a : Option Addr) (fs : List Frag) (w : World) (k : Nat) (wr : World) : Prop :=
  ∃ s ph, Feed B A mo fi a fs (fs.take k) w s ph wr

/-- one more fragment fed, by ZZAddToolCallB1(a, toFragmentB1(frags[i])) -/
theorem feed_size {B A : Nat} {mo fi : ByteArray} {a : Option Addr} {fs : List Frag} {w : World} {k : Nat} {s : St} {ph : Phys} {wr : World} (h : Feed B A mo fi a fs (fs.take k) w s ph wr) (hz : fs.length + total fs ≤ 1048576) (hl : fs.length ≤ 4096) {f : Frag} (hf : fs[k]? = some f) :
    s.calls.length ≤ 4096 ∧ f.args.size ≤ 1048576 ∧ ∀ q ∈ s.calls, q.args.size + f.args.size ≤ 1000000000 := by
  have h1 := fsum_le_total fs
  have h2 := fsum_take_le fs k
  have h3 := fsum_take_succ fs k f hf
  have h4 := fsum_take_le fs (k + 1)
  refine ⟨?_, by omega, fun q hq => by have := args_le h.good hq; omega⟩
  have := h.good.count
  rw [List.length_take] at this
  omega

theorem tcRows_get : ∀ (cs : List Call) (i j : Nat) (p : Call), cs[i]? = some p → j < 3 → (tcRows cs)[i * 3 + j]? = (tcCells p)[j]?
  | [], i, j, p, h, _ => by simp at h
  | c :: cs, 0, j, p, h, hj => by
    simp at h
    subst h
    simp only [tcRows, List.flatMap_cons, Nat.zero_mul, Nat.zero_add]
    rw [List.getElem?_append_left (by simpa [tcCells] using hj)]
  | c :: cs, i + 1, j, p, h, hj => by
    have ih := tcRows_get cs i j p (by simpa using h) hj
    simp only [tcRows, List.flatMap_cons] at ih ⊢
    have hl : (tcCells c).length = 3 := rfl
    rw [List.getElem?_append_right (by omega), hl, show (i + 1) * 3 + j - 3 = i * 3 + j by omega]
    exact ih

theorem argOut_ne (a : ByteArray) : (argOut a).toList.isEmpty = false := by
  unfold argOut
  split
  · rw [ByteArray.toList_eq]; rfl
  · rename_i h; exact emp_false h

theorem norm_stop {fi : ByteArray} {n : Nat} (h : turns fi n = true) : normF fi = sStop ∧ 0 < n := by
  unfold turns at h
  simp only [Bool.and_eq_true, decide_eq_true_eq] at h
  refine ⟨(MapKept.bytes_beq _ _).1 ?_, h.2⟩
  rw [beq_toListBytes, ByteArray.toList_eq sStop]
  exact h.1

theorem fin_yes {fi : ByteArray} {n : Nat} (h : turns fi n = true) : finF fi n = sCalls := by unfold finF; rw [if_pos h]
theorem fin_no {fi : ByteArray} {n : Nat} (h : turns fi n = false) : finF fi n = normF fi := by unfold finF; rw [h]; rfl
theorem want_yes {fi : ByteArray} {n : Nat} (h : turns fi n = true) : wantF fi true = sCalls := by unfold wantF; rw [if_pos (norm_stop h).1]; rfl
theorem want_no {fi : ByteArray} {n : Nat} (h : turns fi n = false) (hn : 0 < n) : wantF fi true = normF fi := by
  unfold wantF
  split
  · rename_i hs
    unfold turns at h
    rw [hs] at h
    simp at h
    omega
  · rfl
theorem want_none (fi : ByteArray) : wantF fi false = normF fi := by
  unfold wantF
  split
  · rename_i hs; rw [hs]; rfl
  · rfl

theorem below_box {B : Nat} {w X : World} (h : Below B w X) (hB : B ≤ X.heap.size) (o : Obj) (n : Nat) : Below B w ((X.alloc o).drewN n) :=
  (h.alloc hB o).trans ⟨rfl, rfl, rfl, by simp, fun _ _ => by simp⟩

/-- the Response lies in its variable; its calls in their row -/
structure RespAt (w2 : World) (mo fi F : ByteArray) (g n cap : Nat) (cs : List Call) (W : World) : Prop where
  box : W.heap[w2.heap.size]? = some (.cells #[.string mo, .string ⟨#[]⟩, .string ⟨#[]⟩, .string ⟨#[]⟩, .slice (some ⟨g, 0, none⟩) n cap, .string F, .string fi, .int .i64 0, .int .i64 0, .int .i64 0, .int .i64 0, .int .i64 0, .int .i64 0] 44)
  row : ∀ i p, cs[i]? = some p → W.cell? ⟨g, i * 3, none⟩ = some (.string p.id) ∧ W.cell? ⟨g, i * 3 + 1, none⟩ = some (.string p.name) ∧ W.cell? ⟨g, i * 3 + 2, none⟩ = some (.string (argOut p.args))

theorem row_of {W : World} {B g cap : Nat} {cs : List Call} (h : W.ownsRow B 52 3 (.slice (some ⟨g, 0, none⟩) cs.length cap) cs.length (tcRows cs)) :
    ∀ i p, cs[i]? = some p → W.cell? ⟨g, i * 3, none⟩ = some (.string p.id) ∧ W.cell? ⟨g, i * 3 + 1, none⟩ = some (.string p.name) ∧ W.cell? ⟨g, i * 3 + 2, none⟩ = some (.string (argOut p.args)) := by
  intro i p hp
  have hi : i < cs.length := (List.getElem?_eq_some_iff.1 hp).1
  have key : ∀ j, j < 3 → W.cell? ⟨g, i * 3 + j, none⟩ = (tcCells p)[j]? := fun j hj => by
    rw [h.cellAt (i * 3 + j) (by omega), tcRows_get cs i j p hp hj]
  exact ⟨key 0 (by omega), key 1 (by omega), key 2 (by omega)⟩

set_option maxRecDepth 100000 in
set_option maxHeartbeats 10000000 in
theorem lawB_walk (fi : ByteArray) (a0 : Option Addr) (cap0 : Nat) (fs : List Frag) (w : World) (hr : IsFrags w a0 fs) (hl : fs.length ≤ 9223372036854775807) :
    Calls Try.prog 6 #[.string fi, .slice a0 fs.length cap0] w (TrueBelow w) := by
  have hzz := zzBytes32_any fi a0 cap0 fs w hr hl
  have hfb := fragsBytes_any a0 cap0 fs w hr hl
  have hnn : 0 ≤ fragsBytes fs := by
    unfold fragsBytes
    split
    · omega
    · exact foldl_nonneg fs 0 (by omega)
  by_cases hbig : 1048576 < capAdd (fragsBytes fs) fi.size
  · go_enter Try.func6, Try.ntmps6
    go_wp2_with (first
      | (go_at_call 32; refine hzz.mono ?_; rintro e w' ⟨r, rfl, hz, hw⟩; obtain rfl := hw.symm; clear hw)
      | (go_at_call 10; refine hfb.mono ?_; rintro e w1 ⟨rfl, hb1⟩)
      | (go_at_call 9; refine (capAdd_any _ _ _ hnn (by omega)).mono ?_; rintro e w' ⟨rfl, hw⟩; obtain rfl := hw.symm; clear hw))
    all_goals (go_ret; first | exact ⟨rfl, hb1⟩ | exact ⟨rfl, Below.refl _ _⟩)
  · have hlen : fs.length ≤ 4096 := by
      unfold capAdd at hbig
      split at hbig
      · omega
      · rename_i hc
        unfold fragsBytes at hc
        split at hc <;> omega
    go_enter Try.func6, Try.ntmps6
    go_wp2_with (first
      | (go_at_call 32; refine hzz.mono ?_; rintro e w' ⟨r, rfl, hz, hw⟩; obtain rfl := hw.symm; clear hw)
      | (go_at_call 10; refine hfb.mono ?_; rintro e w1 ⟨rfl, hb1⟩)
      | (go_at_call 9; refine (capAdd_any _ _ _ hnn (by omega)).mono ?_; rintro e w' ⟨rfl, hw⟩; obtain rfl := hw.symm; clear hw)
      | (go_at_call 11; refine (clone_any a0 cap0 fs _ (hr.below hb1) (by omega)).mono ?_; rintro e w2 ⟨a, c, rfl, hfr, hb2⟩)
      | (go_at_call 12; refine (newAssembly_any _ _ _).mono ?_; rintro e w3 ⟨rfl, rfl⟩))
    · go_ret
      exact ⟨rfl, Below.refl _ _⟩
    have hz' : fs.length + total fs ≤ 1048576 := by have := hz (by simpa using ‹(!r) = false›); omega
    have hstart := Feed.start (mo := ⟨#[]⟩) (fi := fi) hb1 hb2 hfr
    obtain ⟨A, hA⟩ : ∃ A, A = w2.heap.size := ⟨_, rfl⟩
    have hR0 : RelB w.heap.size A ⟨#[]⟩ fi a fs w 0 (w2.alloc (.cells (asmCells ⟨#[]⟩ fi (.slice none 0 0) none none) 79)) := ⟨_, _, hA ▸ hstart⟩
    have HZ := hide1 hz'
    rw [← hA]
    clear hz hz' hstart hfr hb1 hb2 hA hzz hfb hbig hr hnn
    go_loopw [6] (fun i wr => ∃ k : Nat, k ≤ fs.length ∧ i = .int .i64 k ∧ RelB w.heap.size A ⟨#[]⟩ fi a fs w k wr) (fun i _ => fs.length - (intOf i).toNat)
    case atStart => exact ⟨0, Nat.zero_le _, rfl, hR0⟩
    case round =>
      clear hR0
      obtain ⟨k, hk, rfl, s, ph, hF⟩ := hrel
      by_cases hlt : k < fs.length
      · obtain ⟨b, rfl, hb, hlb, hrow⟩ := hF.frags.at hlt
        obtain ⟨f, hf⟩ : ∃ f, fs[k]? = some f := ⟨_, List.getElem?_eq_getElem hlt⟩
        obtain ⟨c0, c1, c2, c3, c4⟩ := hrow k _ hf
        simp only [Nat.zero_add] at c0 c1 c2 c3 c4
        obtain ⟨hcn, hfz, hsz⟩ := feed_size hF HZ.out hlen hf
        have HF := hide1 hf
        have hbx : wr.heap[b]? = wr.heap[b]? := rfl
        clear hf hbx
        obtain ⟨X, hX⟩ : ∃ X, wr.heap[b]? = some X := ⟨_, Array.getElem?_eq_getElem hb⟩
        go_wp2_with (first
          | (go_at_call 14; refine (toFragment_any f _).mono ?_; rintro e w1 ⟨rfl, hw1⟩; obtain ⟨hF2, hbx1⟩ := hF.two hw1 hX; clear hw1)
          | (go_at_call 13; refine (zzAdd_any hF2.holds hF2.names hF2.good.sorted (by omega) f hsz (by omega)).mono ?_; rintro e w2 ⟨N, ph2, rfl, hN, h1, h2, h3⟩; obtain ⟨hF3, hbx2, hL, hpos⟩ := hF2.add hN h1 h2 h3 hbx1 hlb; clear hN h1 h2 h3 hL hpos))
        go_roundw
        case rel => exact ⟨k + 1, by omega, by go_num, _, ph2, by rw [List.take_add_one, HF.out]; exact hF3⟩
        case measure => simp [intOf]; omega
      · obtain rfl : k = fs.length := by omega
        have hF0 := hF
        rw [List.take_length] at hF0
        have hG := hF0.good
        have hcn : s.calls.length ≤ 4096 := by have := hG.count; omega
        clear hF
        go_wp2_with (go_at_call 16; refine (zzResponse_any hF0.holds (by omega)).mono ?_; rintro e w2 ⟨g, gc, rfl, ho, hb2⟩)
        have hq39 : ∀ (w : World) (a : Option Addr) (n c : Nat), (binOp .eql 39 (.slice a n c) (.slice none 0 0)).run Try.prog w = .ok (.bool a.isNone) w := fun w a n c => Lib.run_eql_slice_nil w _ _ a n c 0 0 Try.underlying39
        have HRow := hide1 (row_of ho)
        have hglt := (ho.lt g rfl).2
        have hbel := hF0.below.trans (hb2.mono hF0.size)
        have hcnt := hG.count
        have hposn : 0 < fs.length → 0 < s.calls.length := fun h => List.length_pos_iff.2 (hG.pos (List.length_pos_iff.1 h))
        have HB := hide3 hbel hF0.size hb2.size
        clear ho hF0 hG hbel hb2
        by_cases h0 : fs.length = 0
        · have hn0 : s.calls.length = 0 := by omega
          have hfs : fs = [] := List.length_eq_zero_iff.1 h0
          have ht : turns fi s.calls.length = false := turns_no (.inr (by omega))
          have hfin := fin_no ht
          rw [hn0] at hfin
          obtain ⟨NF, hNF⟩ : ∃ NF, NF = normF fi := ⟨_, rfl⟩
          rw [← hNF] at hfin
          have hw18 : ∀ W, Calls Try.prog 18 #[.string fi, .bool false] W fun e w' => e = .returned (.string NF) ∧ w' = W := fun W => by have := want_any fi false W; rwa [want_none, ← hNF] at this
          have hw33 : ∀ W, Calls Try.prog 33 #[.string fi] W fun e w' => e = .returned (.string NF) ∧ w' = W := fun W => by have := normalize_any fi W; rwa [← hNF] at this
          subst hfs
          rw [hn0]
          clear ht hposn hNF h0
          go_quiet ((go_at_call 18; exact Calls.quiet_of_same (hw18 _)))
          go_wp2_with (go_at_call 33; refine (hw33 _).mono ?_; rintro e w' ⟨rfl, hw⟩; obtain rfl := hw.symm; clear hw)
          go_loop [9] (fun i => i = .int .i64 0) (fun i => 0)
          case atStart => rfl
          case round =>
            subst hrel
            go_wp2_with fail
            go_ret
            obtain ⟨hbel, hs1, hs2⟩ := HB.out
            exact ⟨rfl, below_box hbel (by omega) _ _⟩
        · cases ht : turns fi s.calls.length with
          | true =>
            have hfin := fin_yes ht
            have hw18 : ∀ W, Calls Try.prog 18 #[.string fi, .bool true] W fun e w' => e = .returned (.string sCalls) ∧ w' = W := fun W => by have := want_any fi true W; rwa [want_yes ht] at this
            have hw33 : ∀ W, Calls Try.prog 33 #[.string fi] W fun e w' => e = .returned (.string sStop) ∧ w' = W := fun W => by have := normalize_any fi W; rwa [(norm_stop ht).1] at this
            have hd1 : decide ((0 : Int) < (fs.length : Int)) = true := decide_eq_true (by omega)
            have hd2 : 0 < s.calls.length := hposn (by omega)
            have hd3 : 0 < fs.length := by omega
            have hd4 : ((fs.length : Int) == 0) = false := by simpa using h0
            have hd5 : ¬ fs = [] := fun e => h0 (by rw [e]; rfl)
            clear ht h0 hposn
            go_quiet ((go_at_call 18; exact Calls.quiet_of_same (hw18 _)))
            go_wp2_with (go_at_call 33; refine (hw33 _).mono ?_; rintro e w' ⟨rfl, hw⟩; obtain rfl := hw.symm; clear hw)
            go_loop [9] (fun i => ∃ k : Nat, k ≤ s.calls.length ∧ i = .int .i64 k) (fun i => s.calls.length - (intOf i).toNat)
            case atStart => exact ⟨0, Nat.zero_le _, rfl⟩
            case round =>
              obtain ⟨k, hk, rfl⟩ := hrel
              by_cases hkl : k < s.calls.length
              · obtain ⟨p, hp⟩ : ∃ p, s.calls[k]? = some p := ⟨_, List.getElem?_eq_getElem hkl⟩
                obtain ⟨t0, t1, t2⟩ := HRow.out k p hp
                have hae := argOut_ne p.args
                clear hp
                go_wp2_with fail
                go_round
                case rel => exact ⟨k + 1, by omega, by go_num⟩
                case measure => simp [intOf]; omega
              · go_wp2_with fail
                go_ret
                obtain ⟨hbel, hs1, hs2⟩ := HB.out
                exact ⟨rfl, below_box hbel (by omega) _ _⟩
          | false =>
            have hfin := fin_no ht
            obtain ⟨NF, hNF⟩ : ∃ NF, NF = normF fi := ⟨_, rfl⟩
            rw [← hNF] at hfin
            have hd2 : 0 < s.calls.length := hposn (by omega)
            have hw18 : ∀ W, Calls Try.prog 18 #[.string fi, .bool true] W fun e w' => e = .returned (.string NF) ∧ w' = W := fun W => by have := want_any fi true W; rwa [want_no ht hd2, ← hNF] at this
            have hw33 : ∀ W, Calls Try.prog 33 #[.string fi] W fun e w' => e = .returned (.string NF) ∧ w' = W := fun W => by have := normalize_any fi W; rwa [← hNF] at this
            have hd1 : decide ((0 : Int) < (fs.length : Int)) = true := decide_eq_true (by omega)
            have hd3 : 0 < fs.length := by omega
            have hd4 : ((fs.length : Int) == 0) = false := by simpa using h0
            have hd5 : ¬ fs = [] := fun e => h0 (by rw [e]; rfl)
            clear ht h0 hposn hNF
            go_quiet ((go_at_call 18; exact Calls.quiet_of_same (hw18 _)))
            go_wp2_with (go_at_call 33; refine (hw33 _).mono ?_; rintro e w' ⟨rfl, hw⟩; obtain rfl := hw.symm; clear hw)
            go_loop [9] (fun i => ∃ k : Nat, k ≤ s.calls.length ∧ i = .int .i64 k) (fun i => s.calls.length - (intOf i).toNat)
            case atStart => exact ⟨0, Nat.zero_le _, rfl⟩
            case round =>
              obtain ⟨k, hk, rfl⟩ := hrel
              by_cases hkl : k < s.calls.length
              · obtain ⟨p, hp⟩ : ∃ p, s.calls[k]? = some p := ⟨_, List.getElem?_eq_getElem hkl⟩
                obtain ⟨t0, t1, t2⟩ := HRow.out k p hp
                have hae := argOut_ne p.args
                clear hp
                go_wp2_with fail
                go_round
                case rel => exact ⟨k + 1, by omega, by go_num⟩
                case measure => simp [intOf]; omega
              · go_wp2_with fail
                go_ret
                obtain ⟨hbel, hs1, hs2⟩ := HB.out
                exact ⟨rfl, below_box hbel (by omega) _ _⟩

end Go.Proofs.Qxb6600954a
