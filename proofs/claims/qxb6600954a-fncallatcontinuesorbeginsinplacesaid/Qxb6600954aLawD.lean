/-
  Seat b6600954a: FnCallAtContinuesOrBeginsInPlace (function 4), walked.
-/
import Derived.Test.Qxb6600954aProbe
import Derived.Test.Qxb6600954aLawC
import Derived.Deep.RegionWith
namespace Go.Proofs.Qxb6600954a
open Go.RowKit

theorem fragOne_len (fs : List Frag) (pr : Frag) (h : ¬ 1048576 < fragOne (fragsBytes fs) pr) : fs.length ≤ 4096 := by
  have big : ∀ n l : Int, 1048576 < n → 1048576 < capAdd n l := fun n l hn => by
    show 1048576 < if 1048576 < n ∨ 1048576 < l then 1048577 else _
    rw [if_pos (.inl hn)]
    omega
  have h2 : ¬ 1048576 < fragsBytes fs := fun hh => h (big _ _ (big _ _ (big _ _ (big _ _ hh))))
  unfold fragsBytes at h2
  split at h2 <;> omega

def FBox (P0 : Nat) (pr : Frag) (W : World) : Prop :=
  W.cell? ⟨P0, 0, none⟩ = some (.int .i64 pr.index) ∧ W.cell? ⟨P0, 1, none⟩ = some (.bool pr.has) ∧ W.cell? ⟨P0, 2, none⟩ = some (.string pr.id) ∧ W.cell? ⟨P0, 3, none⟩ = some (.string pr.name) ∧ W.cell? ⟨P0, 4, none⟩ = some (.string pr.args)

theorem FBox.of {P0 : Nat} {pr : Frag} {W : World} (h : W.heap[P0]? = some (.cells pr.cells 36)) : FBox P0 pr W := by
  refine ⟨?_, ?_, ?_, ?_, ?_⟩ <;> simp [World.cell?, h]

theorem neq_self (LP : Option Addr) (w : World) : (binOp .neq 57 (.pointer LP) (.pointer LP)).run Try.prog w = .ok (.bool false) w := by
  cases LP with
  | none =>
    obtain ⟨i, te, h1, _⟩ := info84
    exact run_neq_pointer_nil w 57 none (by unfold Program.pointee; rw [h1])
  | some a => exact neq_same w a

/-- callAt at a probe, in plain words -/
theorem at_facts (N : Nat) {s : St} (f : Frag) (hs : Sorted s.calls) : ∃ p, p ∈ (atF N s f).1.calls ∧ p.blk = (atF N s f).2 ∧ p.index = resolve s f ∧ Sorted (atF N s f).1.calls ∧
    ((cont s f = some p ∧ (atF N s f).1 = s) ∨ (cont s f = none ∧ p = freshCall N (resolve s f) ∧ (atF N s f).1 = s.insert (place s.calls (resolve s f)) N (resolve s f))) := by
  cases hc : cont s f with
  | some c =>
    obtain ⟨h1, h2, _⟩ := cont_mem hc
    rw [atF_cont hc]
    exact ⟨c, h1, rfl, h2, hs, .inl ⟨rfl, rfl⟩⟩
  | none =>
    rw [atF_new hc]
    exact ⟨freshCall N (resolve s f), by simp [St.insert], rfl, rfl, sorted_insert hs rfl, .inr ⟨rfl, rfl, rfl⟩⟩

set_option maxRecDepth 100000 in
set_option maxHeartbeats 10000000 in
theorem lawD_walk (a0 : Option Addr) (cap0 : Nat) (fs : List Frag) (pr : Frag) (w : World) (hr : IsFrags w a0 fs) (hl : fs.length ≤ 9223372036854775807) :
    Calls Try.prog 4 #[.slice a0 fs.length cap0, .agg pr.cells] w (TrueBelow w) := by
  obtain ⟨w0, hw0⟩ : ∃ w0, w0 = w.alloc (.cells pr.cells 36) := ⟨_, rfl⟩
  obtain ⟨P0, hP0⟩ : ∃ P0, P0 = w.heap.size := ⟨_, rfl⟩
  have hb0 : Below w.heap.size w w0 := by rw [hw0]; exact (Below.refl _ _).alloc (Nat.le_refl _) _
  have hbx : w0.heap[P0]? = some (.cells pr.cells 36) := by rw [hw0, hP0]; exact heap_alloc_new w _
  have hs0 : P0 < w0.heap.size := (Array.getElem?_eq_some_iff.1 hbx).1
  have hr0 : IsFrags w0 a0 fs := hr.below hb0
  have hPB : ∀ W, Below w0.heap.size w0 W → P0 < W.heap.size ∧ FBox P0 pr W := fun W hW => ⟨Nat.lt_of_lt_of_le hs0 hW.size, FBox.of (by rw [hW.block P0 hs0]; exact hbx)⟩
  have hEnd : ∀ W, Below w0.heap.size w0 W → Below w.heap.size w W := fun W h => hb0.trans (h.mono hb0.size)
  have hzz := zzBytes19_any a0 cap0 fs pr w0 hr0 hl
  have HPB := hide1 hPB
  have HEND := hide1 hEnd
  clear hPB hEnd hbx hb0
  have hnn : 0 ≤ fragsBytes fs := by
    unfold fragsBytes
    split
    · omega
    · exact foldl_nonneg fs 0 (by omega)
  have hlen := fragOne_len fs pr
  have k20 := fun W => fragOne_any (fragsBytes fs) pr W hnn
  obtain ⟨C, hC⟩ : ∃ C, C = fragOne (fragsBytes fs) pr := ⟨_, rfl⟩
  rw [← hC] at hlen k20
  go_enter Try.func4, Try.ntmps4
  go_wp2_with fail
  rw [← hw0, ← hP0]
  refine hzz.mono ?_
  rintro e w1 ⟨r, rfl, hz, hw1⟩
  have hb1 : Below w0.heap.size w0 w1 := by rw [hw1]; exact (Below.refl _ _).alloc (Nat.le_refl _) _
  have hfb := fragsBytes_any a0 cap0 fs w1.drew ((hr0.below hb1).below ⟨rfl, rfl, rfl, Nat.le_refl _, fun _ _ => rfl⟩) hl
  obtain ⟨C0, hC0⟩ : ∃ C0, C0 = fragsBytes fs := ⟨_, rfl⟩
  rw [← hC0] at hfb k20
  obtain ⟨hP1, q0, q1, q2, q3, q4⟩ := HPB.out w1 hb1
  have hq : ∀ W, Below w1.drew.heap.size w1.drew W → Below w0.heap.size w0 W := fun W hW => hb1.trans (Below.mono (show Below w1.heap.size w1 W from ⟨hW.os, hW.tape, hW.output, hW.size, hW.block⟩) hb1.size)
  have HB1 := hide1 hb1
  have HQ := hide1 hq
  clear hw1 hb1 hC hC0 hnn hq hw0 hP0
  go_upto_region 3 with fail
  · go_ret
    exact ⟨rfl, HEND.out _ HB1.out⟩
  have hz' : fs.length + total fs ≤ 1048576 := by have := hz (by simpa using ‹(!r) = false›); omega
  have HZ := hide1 hz'
  clear hz hz'
  go_cut [25] (fun v wc => v = .bool (decide (1048576 < C)) ∧ Below w0.heap.size w0 wc)
  case first =>
    go_region_with (first
      | (go_at_call 10; refine hfb.mono ?_; rintro e w2 ⟨rfl, hb2⟩; have hb3 := HQ.out _ hb2; obtain ⟨hP2, q0', q1', q2', q3', q4'⟩ := HPB.out w2 hb3; have HB2 := hide1 hb3; clear hb2 hb3)
      | (go_at_call 20; refine (k20 _).mono ?_; rintro e w' ⟨rfl, hw'⟩; obtain rfl := hw'.symm; clear hw'))
    all_goals
      go_wp2_with fail
      go_meet
      case rel => exact ⟨rfl, HB2.out.alloc (HB2.out.size) _⟩
  case rest =>
  obtain ⟨rfl, hbc⟩ := hcut
  clear q0 q1 q2 q3 q4 hP1 hfb k20 HQ HB1
  have HBC := hide1 hbc
  clear hbc
  by_cases hbig : 1048576 < C
  · go_wp2_with fail
    go_ret
    exact ⟨rfl, HEND.out _ HBC.out⟩
  replace hlen := hlen (by omega)
  go_wp2_with fail
  refine (clone_any a0 cap0 fs _ (hr0.below HBC.out) (by omega)).mono ?_
  rintro e w2 ⟨a, c, rfl, hfr, hb2⟩
  go_wp2_with fail
  refine (newAssembly_any _ _ _).mono ?_
  rintro e w3 ⟨rfl, rfl⟩
  go_wp2_with fail
  have hstart := Pair.start (w := w0) (mo := ⟨#[]⟩) (fi := ⟨#[]⟩) HBC.out hb2 hfr
  obtain ⟨A, hA⟩ : ∃ A, A = w2.heap.size := ⟨_, rfl⟩
  rw [← hA] at hstart ⊢
  have hR0 : RelC w0.heap.size A (A + 1) ⟨#[]⟩ ⟨#[]⟩ a fs w0 0 ((w2.alloc (.cells (asmCells ⟨#[]⟩ ⟨#[]⟩ (.slice none 0 0) none none) 79)).alloc (.cells #[.slice none 0 0, .int .i64 (-1)] 31)) := ⟨_, _, _, _, hstart⟩
  obtain ⟨S, hS⟩ : ∃ S, S = A + 1 := ⟨_, rfl⟩
  rw [← hS] at hR0 ⊢
  clear hstart hfr hb2 hA hS hzz hbig hr hr0 HBC
  go_loopw [7] (fun i wr => ∃ k : Nat, k ≤ fs.length ∧ i = .int .i64 k ∧ RelC w0.heap.size A S ⟨#[]⟩ ⟨#[]⟩ a fs w0 k wr) (fun i _ => fs.length - (intOf i).toNat)
  case atStart => exact ⟨0, Nat.zero_le _, rfl, hR0⟩
  case round =>
    clear hR0
    obtain ⟨k, hk, rfl, s, ph, ms, pm, hP⟩ := hrel
    by_cases hlt : k < fs.length
    · obtain ⟨b, rfl, hb, hlb, hrow⟩ := hP.feed.frags.at hlt
      obtain ⟨f, hf⟩ : ∃ f, fs[k]? = some f := ⟨_, List.getElem?_eq_getElem hlt⟩
      obtain ⟨c0, c1, c2, c3, c4⟩ := hrow k _ hf
      simp only [Nat.zero_add] at c0 c1 c2 c3 c4
      obtain ⟨hcn, hfz, hsz⟩ := feed_size hP.feed HZ.out hlen hf
      have HF := hide1 hf
      clear hf
      have HP := hide1 hP
      clear hP hrow
      go_wp2_with fail
      refine (toFragment_any f _).mono ?_
      rintro e w1 ⟨rfl, hw1⟩
      have hP2 := HP.out.two hw1
      clear hw1
      go_wp2_with fail
      refine (zzAdd_any hP2.feed.holds hP2.feed.names hP2.feed.good.sorted (by omega) f hsz (by omega)).mono ?_
      rintro e w2 ⟨N, ph2, rfl, hN, h1, h2, h3⟩
      have hH := hP2.half hN h1 h2 h3
      clear hN h1 h2 h3 c0 c1 c2 c3 c4 hb
      obtain ⟨b', e', hb, hlb', hrow⟩ := hH.feed.frags.at hlt
      cases e'
      obtain ⟨c0, c1, c2, c3, c4⟩ := hrow k _ HF.out
      simp only [Nat.zero_add] at c0 c1 c2 c3 c4
      have hm1 : ms.calls.length ≤ 100000 := by have := hH.len; rw [List.length_take] at this; omega
      have hm2 : ∀ c ∈ ms.calls, c.args.size + f.args.size ≤ 1000000000 := fun c hc => by
        have t0 := HZ.out
        have t1 := hH.sizes c hc
        have t2 := fsum_take_le fs k
        have t3 := fsum_le_total fs
        omega
      have HH := hide1 hH
      have HM2 := hide1 hm2
      clear hP2 hH hlb' hrow hm2
      go_wp2_with fail
      refine (mAdd_any HH.out.model f hm1 HM2.out (by omega)).mono ?_
      rintro e w3 ⟨k', ms1, c', pm', rfl, hp, hc, hM, hG⟩
      have hP3 := HH.out.full hp hc hM hG
      have HP3 := hide1 hP3
      clear hp hc hM hG hP3
      go_wp2_with fail
      go_roundw
      case rel => exact ⟨k + 1, by omega, by go_num, _, ph2, _, pm', by rw [List.take_add_one, HF.out]; exact HP3.out⟩
      case measure => simp [intOf]; omega
    · obtain rfl : k = fs.length := by omega
      rw [List.take_length] at hP
      have hlen2 := hP.mat.length
      have hG := hP.feed.good
      have hcn : s.calls.length ≤ 4096 := by have := hG.count; omega
      have hS := (hP.model.labs _ _ hP.model.labS).2
      obtain ⟨hP0, q0, q1, q2, q3, q4⟩ := HPB.out wr hP.feed.below
      obtain ⟨am, cm, hcv⟩ := hP.model.cvIs
      have d0 : wr.cell? ⟨S, 0, none⟩ = some (.slice am s.calls.length cm) := by rw [hP.model.box0, hcv, hlen2]
      have HP := hide1 hP
      have HL := hide1 hlen2
      have HCV := hide1 hcv
      clear hP hG hlen2 hcv
      go_wp2_with fail
      refine (numCalls_any HP.out.feed.holds).mono ?_
      rintro e w' ⟨rfl, hw⟩
      obtain rfl := hw.symm
      clear hw
      go_wp2_with fail
      refine (latest_any HP.out.feed.holds).mono ?_
      rintro e w' ⟨rfl, hw⟩
      obtain rfl := hw.symm
      clear hw
      obtain ⟨LP, hLP⟩ : ∃ LP, LP = latPtr s.latest := ⟨_, rfl⟩
      rw [← hLP]
      have HLP := hide1 hLP
      clear hLP
      go_wp2_with fail
      refine (mResolve2 HP.out.model pr (by rw [← HL.out]; omega)).mono ?_
      rintro e w4 ⟨rfl, hM1, hG1, hk1⟩
      have hb4 : Below wr.heap.size wr w4 := ⟨hG1.os, hG1.tape, hG1.output, hG1.size, hk1⟩
      have hP4 := HP.out.quiet hb4
      clear hM1 hG1 hk1 hb4 q0 q1 q2 q3 q4 hP0 d0 hS HP
      have hS := (hP4.model.labs _ _ hP4.model.labS).2
      obtain ⟨hP0, q0, q1, q2, q3, q4⟩ := HPB.out w4 hP4.feed.below
      have d0 : w4.cell? ⟨S, 0, none⟩ = some (.slice am s.calls.length cm) := by rw [hP4.model.box0, HCV.out, HL.out]
      rw [hP4.mat.res]
      obtain ⟨idx, hidx⟩ : ∃ idx, idx = resolve s pr := ⟨_, rfl⟩
      rw [← hidx]
      have HIDX := hide1 hidx
      have HP := hide1 hP4
      clear hidx hP4
      go_wp2_with fail
      go_loop [11, 12] (fun t i => ∃ k : Nat, k ≤ s.calls.length ∧ i = .int .i64 k ∧ t = .int .i64 (cntLe ms.calls idx k)) (fun _ i => s.calls.length - (intOf i).toNat)
      case atStart => exact ⟨0, Nat.zero_le _, rfl, rfl⟩
      case round =>
        obtain ⟨k, hk, rfl, rfl⟩ := hrel
        by_cases hlt : k < s.calls.length
        · obtain ⟨c, hc⟩ : ∃ c, ms.calls[k]? = some c := ⟨_, List.getElem?_eq_getElem (by rw [← HL.out]; exact hlt)⟩
          obtain ⟨g, cap', hcv, hgl, hcells⟩ := HP.out.model.rowAt hc
          have hg := (HP.out.model.labs _ _ hgl).2
          rw [HCV.out] at hcv
          cases hcv
          have c1 : w4.cell? ⟨g, k * 4 + 0, none⟩ = some (.int .i64 c.index) := hcells 0 (by omega)
          rw [Nat.add_zero] at c1
          have hst := cntLe_succ hc idx
          have hcb := cntLe_le ms.calls idx k
          have hb1 : ((cntLe ms.calls idx k : Nat) : Int) ≤ 4096 := by omega
          have HST := hide1 hst
          clear hst hcells hc hcb hgl
          go_wp2_with fail
          · have e : c.index ≤ idx := by simpa using ‹_›
            go_round
            case rel => exact ⟨k + 1, by omega, by go_num, by rw [HST.out, if_pos e]; go_num⟩
            case measure => simp [intOf]; omega
          · have e : ¬ c.index ≤ idx := by simpa using ‹_›
            go_round
            case rel => exact ⟨k + 1, by omega, by go_num, by rw [HST.out, if_neg e]; go_num⟩
            case measure => simp [intOf]; omega
        · obtain rfl : k = s.calls.length := by omega
          have hpos : cntLe ms.calls idx s.calls.length = place s.calls idx := by rw [HL.out]; exact HP.out.mat.count HP.out.feed.good.sorted idx
          rw [hpos]
          have hple := place_le s.calls idx
          obtain ⟨pos, hp⟩ : ∃ pos, pos = place s.calls idx := ⟨_, rfl⟩
          rw [← hp] at hple ⊢
          have HPOS := hide1 hp
          clear hpos hp
          go_wp2_with fail
          refine (mLast_any HP.out.model idx (by rw [← HL.out]; omega)).mono ?_
          rintro e w' ⟨rfl, hw⟩
          obtain rfl := hw.symm
          clear hw
          obtain ⟨la, hla⟩ : ∃ la, la = mLastTo ms.calls idx ms.calls.length := ⟨_, rfl⟩
          rw [← hla]
          have HLA := hide1 hla
          clear hla
          go_wp2_with fail
          refine (toFragment_any pr _).mono ?_
          rintro e w5 ⟨rfl, hw5⟩
          have hP5 := HP.out.two hw5
          clear hw5
          go_wp2_with fail
          refine (zzAt_any hP5.feed.holds hP5.feed.good.sorted (by omega) pr).mono ?_
          rintro e w6 ⟨N, ph6, rfl, hN, hH6, hG6, hnm, hex⟩
          have hM6 : MHolds w0.heap.size S ms pm w6 := hP5.model.frame hG6.size (fun k l hk => hG6.block k (hP5.model.labs k l hk).2 ((hP5.apart k).resolve_right (by rw [hk]; simp)))
          have hb6 : Below w0.heap.size w0 w6 := hP5.feed.below.trans (hG6.below hP5.feed.size fun k l hk => (hP5.feed.holds.labs k l hk).1)
          obtain ⟨p, hp, hpb, hpi, hsort, hcase⟩ := at_facts N pr hP5.feed.good.sorted
          have hprobe := hP5.mat.probe hP5.feed.good.sorted pr (la := la) (by rw [← HIDX.out]; exact HLA.out)
          have hlat : s.calls ≠ [] → ∃ b i, s.latest = some (b, i) := fun hne => by obtain ⟨b, q, h1, _⟩ := hP5.feed.good.lat hne; exact ⟨b, _, h1⟩
          rw [← hpb]
          obtain ⟨s', hs'⟩ : ∃ s', s' = (atF N s pr).1 := ⟨_, rfl⟩
          rw [← hs'] at hH6 hp hsort hcase
          rw [← HIDX.out] at hpi hcase
          have HPR := hide1 (And.intro hprobe hcase)
          have HSS := hide1 (And.intro hH6 (And.intro hM6 (And.intro hb6 (And.intro hp (And.intro hsort hlat)))))
          clear hP5 hN hG6 hnm hex hpb hs' hprobe hcase hlat hH6 hM6 hb6 hp hsort q0 q1 q2 q3 q4 hP0 d0 hS
          have hS := (HSS.out.2.1.labs _ _ HSS.out.2.1.labS).2
          obtain ⟨hP0, q0, q1, q2, q3, q4⟩ := HPB.out w6 HSS.out.2.2.1
          have d0 : w6.cell? ⟨S, 0, none⟩ = some (.slice am s.calls.length cm) := by rw [HSS.out.2.1.box0, HCV.out, HL.out]
          go_wp2_with fail
          refine (callIndex_any HSS.out.1 p HSS.out.2.2.2.1).mono ?_
          rintro e w' ⟨rfl, hw⟩
          obtain rfl := hw.symm
          clear hw
          rw [hpi]
          go_upto_region 30 with fail
          go_cut [108] (fun v wc => v = .bool (cont s pr).isSome ∧ wc = w6)
          case first =>
            rcases HPR.out.1 with ⟨j, i, q, rfl, hj, hi, hpl, hqi, hcond, hct⟩ | ⟨hct, hla | ⟨j, c, rfl, hj, he1, he2⟩⟩
            · have HCT := hide1 hct
              obtain ⟨g, cap', hcv, hgl, hcells⟩ := HSS.out.2.1.rowAt hj
              have hg := (HSS.out.2.1.labs _ _ hgl).2
              rw [HCV.out] at hcv
              cases hcv
              have c1 : w6.cell? ⟨g, j * 4 + 1, none⟩ = some (.string q.id) := hcells 1 (by omega)
              have hj0 : decide (0 ≤ (j : Int)) = true := by simp
              have hjl : j < s.calls.length := by rw [HL.out]; exact (List.getElem?_eq_some_iff.1 hj).1
              clear hcells hgl hj hi hpl hqi hct
              by_cases e1 : emp pr.id = true
              · have e1' : pr.id.toList.isEmpty = true := e1
                clear hcond e1
                go_wp2_with fail
                go_meet
                case rel => exact ⟨by rw [HCT.out]; rfl, rfl⟩
              · have e1' := emp_false e1
                have e2' : q.id.toList.isEmpty = true := hcond.resolve_left e1
                clear hcond e1
                go_wp2_with fail
                go_meet
                case rel => exact ⟨by rw [HCT.out]; rfl, rfl⟩
            · have HCT := hide1 hct
              have hl0 : decide (0 ≤ la) = false := by simp; omega
              clear hct
              go_wp2_with fail
              go_meet
              case rel => exact ⟨by rw [HCT.out]; rfl, rfl⟩
            · have HCT := hide1 hct
              obtain ⟨g, cap', hcv, hgl, hcells⟩ := HSS.out.2.1.rowAt hj
              have hg := (HSS.out.2.1.labs _ _ hgl).2
              rw [HCV.out] at hcv
              cases hcv
              have c1 : w6.cell? ⟨g, j * 4 + 1, none⟩ = some (.string c.id) := hcells 1 (by omega)
              have hj0 : decide (0 ≤ (j : Int)) = true := by simp
              have hjl : j < s.calls.length := by rw [HL.out]; exact (List.getElem?_eq_some_iff.1 hj).1
              have e1' : pr.id.toList.isEmpty = false := he1
              have e2' : c.id.toList.isEmpty = false := he2
              clear hcells hgl hj hct he1 he2
              go_wp2_with fail
              go_meet
              case rel => exact ⟨by rw [HCT.out]; rfl, rfl⟩
          case rest =>
          obtain ⟨rfl, hw6⟩ := hcut
          obtain rfl := hw6.symm
          clear hw6
          go_upto_if 108 with fail
          go_cut [] (fun wc => ∃ n, wc = w6.drewN n)
          case first =>
            have hneq := neq_same
            rcases HPR.out.1 with ⟨j, i, q, rfl, hj, hi, hpl, hqi, hcond, hct⟩ | ⟨hct, _⟩
            · rcases HPR.out.2 with ⟨hct2, rfl⟩ | ⟨hct2, _⟩
              · rw [hct] at hct2
                obtain rfl : q = p := Option.some.inj hct2
                rw [hct]
                have hposi : pos = i + 1 := by rw [HPOS.out, HIDX.out]; exact hpl
                have hpi1 : ((pos : Int) - 1) = (i : Int) := by omega
                have hp1 : decide ((pos : Int) < 1) = false := by simp; omega
                have hp2 : decide ((s'.calls.length : Int) < (pos : Int)) = false := by simp; omega
                have hneq2 : ∀ w, (binOp .neq 57 (.pointer LP) (.pointer LP)).run Try.prog w = .ok (.bool false) w := neq_self LP
                obtain ⟨g, cap', hcv, hgl, hcells⟩ := HSS.out.2.1.rowAt hj
                have hg := (HSS.out.2.1.labs _ _ hgl).2
                rw [HCV.out] at hcv
                cases hcv
                have c1 : w6.cell? ⟨g, j * 4 + 1, none⟩ = some (.string q.id) := hcells 1 (by omega)
                have c2 : w6.cell? ⟨g, j * 4 + 2, none⟩ = some (.string q.name) := hcells 2 (by omega)
                have c3 : w6.cell? ⟨g, j * 4 + 3, none⟩ = some (pm.av j) := hcells 3 (by omega)
                have hav := HSS.out.2.1.args j _ hj
                obtain ⟨sa, sm, sc, hsl⟩ := ownsRow_slice hav
                rw [hsl] at c3 hav
                have hconv : ∀ n, (convert 48 9 (.slice sa sm sc)).run Try.prog (w6.drewN n) = .ok (.string q.args) (w6.drewN n) := fun n =>
                  run_bytes_str (w := w6.drewN n) (ownsRow_same hav fun j hj => by simp)
                have hj0 : decide (0 ≤ (j : Int)) = true := by simp
                have hjl : j < s'.calls.length := by rw [HL.out]; exact (List.getElem?_eq_some_iff.1 hj).1
                have k21 := numCalls_any HSS.out.1
                have k22 := latest_any HSS.out.1
                rw [← HLP.out] at k22
                have k27 := call_any HSS.out.1 i q hi
                rw [← hpi1] at k27
                have k28 : ∀ n, Calls Try.prog 28 #[q.ptr] (w6.drewN n) _ := fun n => callId_any (HSS.out.1.drewN n) q HSS.out.2.2.2.1
                have k29 : ∀ n, Calls Try.prog 29 #[q.ptr] (w6.drewN n) _ := fun n => callName_any (HSS.out.1.drewN n) q HSS.out.2.2.2.1
                have k30 : ∀ n, Calls Try.prog 30 #[q.ptr] (w6.drewN n) _ := fun n => callArgs_any (HSS.out.1.drewN n) q HSS.out.2.2.2.1
                clear hcells hgl hj hi hpl hqi hct hct2 hcond hav hsl hposi hpi1
                go_wp2_with fail
                refine k21.mono ?_
                rintro e w' ⟨rfl, hw⟩
                obtain rfl := hw.symm
                clear hw
                go_wp2_with fail
                refine k27.mono ?_
                rintro e w' ⟨rfl, hw⟩
                obtain rfl := hw.symm
                clear hw
                go_wp2_with fail
                refine k22.mono ?_
                rintro e w' ⟨rfl, hw⟩
                obtain rfl := hw.symm
                clear hw
                go_wp2_with fail
                go_quiet ((first | (go_at_call 28; exact Calls.quiet_of_same (k28 _)) | (go_at_call 29; exact Calls.quiet_of_same (k29 _)) | (go_at_call 30; exact Calls.quiet_of_same (k30 _))))
                go_wp2_with fail
                go_meet
                case rel => exact ⟨_, rfl⟩
              · rw [hct] at hct2; cases hct2
            · rcases HPR.out.2 with ⟨hct2, _⟩ | ⟨_, hpf, rfl⟩
              · rw [hct] at hct2; cases hct2
              · rw [hct]
                have hlen' : ((s.insert (place s.calls idx) N idx).calls.length : Int) = (s.calls.length : Int) + 1 := by
                  have := place_le s.calls idx
                  simp [St.insert]
                  omega
                have hat : (s.insert (place s.calls idx) N idx).calls[place s.calls idx]? = some (freshCall N idx) := by
                  have := place_le s.calls idx
                  simp only [St.insert]
                  rw [List.getElem?_append_right (by rw [List.length_take]; omega), List.length_take, Nat.min_eq_left this, Nat.sub_self]
                  rfl
                have hHI := HSS.out.1
                have k21 := numCalls_any hHI
                rw [hlen'] at k21
                have hpN : p.blk = N := by rw [hpf]; rfl
                have hpid : p.id = ⟨#[]⟩ := by rw [hpf]; rfl
                have hpnm : p.name = ⟨#[]⟩ := by rw [hpf]; rfl
                have hpar : p.args = ⟨#[]⟩ := by rw [hpf]; rfl
                rw [← hpf] at hat
                have k22 : Calls Try.prog 22 #[.pointer (some ⟨A, 0, none⟩)] w6 fun e w' => e = .returned (.pointer (some ⟨p.blk, 0, none⟩)) ∧ w' = w6 := by
                  rw [hpN]; exact latest_any hHI
                have k27 := call_any hHI _ _ hat
                rw [← HPOS.out] at k27
                have k28 := callId_any hHI p HSS.out.2.2.2.1
                have k29 := callName_any hHI p HSS.out.2.2.2.1
                have k30 := callArgs_any hHI p HSS.out.2.2.2.1
                rw [hpid] at k28
                rw [hpnm] at k29
                rw [hpar] at k30
                have hp2 : decide ((s.calls.length : Int) < (pos : Int)) = false := by simp; omega
                clear hpN hpid hpnm hpar hpf
                clear hHI hat hlen' hct
                go_wp2_with fail
                refine k21.mono ?_
                rintro e w' ⟨rfl, hw⟩
                obtain rfl := hw.symm
                clear hw
                go_wp2_with fail
                refine k27.mono ?_
                rintro e w' ⟨rfl, hw⟩
                obtain rfl := hw.symm
                clear hw
                go_wp2_with fail
                refine k22.mono ?_
                rintro e w' ⟨rfl, hw⟩
                obtain rfl := hw.symm
                clear hw
                go_wp2_with fail
                refine k28.mono ?_
                rintro e w' ⟨rfl, hw⟩
                obtain rfl := hw.symm
                clear hw
                go_wp2_with fail
                refine k29.mono ?_
                rintro e w' ⟨rfl, hw⟩
                obtain rfl := hw.symm
                clear hw
                go_wp2_with fail
                refine k30.mono ?_
                rintro e w' ⟨rfl, hw⟩
                obtain rfl := hw.symm
                clear hw
                go_wp2_with fail
                go_meet
                case rel => exact ⟨0, rfl⟩
          case rest =>
          obtain ⟨nd, hnd⟩ := hcut
          have hH7 : Holds w0.heap.size A ⟨#[]⟩ ⟨#[]⟩ s' ph6 wc := by rw [hnd]; exact HSS.out.1.drewN nd
          have hb7 : Below w0.heap.size w0 wc := by rw [hnd]; exact HSS.out.2.2.1.trans ⟨rfl, rfl, rfl, by simp, fun _ _ => by simp⟩
          have hcn' : s'.calls.length ≤ 4097 := by
            rcases HPR.out.2 with ⟨_, e⟩ | ⟨_, _, e⟩
            · rw [e]; omega
            · rw [e]
              have := place_le s.calls idx
              simp [St.insert]
              omega
          have HH7 := hide1 (And.intro hH7 (And.intro hb7 HSS.out.2.2.2.2.1))
          clear hnd hH7 hb7 HPR HSS q0 q1 q2 q3 q4 d0
          go_wp2_with fail
          refine (numCalls_any HH7.out.1).mono ?_
          rintro e w' ⟨rfl, hw⟩
          obtain rfl := hw.symm
          clear hw
          go_wp2_with fail
          go_loopw [16] (fun j w' => ∃ m : Nat, 1 ≤ m ∧ j = .int .i64 m ∧ w' = wc) (fun j _ => s'.calls.length - (intOf j).toNat)
          case atStart => exact ⟨1, Nat.le_refl _, rfl, rfl⟩
          case round =>
            obtain ⟨m, hm1, rfl, rfl⟩ := hrel
            by_cases hml : m < s'.calls.length
            · obtain ⟨q, rfl⟩ : ∃ q, m = q + 1 := ⟨m - 1, by omega⟩
              obtain ⟨p1, hp1⟩ : ∃ p, s'.calls[q]? = some p := ⟨_, List.getElem?_eq_getElem (by omega)⟩
              obtain ⟨p2, hp2⟩ : ∃ p, s'.calls[q + 1]? = some p := ⟨_, List.getElem?_eq_getElem (by omega)⟩
              have hle := HH7.out.2.2 q (q + 1) p1 p2 hp1 hp2 (by omega)
              have k1 := call_any HH7.out.1 q p1 hp1
              have k2 := call_any HH7.out.1 (q + 1) p2 hp2
              rw [show (((q + 1 : Nat) : Int)) = (q : Int) + 1 from rfl] at k2
              have k3 := callIndex_any HH7.out.1 p1 (List.mem_of_getElem? hp1)
              have k4 := callIndex_any HH7.out.1 p2 (List.mem_of_getElem? hp2)
              clear hp1 hp2
              go_wp2_with fail
              refine k1.mono ?_
              rintro e w' ⟨rfl, hw⟩
              obtain rfl := hw.symm
              clear hw
              go_wp2_with fail
              refine k3.mono ?_
              rintro e w' ⟨rfl, hw⟩
              obtain rfl := hw.symm
              clear hw
              go_wp2_with fail
              refine k2.mono ?_
              rintro e w' ⟨rfl, hw⟩
              obtain rfl := hw.symm
              clear hw
              go_wp2_with fail
              refine k4.mono ?_
              rintro e w' ⟨rfl, hw⟩
              obtain rfl := hw.symm
              clear hw
              go_wp2_with fail
              go_roundw
              case rel => exact ⟨q + 2, by omega, by go_num, trivial⟩
              case measure => simp [intOf]; omega
            · go_wp2_with fail
              go_ret
              exact ⟨rfl, HEND.out _ HH7.out.2.1⟩

end Go.Proofs.Qxb6600954a
