/-
  Seat b6600954a: FnAssemblyMatchesFragmentRule (function 3), walked.
-/
import Derived.Test.Qxb6600954aPair
import Derived.Test.Qxb6600954aMAdd
import Derived.Test.Qxb6600954aMOrder
import Derived.Test.Qxb6600954aLawB
namespace Go.Proofs.Qxb6600954a
open Go.RowKit

theorem fin_want (fi : ByteArray) (n : Nat) : finF fi n = wantF fi (decide (0 < n)) := by
  by_cases h : 0 < n
  · rw [decide_eq_true h]
    cases ht : turns fi n with
    | true => rw [fin_yes ht, want_yes ht]
    | false => rw [fin_no ht, want_no ht h]
  · rw [decide_eq_false h, want_none, fin_no (turns_no (.inr h))]

def RelC (B A S : Nat) (mo fi : ByteArray) (a : Option Addr) (fs : List Frag) (w : World) (k : Nat) (wr : World) : Prop :=
  ∃ s ph ms pm, Pair B A S mo fi a fs (fs.take k) w s ph ms pm wr

theorem Pair.two {B A S : Nat} {mo fi : ByteArray} {a : Option Addr} {fs done : List Frag} {w : World} {s : St} {ph : Phys} {ms : MSt} {pm : Phys} {wr w1 : World} (h : Pair B A S mo fi a fs done w s ph ms pm wr) {o1 o2 : Obj} (hw : w1 = (wr.alloc o1).alloc o2) : Pair B A S mo fi a fs done w s ph ms pm w1 := by
  subst hw
  exact h.quiet (((Below.refl _ _).alloc (Nat.le_refl _) _).alloc (by simp) _)

/-- the end of the law: the Response, its calls, the model and its order -/
structure T3 (B S R O : Nat) (mo fi : ByteArray) (s : St) (ms : MSt) (pm : Phys) (B' g gc : Nat) (W : World) : Prop where
  model : MHolds B S ms pm W
  box : W.heap[R]? = some (.cells (respCells mo fi g s.calls.length gc) 44)
  row : W.ownsRow B' 52 3 (.slice (some ⟨g, 0, none⟩) s.calls.length gc) s.calls.length (tcRows s.calls)
  ord : W.heap[O]? = some (.cells (ints ms.ord) 3)
  mat : Match s ms

theorem T3.below {B S R O : Nat} {mo fi : ByteArray} {s : St} {ms : MSt} {pm : Phys} {B' g gc : Nat} {W W' : World} (h : T3 B S R O mo fi s ms pm B' g gc W) (hb : Below W.heap.size W W') : T3 B S R O mo fi s ms pm B' g gc W' where
  model := h.model.frame hb.size (fun k l hk => hb.block k (h.model.labs k l hk).2)
  box := by rw [hb.block R (Array.getElem?_eq_some_iff.1 h.box).1]; exact h.box
  row := ownsRow_same h.row fun k hk => hb.block k (h.row.lt k hk).2
  ord := by rw [hb.block O (Array.getElem?_eq_some_iff.1 h.ord).1]; exact h.ord
  mat := h.mat

theorem T3.len {B S R O : Nat} {mo fi : ByteArray} {s : St} {ms : MSt} {pm : Phys} {B' g gc : Nat} {W : World} (h : T3 B S R O mo fi s ms pm B' g gc W) :
    ∃ a cm, W.cell? ⟨S, 0, none⟩ = some (.slice a s.calls.length cm) := by
  obtain ⟨a, cm, hcv⟩ := h.model.cvIs
  exact ⟨a, cm, by rw [h.model.box0, hcv, h.mat.length]⟩

theorem T3.at {B S R O : Nat} {mo fi : ByteArray} {s : St} {ms : MSt} {pm : Phys} {B' g gc : Nat} {W : World} (h : T3 B S R O mo fi s ms pm B' g gc W) {k : Nat} (hk : k < s.calls.length) :
    ∃ (m : Nat) (p : Call) (gm cm : Nat), m < s.calls.length ∧ W.cell? ⟨S, 0, none⟩ = some (.slice (some ⟨gm, 0, none⟩) s.calls.length cm) ∧ gm < W.heap.size ∧ W.cell? ⟨O, k, none⟩ = some (.int .i64 (m : Int)) ∧
      W.cell? ⟨gm, m * 4, none⟩ = some (.int .i64 p.index) ∧ W.cell? ⟨gm, m * 4 + 1, none⟩ = some (.string p.id) ∧ W.cell? ⟨gm, m * 4 + 2, none⟩ = some (.string p.name) ∧ W.cell? ⟨gm, m * 4 + 3, none⟩ = some (pm.av m) ∧
      W.ownsRow B 5 1 (pm.av m) p.args.size (byteCells p.args) ∧
      W.cell? ⟨g, k * 3, none⟩ = some (.string p.id) ∧ W.cell? ⟨g, k * 3 + 1, none⟩ = some (.string p.name) ∧ W.cell? ⟨g, k * 3 + 2, none⟩ = some (.string (argOut p.args)) := by
  obtain ⟨p, hp⟩ : ∃ p, s.calls[k]? = some p := ⟨_, List.getElem?_eq_getElem hk⟩
  obtain ⟨m, hm, hc⟩ := h.mat.at hp
  obtain ⟨gm, cm, hcv, hgl, hcells⟩ := h.model.rowAt hc
  have hml : m < s.calls.length := by rw [h.mat.length]; exact (List.getElem?_eq_some_iff.1 hc).1
  obtain ⟨t0, t1, t2⟩ := row_of h.row k p hp
  exact ⟨m, p, gm, cm, hml, by rw [h.model.box0, hcv, h.mat.length], (h.model.labs _ _ hgl).2, by simp [World.cell?, h.ord, ints_get hm], hcells 0 (by omega), hcells 1 (by omega), hcells 2 (by omega), hcells 3 (by omega), h.model.args m _ hc, t0, t1, t2⟩

theorem cap_len (fs : List Frag) (a b : Int) (hbig : ¬ 1048576 < capAdd (capAdd (fragsBytes fs) a) b) : fs.length ≤ 4096 := by
  have h1 : ¬ 1048576 < capAdd (fragsBytes fs) a := fun h => hbig (by
    show 1048576 < if 1048576 < capAdd (fragsBytes fs) a ∨ 1048576 < b then 1048577 else _
    rw [if_pos (.inl h)]
    omega)
  have h2 : ¬ 1048576 < fragsBytes fs := fun h => h1 (by
    show 1048576 < if 1048576 < fragsBytes fs ∨ 1048576 < a then 1048577 else _
    rw [if_pos (.inl h)]
    omega)
  unfold fragsBytes at h2
  split at h2 <;> omega

set_option maxRecDepth 100000 in
set_option maxHeartbeats 10000000 in
theorem lawC_walk (mo fi : ByteArray) (a0 : Option Addr) (cap0 : Nat) (fs : List Frag) (w : World) (hr : IsFrags w a0 fs) (hl : fs.length ≤ 9223372036854775807) :
    Calls Try.prog 3 #[.string mo, .string fi, .slice a0 fs.length cap0] w (TrueBelow w) := by
  have hzz := zzBytes8_any mo fi a0 cap0 fs w hr hl
  have hfb := fragsBytes_any a0 cap0 fs w hr hl
  have hnn : 0 ≤ fragsBytes fs := by
    unfold fragsBytes
    split
    · omega
    · exact foldl_nonneg fs 0 (by omega)
  have hn2 : 0 ≤ capAdd (fragsBytes fs) mo.size := capAdd_nonneg _ _ hnn (by omega)
  have hlen := cap_len fs mo.size fi.size
  have k1 := fun W => capAdd_any (fragsBytes fs) mo.size W hnn (by omega)
  have k2 := fun W => capAdd_any (capAdd (fragsBytes fs) mo.size) fi.size W hn2 (by omega)
  obtain ⟨C2, hC2⟩ : ∃ C2, C2 = capAdd (capAdd (fragsBytes fs) mo.size) fi.size := ⟨_, rfl⟩
  rw [← hC2] at k2 hlen
  clear hC2
  obtain ⟨C1, hC1⟩ : ∃ C1, C1 = capAdd (fragsBytes fs) mo.size := ⟨_, rfl⟩
  rw [← hC1] at k1 k2
  clear hC1 hn2
  obtain ⟨C0, hC0⟩ : ∃ C0, C0 = fragsBytes fs := ⟨_, rfl⟩
  rw [← hC0] at k1 hfb
  clear hC0 hnn
  go_enter Try.func3, Try.ntmps3
  go_wp2_with fail
  refine hzz.mono ?_
  rintro e w' ⟨r, rfl, hz, hw⟩
  obtain rfl := hw.symm
  clear hw
  go_wp2_with fail
  · go_ret
    exact ⟨rfl, Below.refl _ _⟩
  refine hfb.mono ?_
  rintro e w1 ⟨rfl, hb1⟩
  go_wp2_with fail
  refine (k1 _).mono ?_
  rintro e w' ⟨rfl, hw⟩
  obtain rfl := hw.symm
  clear hw
  go_wp2_with fail
  refine (k2 _).mono ?_
  rintro e w' ⟨rfl, hw⟩
  obtain rfl := hw.symm
  clear hw
  by_cases hbig : 1048576 < C2
  · go_wp2_with fail
    go_ret
    exact ⟨rfl, hb1⟩
  replace hlen := hlen (by omega)
  go_wp2_with fail
  refine (clone_any a0 cap0 fs _ (hr.below hb1) (by omega)).mono ?_
  rintro e w2 ⟨a, c, rfl, hfr, hb2⟩
  go_wp2_with fail
  refine (newAssembly_any _ _ _).mono ?_
  rintro e w3 ⟨rfl, rfl⟩
  go_wp2_with fail
  have hz' : fs.length + total fs ≤ 1048576 := by have := hz (by simpa using ‹(!r) = false›); omega
  have hstart := Pair.start (mo := mo) (fi := fi) hb1 hb2 hfr
  obtain ⟨A, hA⟩ : ∃ A, A = w2.heap.size := ⟨_, rfl⟩
  rw [← hA] at hstart ⊢
  have hR0 : RelC w.heap.size A (A + 1) mo fi a fs w 0 ((w2.alloc (.cells (asmCells mo fi (.slice none 0 0) none none) 79)).alloc (.cells #[.slice none 0 0, .int .i64 (-1)] 31)) := ⟨_, _, _, _, hstart⟩
  obtain ⟨S, hS⟩ : ∃ S, S = A + 1 := ⟨_, rfl⟩
  rw [← hS] at hR0 ⊢
  have HZ := hide1 hz'
  clear hz hz' hstart hfr hb1 hb2 hA hS hzz hfb hbig hr k1 k2
  go_loopw [9] (fun i wr => ∃ k : Nat, k ≤ fs.length ∧ i = .int .i64 k ∧ RelC w.heap.size A S mo fi a fs w k wr) (fun i _ => fs.length - (intOf i).toNat)
  case atStart => exact ⟨0, Nat.zero_le _, rfl, hR0⟩
  case round =>
    clear hR0
    obtain ⟨k, hk, rfl, s, ph, ms, pm, hP⟩ := hrel
    by_cases hlt : k < fs.length
    · obtain ⟨b, rfl, hb, hlb, hrow⟩ := hP.feed.frags.at hlt
      obtain ⟨f, hf⟩ : ∃ f, fs[k]? = some f := ⟨_, List.getElem?_eq_getElem hlt⟩
      obtain ⟨c0, c1, c2, c3, c4⟩ := hrow k _ hf
      simp only [Nat.zero_add] at c0 c1 c2 c3 c4
      obtain ⟨hcn, hfz, hsz⟩ := feed_size hP.feed HZ.out hlen hf
      have HF := hide1 hf
      clear hf
      have HP := hide1 hP
      clear hP hrow
      go_wp2_with fail
      refine (toFragment_any f _).mono ?_
      rintro e w1 ⟨rfl, hw1⟩
      have hP2 := HP.out.two hw1
      clear hw1
      go_wp2_with fail
      refine (zzAdd_any hP2.feed.holds hP2.feed.names hP2.feed.good.sorted (by omega) f hsz (by omega)).mono ?_
      rintro e w2 ⟨N, ph2, rfl, hN, h1, h2, h3⟩
      have hH := hP2.half hN h1 h2 h3
      clear hN h1 h2 h3 c0 c1 c2 c3 c4 hb
      obtain ⟨b', e', hb, hlb', hrow⟩ := hH.feed.frags.at hlt
      cases e'
      obtain ⟨c0, c1, c2, c3, c4⟩ := hrow k _ HF.out
      simp only [Nat.zero_add] at c0 c1 c2 c3 c4
      have hm1 : ms.calls.length ≤ 100000 := by have := hH.len; rw [List.length_take] at this; omega
      have hm2 : ∀ c ∈ ms.calls, c.args.size + f.args.size ≤ 1000000000 := fun c hc => by
        have t0 := HZ.out
        have t1 := hH.sizes c hc
        have t2 := fsum_take_le fs k
        have t3 := fsum_le_total fs
        omega
      have HH := hide1 hH
      have HM2 := hide1 hm2
      clear hP2 hH hlb' hrow hm2
      go_wp2_with fail
      refine (mAdd_any HH.out.model f hm1 HM2.out (by omega)).mono ?_
      rintro e w3 ⟨k', ms1, c', pm', rfl, hp, hc, hM, hG⟩
      have hP3 := HH.out.full hp hc hM hG
      have HP3 := hide1 hP3
      clear hp hc hM hG hP3
      go_wp2_with fail
      go_roundw
      case rel => exact ⟨k + 1, by omega, by go_num, _, ph2, _, pm', by rw [List.take_add_one, HF.out]; exact HP3.out⟩
      case measure => simp [intOf]; omega
    · obtain rfl : k = fs.length := by omega
      rw [List.take_length] at hP
      have hlen2 := hP.mat.length
      have hG := hP.feed.good
      have hcn : s.calls.length ≤ 4096 := by have := hG.count; omega
      have HP := hide1 hP
      have HL := hide1 hlen2
      clear hP hG hlen2
      go_wp2_with fail
      refine (zzResponse_any HP.out.feed.holds (by omega)).mono ?_
      rintro e w2 ⟨g, gc, rfl, ho, hb2⟩
      have hP2 := HP.out.quiet hb2
      have hMa : ∀ o, MHolds w.heap.size S ms pm (w2.alloc o) := fun o => hP2.model.frame (by simp) (fun k l hk => Below.heap_alloc _ _ _ (hP2.model.labs k l hk).2)
      have hT : ∀ o W', OBlk (w2.alloc o) ms.ord W' → o = .cells (respCells mo fi g s.calls.length gc) 44 → T3 w.heap.size S w2.heap.size (w2.heap.size + 1) mo fi s ms pm wr.heap.size g gc W' := fun o W' hO e => by
        have hs : (w2.alloc o).heap.size = w2.heap.size + 1 := by simp
        have hb := hO.2
        rw [hs] at hb
        refine ⟨(hMa o).frame (by rw [hs]; have := hb.size; omega) (fun k l hk => ?_), ?_, ?_, ?_, HP.out.mat⟩
        · rw [hb.block k (by have := (hP2.model.labs k l hk).2; omega)]
        · rw [hb.block _ (by omega), heap_alloc_new, e]
        · exact ownsRow_same ho fun k hk => by have := (ho.lt k hk).2; rw [hb.block k (by omega), Below.heap_alloc _ _ _ this]
        · have := hO.1
          rwa [hs] at this
      have hBW : ∀ o W', OBlk (w2.alloc o) ms.ord W' → Below w.heap.size w W' ∧ w.heap.size ≤ W'.heap.size := fun o W' hO => by
        have hs : (w2.alloc o).heap.size = w2.heap.size + 1 := by simp
        have hb := hO.2
        rw [hs] at hb
        have h1 := hP2.feed.below
        have h2 := hP2.feed.size
        have h3 := hb.size
        rw [hs] at h3
        exact ⟨(h1.alloc h2 _).trans (hb.mono (by omega)), by omega⟩
      obtain ⟨am, cm, hcv⟩ := hP2.model.cvIs
      have d0 : w2.cell? ⟨S, 0, none⟩ = some (.slice am s.calls.length cm) := by rw [hP2.model.box0, hcv, HL.out]
      have hS2 := (hP2.model.labs _ _ hP2.model.labS).2
      have hq39 : ∀ (w : World) (a : Option Addr) (n c : Nat), (binOp .eql 39 (.slice a n c) (.slice none 0 0)).run Try.prog w = .ok (.bool a.isNone) w := fun w a n c => Lib.run_eql_slice_nil w _ _ a n c 0 0 Try.underlying39
      have HMA := hide1 hMa
      have HT := hide1 (And.intro hT hBW)
      clear hP2 hMa hT hBW hcv ho hb2
      go_wp2_with fail
      refine (mOrder_any (HMA.out _) (by rw [← HL.out]; omega)).mono ?_
      rintro e w3 ⟨rfl, hO⟩
      have hT3 := HT.out.1 _ _ hO rfl
      have hBW3 := HT.out.2 _ _ hO
      rw [← HL.out]
      clear hO HT HMA d0 hS2
      have hs2 : (w2.alloc (.cells (respCells mo fi g s.calls.length gc) 44)).heap.size = w2.heap.size + 1 := by simp
      rw [hs2]
      clear hs2
      obtain ⟨R, hR⟩ : ∃ R, R = w2.heap.size := ⟨_, rfl⟩
      rw [← hR] at hT3 ⊢
      obtain ⟨O, hO⟩ : ∃ O, O = R + 1 := ⟨_, rfl⟩
      rw [← hO] at hT3 ⊢
      clear hR hO
      have HT3 := hide1 hT3
      have HB3 := hide1 hBW3
      clear hT3 hBW3
      go_wp2_with fail
      go_loopw [12, 13, 14] (fun i _ _ W => ∃ k : Nat, k ≤ s.calls.length ∧ i = .int .i64 k ∧ Below w3.heap.size w3 W) (fun i _ _ _ => s.calls.length - (intOf i).toNat)
      case atStart => exact ⟨0, Nat.zero_le _, rfl, Below.refl _ _⟩
      case round =>
        obtain ⟨k, hk, rfl, hbel⟩ := hrel
        have hT := HT3.out.below hbel
        have hRl := (Array.getElem?_eq_some_iff.1 hT.box).1
        have hOl := (Array.getElem?_eq_some_iff.1 hT.ord).1
        have hSl := (hT.model.labs _ _ hT.model.labS).2
        have hgl := (hT.row.lt g rfl).2
        have b4 : wr.cell? ⟨R, 4, none⟩ = some (.slice (some ⟨g, 0, none⟩) s.calls.length gc) := by simp [World.cell?, hT.box]
        by_cases hlt : k < s.calls.length
        · obtain ⟨m, p, gm, cm', hml, e0, hgm, e1, e2, e3, e4, e5, hav, t0, t1, t2⟩ := hT.at hlt
          obtain ⟨sa, sm, sc, hsl⟩ := ownsRow_slice hav
          rw [hsl] at e5 hav
          have hconv : ∀ o, (convert 48 9 (.slice sa sm sc)).run Try.prog (wr.alloc o).drew = .ok (.string p.args) (wr.alloc o).drew := fun o =>
            run_bytes_str (w := (wr.alloc o).drew) (ownsRow_same hav fun j hj => (show (wr.alloc o).heap[j]? = _ from Below.heap_alloc wr o j (hav.lt j hj).2))
          have HBEL := hide1 hbel
          clear hT hav hbel hsl
          by_cases e : emp p.args = true
          · have e' : p.args.toList.isEmpty = true := e
            have ha : argOut p.args = sBraces := by unfold argOut; rw [if_pos e]
            rw [ha] at t2
            clear ha e
            go_wp2_with fail
            go_region
            go_wp2_with fail
            go_quiet (fail)
            go_wp2_with fail
            go_roundw
            case rel => exact ⟨k + 1, by omega, by go_num, below_box HBEL.out (HBEL.out.size) _ _⟩
            case measure => simp [intOf]; omega
          · have e' := emp_false e
            have ha : argOut p.args = p.args := by unfold argOut; rw [if_neg e]
            rw [ha] at t2
            clear ha e
            go_wp2_with fail
            go_region
            go_wp2_with fail
            go_quiet (fail)
            go_wp2_with fail
            go_roundw
            case rel => exact ⟨k + 1, by omega, by go_num, below_box HBEL.out (HBEL.out.size) _ _⟩
            case measure => simp [intOf]; omega
        · obtain ⟨am', cm', d0⟩ := hT.len
          obtain ⟨F, hF⟩ : ∃ F, F = finF fi s.calls.length := ⟨_, rfl⟩
          obtain ⟨bb, hbb⟩ : ∃ bb, bb = decide (0 < s.calls.length) := ⟨_, rfl⟩
          have hbox := hT.box
          unfold respCells at hbox
          rw [← hF] at hbox
          have hw18 : ∀ W, Calls Try.prog 18 #[.string fi, .bool bb] W fun e w' => e = .returned (.string F) ∧ w' = W := fun W => by
            have h := want_any fi (decide (0 < s.calls.length)) W
            rw [← fin_want, ← hF, ← hbb] at h
            exact h
          have hd1 : decide ((0 : Int) < (s.calls.length : Int)) = bb := by rw [hbb]; simp
          have hd2 : decide (0 < s.calls.length) = bb := hbb.symm
          have b0 : wr.cell? ⟨R, 0, none⟩ = some (.string mo) := by simp [World.cell?, hbox]
          have b1 : wr.cell? ⟨R, 1, none⟩ = some (.string ⟨#[]⟩) := by simp [World.cell?, hbox]
          have b2 : wr.cell? ⟨R, 2, none⟩ = some (.string ⟨#[]⟩) := by simp [World.cell?, hbox]
          have b3 : wr.cell? ⟨R, 3, none⟩ = some (.string ⟨#[]⟩) := by simp [World.cell?, hbox]
          have b5 : wr.cell? ⟨R, 5, none⟩ = some (.string F) := by simp [World.cell?, hbox]
          have b6 : wr.cell? ⟨R, 6, none⟩ = some (.string fi) := by simp [World.cell?, hbox]
          have b7 : wr.cell? ⟨R, 7, none⟩ = some (.int .i64 0) := by simp [World.cell?, hbox]
          have b8 : wr.cell? ⟨R, 8, none⟩ = some (.int .i64 0) := by simp [World.cell?, hbox]
          have b9 : wr.cell? ⟨R, 9, none⟩ = some (.int .i64 0) := by simp [World.cell?, hbox]
          have b10 : wr.cell? ⟨R, 10, none⟩ = some (.int .i64 0) := by simp [World.cell?, hbox]
          have b11 : wr.cell? ⟨R, 11, none⟩ = some (.int .i64 0) := by simp [World.cell?, hbox]
          have b12 : wr.cell? ⟨R, 12, none⟩ = some (.int .i64 0) := by simp [World.cell?, hbox]
          have HEND := hide1 (HB3.out.1.trans (hbel.mono HB3.out.2))
          have HHW := hide1 hw18
          clear hT hbel hbox hF hbb hw18
          go_wp2_with fail
          go_quiet ((go_at_call 18; exact Calls.quiet_of_same (HHW.out _)))
          go_wp2_with fail
          go_ret
          exact ⟨rfl, HEND.out.trans ⟨rfl, rfl, rfl, by simp, fun _ _ => by simp⟩⟩

end Go.Proofs.Qxb6600954a
