/-
  Seat b6600954a: modelAdd (15), walked: cut at its four 'if's.
-/
import Derived.Test.Qxb6600954aMApp
import Derived.Test.Qxb6600954aMatch
import Derived.Deep.QuietTactic
import Derived.Deep.DeepCutAuto
import Derived.Deep.RegionLaw
namespace Go.Proofs.Qxb6600954a
open Go.RowKit

section
variable {B S : Nat} {s : MSt} {ph : Phys} {w : World}

def MHead (s : MSt) (f : Frag) (w : World) (v : Value) (wc : World) : Prop := ∃ r n, v = .int .i64 r ∧ MFound s.calls f.id r ∧ wc = (w.alloc (.cells f.cells 36)).drewN n

def ResPost2 (r : Int) (B S : Nat) (s : MSt) (ph : Phys) (w : World) (e : Ending) (w' : World) : Prop :=
  e = .returned (.int .i64 r) ∧ MHolds B S s ph w' ∧ Grows ph w ph w' ∧ ∀ k, k < w.heap.size → w'.heap[k]? = w.heap[k]?

theorem mResolve2 (h : MHolds B S s ph w) (f : Frag) (hn : s.calls.length ≤ 100000) : Calls Try.prog 23 #[.pointer (some ⟨S, 0, none⟩), .agg f.cells] w (ResPost2 (mResolve s f) B S s ph w) := by
  refine (mResolve_any h f hn).mono ?_
  rintro e w' ⟨rfl, n, rfl⟩
  have hk : ∀ k, k < w.heap.size → ((w.alloc (.cells f.cells 36)).drewN n).heap[k]? = w.heap[k]? := fun k hk => by
    have := Below.heap_alloc w (.cells f.cells 36) k hk
    simpa using this
  exact ⟨rfl, h.frame (by simp) (fun k l hl => hk k (h.labs k l hl).2), ⟨rfl, rfl, rfl, by simp, fun k h1 _ => hk k h1, fun _ _ => rfl⟩, hk⟩

/-- a stage of modelAdd: the state s1, the fragment's box at w's end -/
structure MStage (B S : Nat) (f : Frag) (ph : Phys) (w : World) (k : Nat) (s1 : MSt) (wc : World) : Prop where
  ex : ∃ ph1 c, MHolds B S s1 ph1 wc ∧ s1.calls[k]? = some c ∧ Grows ph w ph1 wc ∧ ph1.lab w.heap.size = none ∧ wc.heap[w.heap.size]? = some (.cells f.cells 36)

theorem MStage.next {B S : Nat} {f : Frag} {ph ph1 ph2 : Phys} {w wc W : World} {k : Nat} {s2 : MSt} {c : MC} (hG1 : Grows ph w ph1 wc) (hl : ph1.lab w.heap.size = none) (hb : wc.heap[w.heap.size]? = some (.cells f.cells 36))
    (G : Grows ph1 wc ph2 W) (hH : MHolds B S s2 ph2 W) (hc : s2.calls[k]? = some c) : MStage B S f ph w k s2 W := by
  have hlt : w.heap.size < wc.heap.size := (Array.getElem?_eq_some_iff.1 hb).1
  exact ⟨ph2, c, hH, hc, hG1.trans G, (G.lab _ hlt).trans hl, (G.block _ hlt hl).trans hb⟩

theorem MHolds.rowFree (h : MHolds B S s ph w) {g n cap : Nat} (hcv : ph.cv = .slice (some ⟨g, 0, none⟩) n cap) (i : Nat) : w.frozen? ⟨g, i, none⟩ = false := by
  rcases h.row.2 with ⟨h1, _⟩ | ⟨g', cap', cur, h1, _, h2, _⟩
  · rw [hcv] at h1; cases h1
  · rw [hcv] at h1; cases h1; simp [World.frozen?, h2]

def MIdUpd (f : Frag) (c : MC) : MC := { c with id := if emp c.id = true then f.id else c.id }
def MNameUpd (f : Frag) (c : MC) : MC := { c with name := if emp c.name = true then f.name else c.name }
theorem put_self {s : MSt} {k : Nat} {c : MC} (h : s.calls[k]? = some c) : s.put k c = s := by
  obtain ⟨cs, l⟩ := s
  unfold MSt.put
  simp only at h ⊢
  congr 1
  apply List.ext_getElem?
  intro i
  rw [List.getElem?_set]
  split
  · rename_i e; subst e; rw [h, if_pos (List.getElem?_eq_some_iff.1 h).1]
  · rfl
theorem put_put (s : MSt) (k : Nat) (c d : MC) : (s.put k c).put k d = s.put k d := by simp [MSt.put]
theorem put_at {s : MSt} {k : Nat} {c : MC} (h : s.calls[k]? = some c) (d : MC) : (s.put k d).calls[k]? = some d := by
  have := (List.getElem?_eq_some_iff.1 h).1
  simp [MSt.put, this]
theorem touch_eq (f : Frag) (c : MC) : { MNameUpd f (MIdUpd f c) with args := (MNameUpd f (MIdUpd f c)).args ++ f.args } = mTouch f c := rfl

def MAddPost (B S : Nat) (s : MSt) (f : Frag) (ph : Phys) (w : World) (e : Ending) (w' : World) : Prop :=
  ∃ k s1 c ph', e = .returned (.tuple #[]) ∧ MPick s f k s1 ∧ s1.calls[k]? = some c ∧ MHolds B S (s1.put k (mTouch f c)) ph' w' ∧ Grows ph w ph' w'

theorem pick_args {s s1 : MSt} {f : Frag} {k : Nat} {c : MC} (h : MPick s f k s1) (hc : s1.calls[k]? = some c) : c ∈ s.calls ∨ c.args = ⟨#[]⟩ := by
  rcases h with ⟨_, rfl⟩ | ⟨_, ⟨_, _, _, _, rfl⟩ | ⟨_, rfl, rfl⟩⟩
  · exact .inl (List.mem_of_getElem? hc)
  · exact .inl (List.mem_of_getElem? hc)
  · simp [MSt.begin] at hc
    exact .inr (by rw [← hc]; rfl)

def MPicked (B S : Nat) (s : MSt) (f : Frag) (ph : Phys) (w : World) (v : Value) (wc : World) : Prop := ∃ k s1, v = .int .i64 (k : Nat) ∧ MPick s f k s1 ∧ MStage B S f ph w k s1 wc

set_option maxRecDepth 100000 in
set_option maxHeartbeats 2000000 in
theorem mAdd_any (h : MHolds B S s ph w) (f : Frag) (hn : s.calls.length ≤ 100000) (hsz : ∀ c ∈ s.calls, c.args.size + f.args.size ≤ 1000000000) (hfz : f.args.size ≤ 1000000000) :
    Calls Try.prog 15 #[.pointer (some ⟨S, 0, none⟩), .agg f.cells] w (MAddPost B S s f ph w) := by
  have hS := (h.labs _ _ h.labS).2
  obtain ⟨a, cap, hcv⟩ := h.cvIs
  have c0 := h.box0
  rw [hcv] at c0
  have HH := hide1 h
  have HC := hide1 hcv
  clear hcv
  obtain ⟨HD, hHD⟩ : ∃ HD : Value → World → Prop, HD = MHead s f w := ⟨_, rfl⟩
  have HDE := hide1 hHD
  clear hHD
  go_enter Try.func15, Try.ntmps15
  go_upto_if 10 with fail
  go_cut [4] (fun v wc => HD v wc)
  case first =>
    by_cases e1 : emp f.id = true
    · have e1' : f.id.toList.isEmpty = true := e1
      rw [e1']
      clear e1'
      go_wp2_with fail
      go_meet
      case rel => rw [HDE.out]; exact ⟨-1, 0, rfl, .inl ⟨rfl, .inl e1⟩, rfl⟩
    · have e1' := emp_false e1
      have e2' : emp f.id = false := by simpa using e1
      have E2 := hide1 e2'
      clear e2'
      rw [e1']
      clear e1'
      go_wp2_with fail
      go_loopw [4, 5] (fun t i wr => t = .int .i64 (-1) ∧ ∃ k n : Nat, k ≤ s.calls.length ∧ i = .int .i64 k ∧ NoId s.calls f.id k ∧ wr = (w.alloc (.cells f.cells 36)).drewN n) (fun _ i _ => s.calls.length - (intOf i).toNat)
      case atStart => exact ⟨rfl, 0, 0, Nat.zero_le _, rfl, fun j c hj => by omega, rfl⟩
      case round =>
        obtain ⟨rfl, k, n, hk, rfl, hno, rfl⟩ := hrel
        have HNO := hide1 hno
        clear hno
        by_cases hlt : k < s.calls.length
        · obtain ⟨c, hc⟩ : ∃ c, s.calls[k]? = some c := ⟨_, List.getElem?_eq_getElem hlt⟩
          obtain ⟨g, cap', hcv, hgl, hcells⟩ := HH.out.rowAt hc
          have hg := (HH.out.labs _ _ hgl).2
          rw [HC.out] at hcv
          cases hcv
          have c1 : w.cell? ⟨g, k * 4 + 1, none⟩ = some (.string c.id) := hcells 1 (by omega)
          have HCC := hide1 hc
          clear hcells hc
          go_wp2_with fail
          go_region
          go_wp2_with fail
          · have hyes := ‹(c.id.toList == f.id.toList) = true›
            go_meet
            case rel =>
              rw [HDE.out]
              exact ⟨k, n + 1, rfl, .inr ⟨k, c, rfl, E2.out, HCC.out, hyes, HNO.out⟩, rfl⟩
          · have hne := ‹(c.id.toList == f.id.toList) = false›
            go_round
            case rel =>
              refine ⟨rfl, k + 1, n + 1, by omega, by go_num, fun j d hj hd => ?_, rfl⟩
              rcases Nat.lt_succ_iff_lt_or_eq.1 hj with h1 | h1
              · exact HNO.out j d h1 hd
              · rw [h1, HCC.out] at hd
                cases hd
                exact hne
            case measure => simp [intOf]; omega
        · go_wp2_with fail
          go_meet
          case rel =>
            have e : k = s.calls.length := by omega
            rw [HDE.out]
            exact ⟨-1, n, rfl, .inl ⟨rfl, .inr (by rw [← e]; exact HNO.out)⟩, rfl⟩
  case rest =>
    have hcut2 := hcut
    rw [HDE.out] at hcut2
    obtain ⟨r, n0, rfl, hfd, rfl⟩ := hcut2
    clear hcut HDE HD
    have HF := hide1 hfd
    clear hfd
    have hM : MHolds B S s ph ((w.alloc (.cells f.cells 36)).drewN n0) := h.frame (by simp) (fun k l hk => by
      have := Below.heap_alloc w (.cells f.cells 36) k (h.labs k l hk).2
      simpa using this)
    have HM := hide1 hM
    obtain ⟨PK, hPK⟩ : ∃ PK : Value → World → Prop, PK = MPicked B S s f ph w := ⟨_, rfl⟩
    have HPK := hide1 hPK
    clear hPK hM
    go_upto_if 33 with fail
    go_cut [4] (fun v wc => PK v wc)
    case first =>
      have hlN : ph.lab w.heap.size = none := by
        cases e : ph.lab w.heap.size with
        | none => rfl
        | some l => have := (HH.out.labs _ _ e).2; omega
      have hbox : ∀ n, ((w.alloc (.cells f.cells 36)).drewN n).heap[w.heap.size]? = some (.cells f.cells 36) := fun n => by
        have : ((w.alloc (.cells f.cells 36)).drewN n).heap = (w.alloc (.cells f.cells 36)).heap := by simp
        rw [this]; exact heap_alloc_new w _
      have hG : ∀ n, Grows ph w ph ((w.alloc (.cells f.cells 36)).drewN n) := fun n =>
        ⟨rfl, rfl, rfl, by simp, fun k hk _ => by rw [← Below.heap_alloc w (.cells f.cells 36) k hk]; simp, fun _ _ => rfl⟩
      have HBOX := hide1 (And.intro hlN (And.intro hbox hG))
      clear hlN hbox hG
      rcases HF.out with ⟨rfl, hno⟩ | ⟨j, c, rfl, hne, hc, heq, hno⟩
      · clear hno
        go_wp2_with fail
        refine (mResolve2 HM.out f hn).mono ?_
        rintro e w1 ⟨rfl, hM1, hG1, hk1⟩
        have HM1 := hide1 (And.intro hM1 (And.intro hG1 hk1))
        clear hM1 hG1 hk1
        go_wp2_with fail
        have hltw : w.heap.size < ((w.alloc (.cells f.cells 36)).drewN n0).heap.size := by simp
        have hbox1 : w1.heap[w.heap.size]? = some (.cells f.cells 36) := (HM1.out.2.2 _ hltw).trans (HBOX.out.2.1 n0)
        have b2 : w1.cell? ⟨w.heap.size, 2, none⟩ = some (.string f.id) := by simp [World.cell?, hbox1]
        have d0 : w1.cell? ⟨S, 0, none⟩ = some (.slice a s.calls.length cap) := by rw [HM1.out.1.box0, HC.out]
        have d1 : w1.frozen? ⟨S, 0, none⟩ = false := by simp [World.frozen?, HM1.out.1.box]
        have d2 : w1.frozen? ⟨S, 1, none⟩ = false := by simp [World.frozen?, HM1.out.1.box]
        have hb1 := hide1 hbox1
        clear hbox1
        refine (mLast_any HM1.out.1 (mResolve s f) hn).mono ?_
        rintro e w2 ⟨rfl, rfl⟩
        have hlt := mLastTo_lt s.calls (mResolve s f) s.calls.length
        obtain ⟨la, hla⟩ : ∃ la, la = mLastTo s.calls (mResolve s f) s.calls.length := ⟨_, rfl⟩
        rw [← hla] at hlt ⊢
        have HLA := hide1 hla
        clear hla
        by_cases hneg : la < 0
        · have hng : decide (0 ≤ la) = false := by simp; omega
          obtain ⟨v, W, hrun, hMN, hGN, ⟨va, vc, rfl⟩, hWS⟩ := HM1.out.1.app (mResolve s f) hn 29
          have HN := hide1 (And.intro hMN hGN)
          clear hMN hGN
          rw [HC.out] at hrun
          have x0 : W.cell? ⟨S, 0, none⟩ = some (.slice a s.calls.length cap) := by rw [World.cell?_of_block (w := w2) hWS]; exact d0
          have x1 : W.frozen? ⟨S, 0, none⟩ = false := by rw [World.frozen?_of_block (w := w2) hWS]; exact d1
          have x3 : W.cell? ⟨S, 1, none⟩ = some (.int .i64 s.latest) := by rw [World.cell?_of_block (w := w2) hWS]; exact HM1.out.1.box1
          have x2 : W.frozen? ⟨S, 1, none⟩ = false := by rw [World.frozen?_of_block (w := w2) hWS]; exact d2
          go_wp2_with (at_builtin; refine wpList_append_run _ rfl _ _ 29 29 rfl _ _ rfl rfl hrun ?_)
          go_meet
          case rel =>
            rw [HPK.out]
            obtain ⟨hlN, hbox, hG⟩ := HBOX.out
            refine ⟨s.calls.length, s.begin (mResolve s f), rfl, .inr ⟨HF.out, .inr ⟨.inl (by rw [← HLA.out]; exact hneg), rfl, rfl⟩⟩, ?_⟩
            exact MStage.next (c := freshMC (mResolve s f)) ((hG n0).trans HM1.out.2.1) hlN hb1.out HN.out.2 HN.out.1 (by simp [MSt.begin])
        · obtain ⟨j, rfl⟩ : ∃ j : Nat, la = j := ⟨la.toNat, by omega⟩
          have hjl : j < s.calls.length := by omega
          obtain ⟨c, hc⟩ : ∃ c, s.calls[j]? = some c := ⟨_, List.getElem?_eq_getElem hjl⟩
          obtain ⟨g, cap', hcv, hgl, hcells⟩ := HM1.out.1.rowAt hc
          have hg := (HM1.out.1.labs _ _ hgl).2
          rw [HC.out] at hcv
          cases hcv
          have c1 : w2.cell? ⟨g, j * 4 + 1, none⟩ = some (.string c.id) := hcells 1 (by omega)
          have HCC := hide1 hc
          have hng : decide (0 ≤ (j : Int)) = true := by simp
          clear hcells hc hneg hlt
          by_cases e1 : emp f.id = true
          · have E1 := hide1 e1
            have e1' : f.id.toList.isEmpty = true := e1
            clear e1
            go_wp2_with fail
            go_meet
            case rel =>
              rw [HPK.out]
              obtain ⟨hlN, hbox, hG⟩ := HBOX.out
              exact ⟨j, s, rfl, .inr ⟨HF.out, .inl ⟨c, HLA.out.symm, HCC.out, .inl E1.out, rfl⟩⟩, ⟨ph, c, HM1.out.1, HCC.out, (hG n0).trans HM1.out.2.1, hlN, hb1.out⟩⟩
          · have e1' := emp_false e1
            have E1 := hide1 (show emp f.id = false from e1')
            clear e1
            by_cases e2 : emp c.id = true
            · have E2 := hide1 e2
              have e2' : c.id.toList.isEmpty = true := e2
              clear e2
              go_wp2_with fail
              go_meet
              case rel =>
                rw [HPK.out]
                obtain ⟨hlN, hbox, hG⟩ := HBOX.out
                exact ⟨j, s, rfl, .inr ⟨HF.out, .inl ⟨c, HLA.out.symm, HCC.out, .inr E2.out, rfl⟩⟩, ⟨ph, c, HM1.out.1, HCC.out, (hG n0).trans HM1.out.2.1, hlN, hb1.out⟩⟩
            · have e2' := emp_false e2
              have E2 := hide1 (show emp c.id = false from e2')
              clear e2
              obtain ⟨v, W, hrun, hMN, hGN, ⟨va, vc, rfl⟩, hWS⟩ := HM1.out.1.app (mResolve s f) hn 29
              have HN := hide1 (And.intro hMN hGN)
              clear hMN hGN
              rw [HC.out] at hrun
              have x0 : W.cell? ⟨S, 0, none⟩ = some (.slice (some ⟨g, 0, none⟩) s.calls.length cap) := by rw [World.cell?_of_block (w := w2) hWS]; exact d0
              have x1 : W.frozen? ⟨S, 0, none⟩ = false := by rw [World.frozen?_of_block (w := w2) hWS]; exact d1
              have x3 : W.cell? ⟨S, 1, none⟩ = some (.int .i64 s.latest) := by rw [World.cell?_of_block (w := w2) hWS]; exact HM1.out.1.box1
              have x2 : W.frozen? ⟨S, 1, none⟩ = false := by rw [World.frozen?_of_block (w := w2) hWS]; exact d2
              go_wp2_with (at_builtin; refine wpList_append_run _ rfl _ _ 29 29 rfl _ _ rfl rfl hrun ?_)
              go_meet
              case rel =>
                rw [HPK.out]
                obtain ⟨hlN, hbox, hG⟩ := HBOX.out
                refine ⟨s.calls.length, s.begin (mResolve s f), rfl, .inr ⟨HF.out, .inr ⟨.inr ⟨j, c, HLA.out.symm, HCC.out, E1.out, E2.out⟩, rfl, rfl⟩⟩, ?_⟩
                exact MStage.next (c := freshMC (mResolve s f)) ((hG n0).trans HM1.out.2.1) hlN hb1.out HN.out.2 HN.out.1 (by simp [MSt.begin])
      · have HCC := hide1 hc
        clear hne hc heq hno
        have hj0 : decide ((j : Int) < 0) = false := by simp
        go_wp2_with fail
        go_meet
        case rel =>
          rw [HPK.out]
          obtain ⟨hlN, hbox, hG⟩ := HBOX.out
          exact ⟨j, s, rfl, .inl ⟨HF.out, rfl⟩, ⟨ph, c, HM.out, HCC.out, hG _, hlN, hbox _⟩⟩
    case rest =>
      have hcut2 := hcut
      rw [HPK.out] at hcut2
      obtain ⟨k, s1, rfl, hpk, hst⟩ := hcut2
      obtain ⟨ph1, c, hM1, hc, hG1, hlN1, hbox1⟩ := hst
      have HP := hide1 (And.intro hpk hc)
      clear hcut HPK PK hpk HF HM HH HC c0
      have hS1 := (hM1.labs _ _ hM1.labS).2
      have hk : k < s1.calls.length := (List.getElem?_eq_some_iff.1 hc).1
      have hk0 : decide (0 ≤ (k : Int)) = true := by simp
      obtain ⟨g, cap, hcv, hgl, hcells⟩ := hM1.rowAt hc
      have hg := (hM1.labs _ _ hgl).2
      have d0 : wc.cell? ⟨S, 0, none⟩ = some (.slice (some ⟨g, 0, none⟩) s1.calls.length cap) := by rw [hM1.box0, hcv]
      have c1 : wc.cell? ⟨g, k * 4 + 1, none⟩ = some (.string c.id) := hcells 1 (by omega)
      have b2 : wc.cell? ⟨w.heap.size, 2, none⟩ = some (.string f.id) := by simp [World.cell?, hbox1]
      have f1 : wc.frozen? ⟨g, k * 4 + 1, none⟩ = false := hM1.rowFree hcv _
      have HX1 := hide1 (And.intro hM1 (And.intro hcv (And.intro hG1 (And.intro hlN1 hbox1))))
      have hg1 : ph1.lab g = some 1 := hgl
      have HL1 := hide1 hg1
      clear hM1 hcv hG1 hlN1 hbox1 hcells hgl hg1 hc
      go_upto_region 16 with fail
      go_cut [93] (fun v w2 => v = .bool (setsId c.id f.id) ∧ w2 = wc)
      case first =>
        by_cases e1 : emp c.id = true
        · by_cases e2 : emp f.id = true
          · go_wp2_with fail
            go_meet
            case rel => exact ⟨by simp [setsId, e1, e2], rfl⟩
          · have e2' := emp_false e2
            go_wp2_with fail
            go_meet
            case rel => exact ⟨by simp [setsId, e1, e2'], rfl⟩
        · have e1' := emp_false e1
          go_wp2_with fail
          go_meet
          case rel => exact ⟨by simp [setsId, e1'], rfl⟩
      case rest =>
      obtain ⟨rfl, rfl⟩ := hcut
      obtain ⟨S2, hS2⟩ : ∃ S2 : World → Prop, S2 = MStage B S f ph w k (s1.put k (MIdUpd f c)) := ⟨_, rfl⟩
      have HS2 := hide1 hS2
      clear hS2
      go_upto_if 93 with fail
      go_cut [] (fun w3 => S2 w3)
      case first =>
        have hsame : MIdUpd f c = c → MStage B S f ph w k (s1.put k (MIdUpd f c)) wc := fun e => by
          rw [e, put_self HP.out.2]
          obtain ⟨hM1, hcv, hG1, hlN1, hbox1⟩ := HX1.out
          exact ⟨ph1, c, hM1, HP.out.2, hG1, hlN1, hbox1⟩
        have HSAME := hide1 hsame
        clear hsame
        by_cases e1 : emp c.id = true
        · by_cases e2 : emp f.id = true
          · have e3 : setsId c.id f.id = false := by simp [setsId, e1, e2]
            rw [e3]
            clear e3
            go_wp2_with fail
            go_meet
            case rel =>
              rw [HS2.out]
              refine HSAME.out ?_
              unfold MIdUpd
              rw [if_pos e1, (emp_iff _).1 e2, ← (emp_iff _).1 e1]
          · have e3 : setsId c.id f.id = true := by simp [setsId, e1, e2]
            rw [e3]
            clear e3
            go_wp2_with fail
            go_region
            go_wp2_with fail
            go_meet
            case rel =>
              rw [HS2.out]
              obtain ⟨hM1, hcv, hG1, hlN1, hbox1⟩ := HX1.out
              have hM2 := hM1.setField HP.out.2 hcv (c' := MIdUpd f c) 1 (by omega) (.string f.id) (by unfold MIdUpd; rw [if_pos e1]; rfl) rfl
              have hG2 := Grows.setCell ph1 wc ⟨g, k * 4 + 1, none⟩ (.string f.id) HL1.out
              exact MStage.next hG1 hlN1 hbox1 (hG2.trans (Grows.drew _ _)) (hM2.frame (Nat.le_refl _) (fun _ _ _ => rfl)) (put_at HP.out.2 _)
        · have e1' := emp_false e1
          have e3 : setsId c.id f.id = false := by simp [setsId, e1']
          rw [e3]
          clear e3
          go_wp2_with fail
          go_meet
          case rel =>
            rw [HS2.out]
            refine HSAME.out ?_
            unfold MIdUpd
            rw [if_neg e1]
      case rest =>
      have hcut2 := hcut
      rw [HS2.out] at hcut2
      obtain ⟨ph2, c2, hM2, hc2, hG2, hlN2, hbox2⟩ := hcut2
      have hcd : c2 = MIdUpd f c := by have := put_at HP.out.2 (MIdUpd f c); rw [hc2] at this; cases this; rfl
      obtain ⟨s2, hs2⟩ : ∃ s2, s2 = s1.put k (MIdUpd f c) := ⟨_, rfl⟩
      rw [← hs2] at hM2 hc2
      have hl2 : s2.calls.length = s1.calls.length := by rw [hs2]; simp [MSt.put]
      have HSS2 := hide1 (And.intro hs2 hcd)
      clear hcut HS2 S2 hs2 HX1 HL1 d0 c1 b2 f1 hg hS1 hcd
      clear g cap
      have hS1 := (hM2.labs _ _ hM2.labS).2
      have hk2 : k < s2.calls.length := by omega
      obtain ⟨g, cap, hcv, hgl, hcells⟩ := hM2.rowAt hc2
      have hg := (hM2.labs _ _ hgl).2
      have d0 : wc.cell? ⟨S, 0, none⟩ = some (.slice (some ⟨g, 0, none⟩) s2.calls.length cap) := by rw [hM2.box0, hcv]
      have c2' : wc.cell? ⟨g, k * 4 + 2, none⟩ = some (.string c2.name) := hcells 2 (by omega)
      have b3 : wc.cell? ⟨w.heap.size, 3, none⟩ = some (.string f.name) := by simp [World.cell?, hbox2]
      have f2 : wc.frozen? ⟨g, k * 4 + 2, none⟩ = false := hM2.rowFree hcv _
      have HX2 := hide1 (And.intro hM2 (And.intro hcv (And.intro hG2 (And.intro hlN2 (And.intro hbox2 (And.intro hgl hc2))))))
      clear hM2 hcv hG2 hlN2 hbox2 hcells hgl hc2 hl2 hk
      obtain ⟨S3, hS3⟩ : ∃ S3 : World → Prop, S3 = MStage B S f ph w k (s2.put k (MNameUpd f c2)) := ⟨_, rfl⟩
      have HS3 := hide1 hS3
      clear hS3
      go_upto_if 111 with fail
      go_cut [] (fun w3 => S3 w3)
      case first =>
        by_cases e1 : emp c2.name = true
        · have e1' : c2.name.toList.isEmpty = true := e1
          rw [e1']
          clear e1'
          go_wp2_with fail
          go_region
          go_wp2_with fail
          go_meet
          case rel =>
            rw [HS3.out]
            obtain ⟨hM1, hcv, hG1, hlN1, hbox1, hgl, hc2⟩ := HX2.out
            have hM3 := hM1.setField hc2 hcv (c' := MNameUpd f c2) 2 (by omega) (.string f.name) (by unfold MNameUpd; rw [if_pos e1]; rfl) rfl
            have hG3 := Grows.setCell ph2 wc ⟨g, k * 4 + 2, none⟩ (.string f.name) hgl
            exact MStage.next hG1 hlN1 hbox1 (hG3.trans (Grows.drew _ _)) (hM3.frame (Nat.le_refl _) (fun _ _ _ => rfl)) (put_at hc2 _)
        · have e1' := emp_false e1
          rw [e1']
          clear e1'
          go_wp2_with fail
          go_meet
          case rel =>
            rw [HS3.out]
            obtain ⟨hM1, hcv, hG1, hlN1, hbox1, hgl, hc2⟩ := HX2.out
            have hu : MNameUpd f c2 = c2 := by unfold MNameUpd; rw [if_neg e1]
            rw [hu, put_self hc2]
            exact ⟨ph2, c2, hM1, hc2, hG1, hlN1, hbox1⟩
      case rest =>
      have hcut2 := hcut
      rw [HS3.out] at hcut2
      obtain ⟨ph3, c3, hM3, hc3, hG3, hlN3, hbox3⟩ := hcut2
      have hcd : c3 = MNameUpd f c2 := by have := put_at HX2.out.2.2.2.2.2.2 (MNameUpd f c2); rw [hc3] at this; cases this; rfl
      obtain ⟨s3, hs3⟩ : ∃ s3, s3 = s2.put k (MNameUpd f c2) := ⟨_, rfl⟩
      rw [← hs3] at hM3 hc3
      have hl3 : s3.calls.length = s2.calls.length := by rw [hs3]; simp [MSt.put]
      have hargs : c3.args.size + f.args.size ≤ 1000000000 := by
        have e1 : c3.args = c.args := by rw [hcd, HSS2.out.2]; rfl
        rw [e1]
        rcases pick_args HP.out.1 HP.out.2 with hq | hq
        · exact hsz c hq
        · rw [hq]; show 0 + f.args.size ≤ _; omega
      have HSS3 := hide1 (And.intro hs3 hcd)
      clear hcut HS3 S3 hs3 HX2 d0 c2' b3 f2 hg hS1 hcd
      clear g cap
      have hS1 := (hM3.labs _ _ hM3.labS).2
      have hk3 : k < s3.calls.length := by omega
      obtain ⟨g, cap, hcv, hgl, hcells⟩ := hM3.rowAt hc3
      have hg := (hM3.labs _ _ hgl).2
      have d0 : wc.cell? ⟨S, 0, none⟩ = some (.slice (some ⟨g, 0, none⟩) s3.calls.length cap) := by rw [hM3.box0, hcv]
      have c3' : wc.cell? ⟨g, k * 4 + 3, none⟩ = some (ph3.av k) := hcells 3 (by omega)
      have b4 : wc.cell? ⟨w.heap.size, 4, none⟩ = some (.string f.args) := by simp [World.cell?, hbox3]
      have f3 : wc.frozen? ⟨g, k * 4 + 3, none⟩ = false := hM3.rowFree hcv _
      obtain ⟨i0, hi0, hz0, hzs, hzb⟩ := info5
      have hMd : MHolds B S s3 ph3 wc.drew := hM3.frame (Nat.le_refl _) (fun _ _ _ => rfl)
      obtain ⟨v', W, hr, ho, hgw, hfr⟩ := run_append_src (P := Try.prog) wc.drew B 48 9 48 5 i0 (.int .u8 0) 1 1 Try.underlying48 hi0 hz0 hzs hzb rfl (ph3.av k) c3.args.size (byteCells c3.args) (hMd.args k c3 hc3) (.string f.args) f.args.size (byteCells f.args)
        (Src.ofString _ Try.underlying9 f.args) (by unfold maxLen; omega) (by omega) (by have := (hM3.labs _ _ hM3.labS); simp; omega)
      have hbW : W.heap[g]? = wc.heap[g]? := hgw.block g (by simpa using hg) (fun e => by have h1 := hM3.labArgs k c3 hc3 g e.symm; rw [hgl] at h1; simp only [Option.some.injEq] at h1; omega)
      have cW : W.cell? ⟨g, k * 4 + 3, none⟩ = some (ph3.av k) := by rw [World.cell?_of_block (w := wc) hbW]; exact c3'
      have fW : W.frozen? ⟨g, k * 4 + 3, none⟩ = false := by rw [World.frozen?_of_block (w := wc) hbW]; exact f3
      have hbS : W.heap[S]? = wc.heap[S]? := hgw.block S (by simpa using hS1) (fun e => by have h1 := hM3.labArgs k c3 hc3 S e.symm; rw [hM3.labS] at h1; simp only [Option.some.injEq] at h1; omega)
      have sW : W.cell? ⟨S, 0, none⟩ = some (.slice (some ⟨g, 0, none⟩) s3.calls.length cap) := by rw [World.cell?_of_block (w := wc) hbS]; exact d0
      have HX := hide1 (hMd.setArgs hc3 hcv hgw hfr ho)
      obtain ⟨sa, sm, sc, hv'⟩ := ownsRow_slice ho
      rw [hv'] at hr HX
      have HG3 := hide1 hG3
      clear ho hgw hfr hv' hbW hbS hMd hM3 hcv hG3 hlN3 hbox3 hcells hgl hl3 hk2
      go_wp2
      go_region_law (refine step_append_run rfl _ _ 48 9 rfl _ _ (by simp [Act.eval]) (by simp [Act.eval]) hr ?_)
      all_goals
        go_wp2
        go_end0
        obtain ⟨hH4, hG4⟩ := HX.out
        obtain ⟨e3, e3'⟩ := HSS3.out
        obtain ⟨e2, e2'⟩ := HSS2.out
        have hst : s3.put k { c3 with args := c3.args ++ f.args } = s1.put k (mTouch f c) := by
          rw [e3, e2, put_put, put_put, e3', e2', touch_eq]
        rw [hst] at hH4
        exact ⟨k, s1, c, _, rfl, HP.out.1, HP.out.2, hH4, HG3.out.trans ((Grows.drew _ _).trans hG4)⟩

end
end Go.Proofs.Qxb6600954a
