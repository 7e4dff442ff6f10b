/-
  Seat b6600954a: (*assembly).addToolCall (function 38), over the state: cut at its three 'if's.
-/
import Derived.Test.Qxb6600954aPure2
import Derived.BigQuiet
import Derived.Deep.QuietTactic
import Derived.Deep.DeepCutAuto
import Derived.Deep.RegionLaw
namespace Go.Proofs.Qxb6600954a
open Go.RowKit

/-- a stage of addToolCall: the state s1, the call's block b, the fragment's box N0 -/
structure Stage (B A : Nat) (mo fi : ByteArray) (f : Frag) (ph : Phys) (w : World) (b : Nat) (s1 : St) (wc : World) : Prop where
  ex : ∃ ph1 p, Holds B A mo fi s1 ph1 wc ∧ p ∈ s1.calls ∧ p.blk = b ∧ NmOk ph1.nm s1 ∧ Grows ph w ph1 wc ∧ ph1.lab w.heap.size = none ∧ wc.heap[w.heap.size]? = some (.cells f.cells 34)

/-- behind the head -/
def HeadPost (B A : Nat) (mo fi : ByteArray) (s : St) (f : Frag) (ph : Phys) (w : World) (v : Value) (wc : World) : Prop :=
  ∃ N, w.heap.size ≤ N ∧ v = .pointer (some ⟨(head N s f).2, 0, none⟩) ∧ Stage B A mo fi f ph w (head N s f).2 (head N s f).1 wc

theorem hide1 {p : Prop} (h : p) : Hid p := h

theorem Stage.next {B A : Nat} {mo fi : ByteArray} {f : Frag} {ph ph1 ph2 : Phys} {w wc W : World} {b : Nat} {s2 : St} {p : Call} (hG1 : Grows ph w ph1 wc) (hl : ph1.lab w.heap.size = none) (hb : wc.heap[w.heap.size]? = some (.cells f.cells 34))
    (G : Grows ph1 wc ph2 W) (hH : Holds B A mo fi s2 ph2 W) (hp : p ∈ s2.calls) (e : p.blk = b) (hn : NmOk ph2.nm s2) : Stage B A mo fi f ph w b s2 W := by
  have hlt : w.heap.size < wc.heap.size := (Array.getElem?_eq_some_iff.1 hb).1
  exact ⟨ph2, p, hH, hp, e, hn, hG1.trans G, (G.lab _ hlt).trans hl, (G.block _ hlt hl).trans hb⟩

/-- does the fragment give the call its id? -/
def setsId (a b : ByteArray) : Bool := emp a && !emp b

theorem mem_upd {s : St} {b : Nat} {g : Call → Call} {p : Call} (hp : p ∈ s.calls) (e : p.blk = b) : g p ∈ (s.upd b g).calls := List.mem_map.2 ⟨p, hp, by rw [if_pos e]⟩

def AddPost (B A : Nat) (mo fi : ByteArray) (s : St) (f : Frag) (ph : Phys) (w : World) (e : Ending) (w' : World) : Prop :=
  ∃ N ph', e = .returned (.tuple #[]) ∧ w.heap.size ≤ N ∧ Holds B A mo fi (addF N s f) ph' w' ∧ NmOk ph'.nm (addF N s f) ∧ Grows ph w ph' w'

theorem info5 : ∃ i, Try.prog.info? 5 = some i ∧ i.zero = some (.int .u8 0) ∧ i.size = 1 ∧ i.bytes = 1 := by
  have h : (Try.prog.info? 5).map (fun i => (i.zero, i.size, i.bytes)) = some (some (.int .u8 0), 1, 1) := by kernel_rfl
  obtain ⟨i, hi, he⟩ := Option.map_eq_some_iff.1 h
  simp only [Prod.mk.injEq] at he
  exact ⟨i, hi, he.1, he.2.1, he.2.2⟩

theorem ownsRow_slice {w : World} {B : Nat} {e : TypeId} {size : Nat} {v : Value} {n : Nat} {xs : List Value} (h : w.ownsRow B e size v n xs) : ∃ a m c, v = .slice a m c := by
  rcases h.2 with ⟨h, _⟩ | ⟨g, cap, _, h, _⟩
  · exact ⟨_, _, _, h⟩
  · exact ⟨_, _, _, h⟩

theorem mem_at_args {N : Nat} {s : St} {f : Frag} {q : Call} (h : q ∈ (head N s f).1.calls) : q ∈ s.calls ∨ q.args = ⟨#[]⟩ := by
  cases hi : byId s f.id with
  | some p => rw [head_hit hi] at h; exact .inl h
  | none =>
    rw [head_miss hi] at h
    cases hc : cont s f with
    | some c => rw [atF_cont hc] at h; exact .inl h
    | none =>
      rw [atF_new hc] at h
      rcases mem_insert h with rfl | h
      · exact .inr rfl
      · exact .inl h

set_option maxRecDepth 100000 in
set_option maxHeartbeats 2000000 in
theorem add_any {B A : Nat} {mo fi : ByteArray} {s : St} {ph : Phys} {w : World} (h : Holds B A mo fi s ph w) (hnm : NmOk ph.nm s) (hs : Sorted s.calls) (hn : s.calls.length ≤ 100000) (f : Frag) (hsz : ∀ q ∈ s.calls, q.args.size + f.args.size ≤ 1000000000) (hfz : f.args.size ≤ 1000000000) :
    Calls Try.prog 38 #[.pointer (some ⟨A, 0, none⟩), .agg f.cells] w (AddPost B A mo fi s f ph w) := by
  have hA := (h.labs _ _ h.labA).2
  have c9 : w.cell? ⟨A, 9, none⟩ = some (.map ph.mp) := by simp [World.cell?, h.asm]
  have hlk : ∀ n, (Instr.lookup 77 (.map ph.mp) (.string f.id) false).run Try.prog ((w.alloc (.cells f.cells 34)).drewN n) = .ok (.pointer (((byId s f.id).map Call.blk).map fun b => ⟨b, 0, none⟩)) ((w.alloc (.cells f.cells 34)).drewN n) := fun n => by
    rw [← hnm f.id]
    refine run_look (lab := ph.lab) ?_ f.id
    have h1 := (h.alloc (.cells f.cells 34)).frame (w' := (w.alloc (.cells f.cells 34)).drewN n) (by simp) (fun _ _ _ => by simp)
    exact h1.names
  obtain ⟨HH, hHH⟩ : ∃ HH : Value → World → Prop, HH = HeadPost B A mo fi s f ph w := ⟨_, rfl⟩
  go_enter Try.func38, Try.ntmps38
  go_wp2
  go_quiet (fail)
  go_upto_if 13 with fail
  go_cut [4] (fun v wc => HH v wc)
  case first =>
    have hbox : ∀ n, ((w.alloc (.cells f.cells 34)).drewN n).heap[w.heap.size]? = some (.cells f.cells 34) := fun n => by
      have : ((w.alloc (.cells f.cells 34)).drewN n).heap = (w.alloc (.cells f.cells 34)).heap := by simp
      rw [this]; exact heap_alloc_new w _
    have hH : ∀ n, Holds B A mo fi s ph ((w.alloc (.cells f.cells 34)).drewN n) := fun n =>
      (h.alloc (.cells f.cells 34)).frame (by simp) (fun _ _ _ => by simp)
    have hG : ∀ n, Grows ph w ph ((w.alloc (.cells f.cells 34)).drewN n) := fun n =>
      ⟨rfl, rfl, rfl, by simp, fun k hk _ => by rw [← Below.heap_alloc w (.cells f.cells 34) k hk]; simp, fun _ _ => rfl⟩
    have hlN : ph.lab w.heap.size = none := by
      cases e : ph.lab w.heap.size with
      | none => rfl
      | some l => have := (h.labs _ _ e).2; omega
    cases hb : byId s f.id with
    | some p =>
      have hp := byId_mem hb
      go_wp2_with fail
      go_meet
      case rel =>
        rw [hHH]
        exact ⟨w.heap.size, Nat.le_refl _, by rw [head_hit hb]; rfl, by rw [head_hit hb]; exact ⟨ph, p, hH _, hp.1, rfl, hnm, hG _, hlN, hbox _⟩⟩
    | none =>
      go_wp2_with (go_at_call 40; refine (at_any (hH _) hs hn f).mono ?_; rintro e w' ⟨N, ph', rfl, hr⟩; have HR := hide1 hr; clear hr)
      go_meet
      case rel =>
        obtain ⟨hN, h1, h2, h3, c, hc, hcb⟩ := HR.out
        rw [hHH]
        have hsz : w.heap.size < ((w.alloc (.cells f.cells 34)).drewN nq).heap.size := by simp
        refine ⟨N, by omega, by rw [head_miss hb], ?_⟩
        rw [head_miss hb]
        exact ⟨ph', c, h1, hc, hcb, h3 ▸ hnm.at N f, (hG _).trans h2, (h2.lab _ hsz).trans hlN, (h2.block _ hsz hlN).trans (hbox _)⟩
  case rest =>
    rw [hHH] at hcut
    obtain ⟨N, hN, rfl, hst⟩ := hcut
    obtain ⟨b, hb⟩ : ∃ b, b = (head N s f).2 := ⟨_, rfl⟩
    obtain ⟨s1, hs1⟩ : ∃ s1, s1 = (head N s f).1 := ⟨_, rfl⟩
    rw [← hb, ← hs1] at hst
    rw [← hb]
    obtain ⟨ph1, p, hH1, hp, rfl, hnm1, hG1, hlN1, hbox1⟩ := hst
    have HS1 := hide1 hs1
    have HB1 := hide1 hb
    clear hs1 hb hHH HH hlk c9
    have b2 : wc.cell? ⟨w.heap.size, 2, none⟩ = some (.string f.id) := by simp [World.cell?, hbox1]
    have p1 : wc.cell? ⟨p.blk, 1, none⟩ = some (.string p.id) := by simp [World.cell?, hH1.call p hp]
    go_upto_region 4 with fail
    go_cut [26] (fun v w2 => v = .bool (setsId p.id f.id) ∧ w2 = wc)
    case first =>
      by_cases e1 : emp p.id = true
      · by_cases e2 : emp f.id = true
        · go_wp2_with fail
          go_meet
          case rel => exact ⟨by simp [setsId, e1, e2], rfl⟩
        · have e2' := emp_false e2
          go_wp2_with fail
          go_meet
          case rel => exact ⟨by simp [setsId, e1, e2'], rfl⟩
      · have e1' := emp_false e1
        go_wp2_with fail
        go_meet
        case rel => exact ⟨by simp [setsId, e1'], rfl⟩
    case rest =>
    obtain ⟨rfl, rfl⟩ := hcut
    have hnone : emp p.id = true → byId s1 f.id = none := fun he => by
      have e1 := HS1.out
      subst e1
      exact head_none hH1.nodup hp HB1.out he
    have hone : ∀ q ∈ s1.calls, q.blk = p.blk → q = p := fun q hq e => same_of_nodup hH1.nodup hp hq e
    have HNONE := hide1 hnone
    have HONE := hide1 hone
    have HNM := hide1 hnm1
    clear hnone hone hnm1
    have hA1 := (hH1.labs _ _ hH1.labA).2
    have hpl := (hH1.labs _ _ (hH1.labCall p hp)).2
    have hAp : A ≠ p.blk := fun e => by have h1 := hH1.labA; rw [e, hH1.labCall p hp] at h1; cases h1
    have c9 : wc.cell? ⟨A, 9, none⟩ = some (.map ph1.mp) := by simp [World.cell?, hH1.asm]
    have f9 : wc.frozen? ⟨A, 9, none⟩ = false := by simp [World.frozen?, hH1.asm]
    have f1 : wc.frozen? ⟨p.blk, 1, none⟩ = false := by simp [World.frozen?, hH1.call p hp]
    have q77 : ∀ (w : World) (r : Option Nat), (binOp .eql 77 (.map r) (.map none)).run Try.prog w = .ok (.bool r.isNone) w := fun w r => run_eql_map_nil w _ _ _ r Try.underlying77
    have hmm := @run_makeMap Try.prog
    obtain ⟨S2, hS2⟩ : ∃ S2 : World → Prop, S2 = Stage B A mo fi f ph w p.blk (s1.upd p.blk (idUpd f)) := ⟨_, rfl⟩
    have HS2 := hide1 hS2
    clear hS2
    go_upto_if 26 with fail
    go_cut [] (fun w3 => S2 w3)
    case first =>
      by_cases e1 : emp p.id = true
      · by_cases e2 : emp f.id = true
        · have e3 : setsId p.id f.id = false := by simp [setsId, e1, e2]
          rw [e3]
          clear e3
          go_wp2_with fail
          go_meet
          case rel =>
            rw [HS2.out]
            have hu : s1.upd p.blk (idUpd f) = s1 := upd_self fun q hq e => by
              rw [HONE.out q hq e]
              unfold idUpd
              rw [if_pos e1, (emp_iff _).1 e2, ← (emp_iff _).1 e1]
            rw [hu]
            exact Stage.next hG1 hlN1 hbox1 (Grows.refl _ _) hH1 hp rfl HNM.out
        · have e3 : setsId p.id f.id = true := by simp [setsId, e1, e2]
          rw [e3]
          clear e3
          have hI := hH1.setId hp f.id
          have hu : s1.upd p.blk (fun q => { q with id := f.id }) = s1.upd p.blk (idUpd f) := upd_eq fun q hq e => by
            rw [HONE.out q hq e]
            unfold idUpd
            rw [if_pos e1]
          rw [hu] at hI
          have hgI := Grows.setCell ph1 wc ⟨p.blk, 1, none⟩ (.string f.id) (hH1.labCall p hp)
          have hlook : look ph1.nm f.id = none := by rw [HNM.out, HNONE.out e1]; rfl
          have hpe : ∀ q ∈ s1.calls, q.blk = p.blk → emp q.id = true := fun q hq e => by rw [HONE.out q hq e]; exact e1
          cases hmp : ph1.mp with
          | some m =>
            rw [hmp] at c9
            obtain ⟨W2, hrun, hH2, hG2, -, -⟩ := hI.drew.put hmp hlook p.blk
            have HP2 := hide1 (And.intro hH2 hG2)
            clear hI hH2 hG2
            go_wp2_with fail
            go_region
            go_wp2_with fail
            go_meet
            case rel =>
              obtain ⟨hH2, hG2⟩ := HP2.out
              rw [HS2.out]
              exact Stage.next hG1 hlN1 hbox1 ((hgI.trans (Grows.drew _ _)).trans hG2) hH2 (mem_upd hp rfl) rfl (HNM.out.put hp hpe e2 (HNONE.out e1))
          | none =>
            rw [hmp] at c9
            obtain ⟨hM, hgM⟩ := hI.mkMap hmp
            rw [World.size_setCell, World.setCell_alloc_past _ _ _ _ (by simpa using hA1)] at hM hgM
            obtain ⟨W2, hrun, hH2, hG2, -, -⟩ := hM.drew.put (m := wc.heap.size) rfl hlook p.blk
            have HP2 := hide1 (And.intro hgM (And.intro hH2 hG2))
            clear hI hH2 hG2 hM hgM
            go_wp2_with fail
            go_region
            go_wp2_with fail
            go_meet
            case rel =>
              obtain ⟨hgM, hH2, hG2⟩ := HP2.out
              rw [HS2.out]
              exact Stage.next hG1 hlN1 hbox1 (((hgI.trans hgM).trans (Grows.drew _ _)).trans hG2) hH2 (mem_upd hp rfl) rfl (HNM.out.put hp hpe e2 (HNONE.out e1))
      · have e1' := emp_false e1
        have e3 : setsId p.id f.id = false := by simp [setsId, e1']
        rw [e3]
        clear e3
        go_wp2_with fail
        go_meet
        case rel =>
          rw [HS2.out]
          have hu : s1.upd p.blk (idUpd f) = s1 := upd_self fun q hq e => by
            rw [HONE.out q hq e]
            unfold idUpd
            rw [if_neg e1]
          rw [hu]
          exact Stage.next hG1 hlN1 hbox1 (Grows.refl _ _) hH1 hp rfl HNM.out
    case rest =>
    have hst2 := hcut
    rw [HS2.out] at hst2
    obtain ⟨ph2, p2, hH2, hp2, hpb, hnm2, hG2, hlN2, hbox2⟩ := hst2
    obtain ⟨s2, hs2⟩ : ∃ s2, s2 = s1.upd p.blk (idUpd f) := ⟨_, rfl⟩
    rw [← hs2] at hH2 hp2 hnm2
    have HSS2 := hide1 hs2
    have HPB := hide1 hpb
    have HNM2 := hide1 hnm2
    clear hcut HS2 S2 hs2 hnm2 HNM HNONE HONE c9 f9 f1 q77 hmm hbox1 hlN1 hG1 b2 p1 hA1 hpl hAp
    rw [← hpb]
    clear hpb
    have hpl := (hH2.labs _ _ (hH2.labCall p2 hp2)).2
    have hone : ∀ q ∈ s2.calls, q.blk = p2.blk → q = p2 := fun q hq e => same_of_nodup hH2.nodup hp2 hq e
    have HONE := hide1 hone
    clear hone
    have b3 : wc.cell? ⟨w.heap.size, 3, none⟩ = some (.string f.name) := by simp [World.cell?, hbox2]
    have p2' : wc.cell? ⟨p2.blk, 2, none⟩ = some (.string p2.name) := by simp [World.cell?, hH2.call p2 hp2]
    have f2 : wc.frozen? ⟨p2.blk, 2, none⟩ = false := by simp [World.frozen?, hH2.call p2 hp2]
    obtain ⟨S3, hS3⟩ : ∃ S3 : World → Prop, S3 = Stage B A mo fi f ph w p2.blk (s2.upd p2.blk (nameUpd f)) := ⟨_, rfl⟩
    have HS3 := hide1 hS3
    clear hS3
    go_upto_if 54 with fail
    go_cut [] (fun w3 => S3 w3)
    case first =>
      by_cases e1 : emp p2.name = true
      · have e1' : p2.name.toList.isEmpty = true := e1
        rw [e1']
        clear e1'
        go_wp2_with fail
        go_meet
        case rel =>
          rw [HS3.out]
          have hN := hH2.setName hp2 f.name
          have hu : s2.upd p2.blk (fun q => { q with name := f.name }) = s2.upd p2.blk (nameUpd f) := upd_eq fun q hq e => by
            rw [HONE.out q hq e]
            unfold nameUpd
            rw [if_pos e1]
          rw [hu] at hN
          exact Stage.next hG2 hlN2 hbox2 (Grows.setCell ph2 wc ⟨p2.blk, 2, none⟩ (.string f.name) (hH2.labCall p2 hp2)) hN (mem_upd hp2 rfl) rfl (HNM2.out.turn (fun _ => rfl) (fun _ _ _ => rfl))
      · have e1' := emp_false e1
        rw [e1']
        clear e1'
        go_wp2_with fail
        go_meet
        case rel =>
          rw [HS3.out]
          have hu : s2.upd p2.blk (nameUpd f) = s2 := upd_self fun q hq e => by
            rw [HONE.out q hq e]
            unfold nameUpd
            rw [if_neg e1]
          rw [hu]
          exact Stage.next hG2 hlN2 hbox2 (Grows.refl _ _) hH2 hp2 rfl HNM2.out
    case rest =>
    have hst3 := hcut
    rw [HS3.out] at hst3
    obtain ⟨ph3, p3, hH3, hp3, hpb, hnm3, hG3, hlN3, hbox3⟩ := hst3
    obtain ⟨s3, hs3⟩ : ∃ s3, s3 = s2.upd p2.blk (nameUpd f) := ⟨_, rfl⟩
    rw [← hs3] at hH3 hp3 hnm3
    have HSS3 := hide1 hs3
    have HPB3 := hide1 hpb
    have HNM3 := hide1 hnm3
    clear hcut HS3 S3 hs3 hnm3 HNM2 HONE f2 p2' b3 hbox2 hlN2 hG2 hpl
    rw [← hpb]
    clear hpb
    have hpl := (hH3.labs _ _ (hH3.labCall p3 hp3)).2
    have hone : ∀ q ∈ s3.calls, q.blk = p3.blk → q = p3 := fun q hq e => same_of_nodup hH3.nodup hp3 hq e
    have HONE := hide1 hone
    clear hone
    have b4 : wc.cell? ⟨w.heap.size, 4, none⟩ = some (.string f.args) := by simp [World.cell?, hbox3]
    have p3' : wc.cell? ⟨p3.blk, 3, none⟩ = some (ph3.av p3.blk) := by simp [World.cell?, hH3.call p3 hp3]
    have f3 : wc.frozen? ⟨p3.blk, 3, none⟩ = false := by simp [World.frozen?, hH3.call p3 hp3]
    obtain ⟨i0, hi0, hz0, hzs, hzb⟩ := info5
    have hargs : p3.args.size + f.args.size ≤ 1000000000 := by
      have e3 := HSS3.out
      have e2 := HSS2.out
      have e1 := HS1.out
      rw [e3] at hp3
      obtain ⟨q2, hq2, e⟩ := upd_mem hp3
      rw [e2] at hq2
      obtain ⟨q1, hq1, e'⟩ := upd_mem hq2
      have ha : p3.args = q1.args := by
        rw [e, e']
        split <;> split <;> rfl
      rw [ha]
      rw [e1] at hq1
      rcases mem_at_args hq1 with hq | hq
      · exact hsz q1 hq
      · rw [hq]; show 0 + f.args.size ≤ _; omega
    obtain ⟨v', W, hr, ho, hg, hfr⟩ := run_append_src (P := Try.prog) wc.drew B 48 9 48 5 i0 (.int .u8 0) 1 1 Try.underlying48 hi0 hz0 hzs hzb rfl (ph3.av p3.blk) p3.args.size (byteCells p3.args) (hH3.drew.args p3 hp3) (.string f.args) f.args.size (byteCells f.args)
      (Src.ofString _ Try.underlying9 f.args) (by unfold maxLen; omega) (by omega) (by have := (hH3.labs _ _ hH3.labA); simp; omega)
    have hbW : W.heap[p3.blk]? = wc.heap[p3.blk]? := hg.block p3.blk (by simpa using hpl) (fun e => by have h1 := hH3.labArgs p3 hp3 p3.blk e.symm; rw [hH3.labCall p3 hp3] at h1; simp only [Option.some.injEq] at h1; omega)
    have cW : W.cell? ⟨p3.blk, 3, none⟩ = some (ph3.av p3.blk) := by rw [World.cell?_of_block (w := wc) hbW]; exact p3'
    have fW : W.frozen? ⟨p3.blk, 3, none⟩ = false := by rw [World.frozen?_of_block (w := wc) hbW]; exact f3
    have HX := hide1 (hH3.drew.setArgs hp3 (fun q hq e => by rw [HONE.out q hq e]) hg hfr ho)
    obtain ⟨sa, sm, sc, hv'⟩ := ownsRow_slice ho
    rw [hv'] at hr HX
    clear ho hg hfr hv' hbW
    go_wp2
    go_region_law (refine step_append_run rfl _ _ 48 9 rfl _ _ (by simp [Act.eval]) (by simp [Act.eval]) hr ?_)
    all_goals
      go_wp2
      go_end0
      obtain ⟨hH4, hG4⟩ := HX.out
      have e3 := HSS3.out
      have e2 := HSS2.out
      have e1 := HS1.out
      have hst : s3.upd p3.blk (argUpd f) = addF N s f := by
        unfold addF
        rw [e3, e2, e1, HPB3.out, HPB.out, HB1.out]
      have hH4' : Holds B A mo fi (s3.upd p3.blk (argUpd f)) _ _ := hH4
      rw [hst] at hH4'
      exact ⟨N, _, rfl, hN, hH4', by rw [← hst]; exact HNM3.out.turn (fun _ => rfl) (fun _ _ _ => rfl), hG3.trans ((Grows.drew _ _).trans hG4)⟩

end Go.Proofs.Qxb6600954a
