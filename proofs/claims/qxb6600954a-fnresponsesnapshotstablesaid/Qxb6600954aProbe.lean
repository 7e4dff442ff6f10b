/-
  Seat b6600954a: the plain law of law 4 (what callAt does at a probe), zzBytes 19, and pointers compared.
-/
import Derived.Test.Qxb6600954aPair
import Derived.Test.Qxb6600954aZz
import Derived.LaidEqlPtr
namespace Go.Proofs.Qxb6600954a
open Go.RowKit

/-- how many of the first k calls lie at an index up to idx -/
def cntLe (cs : List MC) (idx : Int) (k : Nat) : Nat := (cs.take k).countP fun c => decide (c.index ≤ idx)

theorem ordK_perm (ix : Nat → Int) : ∀ n, (ordK ix n).Perm (List.range n)
  | 0 => List.Perm.refl _
  | n + 1 => by
    have ih := ordK_perm ix n
    rw [ordK, insK, List.range_succ]
    refine List.perm_middle.trans ?_
    rw [List.takeWhile_append_dropWhile]
    exact (List.Perm.cons n ih).trans (List.perm_append_singleton n (List.range n)).symm

theorem range_cget (cs : List MC) : (List.range cs.length).map (cget cs) = cs := by
  apply List.ext_getElem?
  intro i
  rw [List.getElem?_map]
  by_cases h : i < cs.length
  · rw [List.getElem?_range h, get_cget h]; rfl
  · rw [List.getElem?_eq_none (by simp; omega), List.getElem?_eq_none (by omega)]; rfl

theorem place_count {cs : List Call} (hs : Sorted cs) (idx : Int) : place cs idx = cs.countP fun c => decide (c.index ≤ idx) := by
  have h := congrArg (List.countP fun c : Call => decide (c.index ≤ idx)) (List.take_append_drop (place cs idx) cs)
  rw [List.countP_append] at h
  have h1 : (cs.take (place cs idx)).countP (fun c => decide (c.index ≤ idx)) = (cs.take (place cs idx)).length := List.countP_eq_length.2 fun a ha => by
    obtain ⟨j, hj⟩ := List.getElem?_of_mem ha
    rw [List.getElem?_take] at hj
    split at hj
    · rename_i hlt
      exact decide_eq_true (place_lo idx cs j a hj hlt)
    · cases hj
  have h2 : (cs.drop (place cs idx)).countP (fun c => decide (c.index ≤ idx)) = 0 := List.countP_eq_zero.2 fun a ha => by
    obtain ⟨j, hj⟩ := List.getElem?_of_mem ha
    rw [List.getElem?_drop] at hj
    have := place_hi idx cs hs _ a hj (by omega)
    simp
    omega
  have hle := place_le cs idx
  rw [h1, h2, List.length_take] at h
  omega

theorem Match.count {s : St} {ms : MSt} (h : Match s ms) (hs : Sorted s.calls) (idx : Int) : cntLe ms.calls idx ms.calls.length = place s.calls idx := by
  rw [place_count hs]
  have h1 : (s.calls.map core).countP (fun c => decide (c.index ≤ idx)) = s.calls.countP fun c => decide (c.index ≤ idx) := by
    rw [List.countP_map]; rfl
  rw [← h1, h.calls]
  have hp := ((ordK_perm (mix ms.calls) ms.calls.length).map (cget ms.calls)).countP_eq (fun c : MC => decide (c.index ≤ idx))
  rw [range_cget] at hp
  unfold cntLe
  rw [List.take_length]
  exact hp.symm

theorem cntLe_le (cs : List MC) (idx : Int) (k : Nat) : cntLe cs idx k ≤ k := by
  unfold cntLe
  have := List.countP_le_length (p := fun c : MC => decide (c.index ≤ idx)) (l := cs.take k)
  rw [List.length_take] at this
  omega

theorem cntLe_succ {cs : List MC} {k : Nat} {c : MC} (h : cs[k]? = some c) (idx : Int) : cntLe cs idx (k + 1) = cntLe cs idx k + if c.index ≤ idx then 1 else 0 := by
  unfold cntLe
  rw [List.take_add_one, h, List.countP_append]
  simp [List.countP_cons]

/-- the two cases of callAt, in the model's words -/
def ProbeJ (s : St) (ms : MSt) (f : Frag) (la : Int) (j i : Nat) (p : Call) : Prop :=
  la = (j : Int) ∧ ms.calls[j]? = some (core p) ∧ s.calls[i]? = some p ∧ place s.calls (resolve s f) = i + 1 ∧ p.index = resolve s f ∧ (emp f.id = true ∨ emp p.id = true) ∧ cont s f = some p
def ProbeN (s : St) (ms : MSt) (f : Frag) (la : Int) : Prop :=
  cont s f = none ∧ (la < 0 ∨ ∃ (j : Nat) (c : MC), la = (j : Int) ∧ ms.calls[j]? = some c ∧ emp f.id = false ∧ emp c.id = false)

theorem Match.probe {s : St} {ms : MSt} (h : Match s ms) (hs : Sorted s.calls) (f : Frag) {la : Int} (hla : la = mLastTo ms.calls (resolve s f) ms.calls.length) : (∃ j i p, ProbeJ s ms f la j i p) ∨ ProbeN s ms f la := by
  by_cases hneg : la < 0
  · refine .inr ⟨?_, .inl hneg⟩
    cases hx : cont s f with
    | none => rfl
    | some q =>
      obtain ⟨q1, q2, _⟩ := cont_mem hx
      obtain ⟨i, hi⟩ := List.getElem?_of_mem q1
      obtain ⟨m, m1, m2⟩ := h.at hi
      have := mLastTo_neg _ _ _ (hla ▸ hneg) m _ (List.getElem?_eq_some_iff.1 m2).1 m2
      exact absurd (by show q.index = _; rw [q2]) this
  · obtain ⟨j, rfl⟩ : ∃ j : Nat, la = j := ⟨la.toNat, by omega⟩
    obtain ⟨i, p, g1, g2, g3, g4, g5⟩ := h.last hs hla.symm
    have hct := cont_of g1 g2 g5
    by_cases hc : emp f.id = true ∨ emp p.id = true
    · rw [if_pos hc] at hct
      exact .inl ⟨j, i, p, rfl, g4, g2, g1, g5, hc, hct⟩
    · rw [if_neg hc] at hct
      refine .inr ⟨hct, .inr ⟨j, core p, rfl, g4, ?_, ?_⟩⟩
      · cases e : emp f.id with
        | false => rfl
        | true => exact absurd (.inl e) hc
      · cases e : emp (core p).id with
        | false => rfl
        | true => exact absurd (.inr e) hc

/-! ### pointers to calls compared -/

theorem info84 : ∃ i te, Try.prog.underlying 57 = some (.pointer te) ∧ Try.prog.info? te = some i ∧ i.size ≠ 0 := by
  have h : ((Try.prog.underlying 57).bind fun u => match u with | .pointer te => (Try.prog.info? te).map fun i => (i.size != 0) | _ => none) = some true := by kernel_rfl
  cases hu : Try.prog.underlying 57 with
  | none => rw [hu] at h; cases h
  | some u =>
    rw [hu] at h
    cases u with
    | pointer te =>
      simp only [Option.bind_some] at h
      obtain ⟨i, hi, he⟩ := Option.map_eq_some_iff.1 h
      exact ⟨i, te, rfl, hi, by simpa using he⟩
    | _ => cases h

theorem neq_same (w : World) (a : Addr) : (binOp .neq 57 (.pointer (some a)) (.pointer (some a))).run Try.prog w = .ok (.bool false) w := by
  obtain ⟨i, te, h1, h2, h3⟩ := info84
  have h : ∀ d : Nat, (Op.equalIn (d + 1) 57 (.pointer (some a)) (.pointer (some a))).run Try.prog w = .ok true w := fun d => by
    simp [Op.equalIn, run_underlying h1, sizeOf, typeInfo, h2, run_sameAddr_same]
  simp only [binOp]
  simp [Op.equal, Op.maxDepth, h 9999]

theorem neq_other {w : World} {a b : Addr} {ca cb : Array Value} {ta tb : TypeId} (hne : a ≠ b) (ha : w.heap[a.block]? = some (.cells ca ta)) (hb : w.heap[b.block]? = some (.cells cb tb)) :
    (binOp .neq 57 (.pointer (some a)) (.pointer (some b))).run Try.prog w = .ok (.bool true) w := by
  obtain ⟨i, te, h1, h2, h3⟩ := info84
  have h : ∀ d : Nat, (Op.equalIn (d + 1) 57 (.pointer (some a)) (.pointer (some b))).run Try.prog w = .ok false w := fun d => by
    simp [Op.equalIn, run_underlying h1, sizeOf, typeInfo, h2, h3, run_sameAddr_other w hne ha hb]
  simp only [binOp]
  simp [Op.equal, Op.maxDepth, h 9999]

/-! ### zzBytes 19 -/

def ZzPostB (n : Nat) (W : World) (e : Ending) (w' : World) : Prop := ∃ r, e = .returned (.bool r) ∧ (r = true → n ≤ 1048576) ∧ w' = W
theorem zzb_no {n : Nat} {w : World} : ZzPostB n w (.returned (.bool false)) w := ⟨false, rfl, (fun h => by cases h), rfl⟩
theorem zzb_yes {n : Nat} {w : World} (h : n ≤ 1048576) : ZzPostB n w (.returned (.bool true)) w := ⟨true, rfl, fun _ => h, rfl⟩

set_option maxRecDepth 100000 in
set_option maxHeartbeats 2000000 in
theorem zzBytes19_any (a : Option Addr) (cap : Nat) (fs : List Frag) (pr : Frag) (w : World) (hr : IsFrags w a fs) (hl : fs.length ≤ 9223372036854775807) :
    Calls Try.prog 19 #[.slice a fs.length cap, .agg pr.cells] w (ZzPostB (fs.length + total fs + (pr.id.size + pr.name.size + pr.args.size)) (w.alloc (.cells pr.cells 36))) := by
  by_cases hn : 1048576 < (fs.length : Int)
  · go_enter Try.func19, Try.ntmps19
    go_wp2
    go_ret
    exact zzb_no
  · go_enter Try.func19, Try.ntmps19
    go_wp2
    go_loop [5, 6] (fun n i => ∃ k : Nat, k ≤ fs.length ∧ i = .int .i64 k ∧ n = .int .i64 (fs.length + total (fs.take k)) ∧ fs.length + total (fs.take k) ≤ 1048576) (fun _ i => fs.length - (intOf i).toNat)
    case atStart => exact ⟨0, Nat.zero_le _, rfl, by simp [total], by simp [total]; omega⟩
    case round =>
      obtain ⟨k, hk, rfl, rfl, hbd⟩ := hrel
      by_cases hlt : k < fs.length
      · obtain ⟨b, off, rfl, hb, hr⟩ := hr.at hlt
        obtain ⟨f, hf⟩ : ∃ f, fs[k]? = some f := ⟨_, List.getElem?_eq_getElem hlt⟩
        obtain ⟨c0, c1, c2, c3, c4⟩ := hr k _ hf
        have HT : Hid (total (fs.take (k + 1)) = total (fs.take k) + (f.id.size + f.name.size + f.args.size)) := total_take_succ fs k f hf
        clear hf
        go_wp2
        iterate 6
          · go_ret
            exact zzb_no
        go_round
        case rel => exact ⟨k + 1, by omega, by go_num, by rw [HT.out]; go_num, by rw [HT.out]; omega⟩
        case measure => simp [intOf]; omega
      · rw [List.take_of_length_le (by omega)] at hbd ⊢
        go_wp2
        iterate 6
          · go_ret
            exact zzb_no
        go_ret
        exact zzb_yes (by omega)

end Go.Proofs.Qxb6600954a
