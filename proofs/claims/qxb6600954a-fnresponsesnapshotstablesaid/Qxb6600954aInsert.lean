/-
  Seat b6600954a: slices.Insert at []*partialCall (function 44), one element: the result is a row of the caller's own with the element laid in at i. The walks are the library's own text; after the guide's SlicesInsert.lean and SlicesInsertGrow.lean.
-/
import Derived.Test.Qxb6600954aRows
import Derived.Test.Qxb6600954aMem
import Derived.WalkLawsBesides
import Derived.Laws.Externs
namespace Go.Proofs.Qxb6600954a
open Go.RowKit Go.Lib

theorem info57 : ∃ i, Try.prog.info? 57 = some i ∧ i.zero = some (.pointer none) ∧ i.size = 1 ∧ i.bytes = 8 := by
  have h : (Try.prog.info? 57).map (fun i => (i.zero, i.size, i.bytes)) = some (some (.pointer none), 1, 8) := by kernel_rfl
  obtain ⟨i, hi, he⟩ := Option.map_eq_some_iff.1 h
  simp only [Prod.mk.injEq] at he
  exact ⟨i, hi, he.1, he.2.1, he.2.2⟩

/-- what Insert hands back -/
def InsPost (B : Nat) (n i : Nat) (xs : List Value) (x : Value) (v : Value) (w : World) (e : Ending) (w' : World) : Prop :=
  ∃ v', e = .returned v' ∧ w'.ownsRow B 57 1 v' (n + 1) (xs.take i ++ x :: xs.drop i) ∧ w.grownBy w' v.ownBlock ∧ FreshRow w v v'

theorem cellOne {w : World} {vb : Nat} {x : Value} (hv : w.heap[vb]? = some (.cells #[x] 57)) : w.cell? ⟨vb, 0, none⟩ = some x := by
  simp [World.cell?, hv]

theorem srcOne {w : World} {vb : Nat} {x : Value} (hv : w.heap[vb]? = some (.cells #[x] 57)) (hx : x.oneCell' = true) : Src Try.prog 1 70 (.slice (some ⟨vb, 0, none⟩) 1 1) 1 [x] w :=
  Src.ofSlice w Try.underlying70 ⟨vb, 0, none⟩ 1 1 [x] rfl (fun j u hj => by
    match j, hj with
    | 0, hj => simp at hj; subst hj; exact cellOne hv) (by simpa using hx)

set_option maxRecDepth 100000 in
set_option maxHeartbeats 1000000 in
theorem insert_end (B n vb : Nat) (xs : List Value) (x v : Value) (w : World) (hown : w.ownsRow B 57 1 v n xs) (hB : B ≤ w.heap.size) (hn : n ≤ 1000000)
    (hv : w.heap[vb]? = some (.cells #[x] 57)) (hx : x.oneCell' = true) :
    Calls Try.prog 44 #[v, .int .i64 n, .slice (some ⟨vb, 0, none⟩) 1 1] w (InsPost B n n xs x v w) := by
  obtain ⟨i0, hi0, hz0, hzs, hzb⟩ := info57
  have hxl : xs.length = n := by simpa using hown.1
  obtain ⟨v', w', hr, h1, h2, h3⟩ := run_append_src (P := Try.prog) w B 70 70 70 57 i0 (.pointer none) 1 8 Try.underlying70 hi0 hz0 hzs hzb rfl v n xs hown _ 1 [x] (srcOne hv hx) (by unfold maxLen; omega) (by omega) hB
  have HP : InsPost B n n xs x v w (.returned v') w' := ⟨v', rfl, by rw [List.take_of_length_le (by omega), List.drop_of_length_le (by omega)]; exact h1, h2, h3⟩
  clear h1 h2 h3
  rcases hown.2 with ⟨rfl, rfl⟩ | ⟨g, cap, cur, rfl, hbg, hg, hnc, hcm, hcs, htake⟩
  · go_enter Try.func44, Try.ntmps44
    go_wp2_with (at_builtin; refine Lib.wpList_append_run _ rfl _ _ _ _ rfl _ _ rfl rfl _ _ hr ?_)
    go_ret
    exact HP
  · unfold maxLen at hcm
    go_enter Try.func44, Try.ntmps44
    go_wp2_with (at_builtin; refine Lib.wpList_append_run _ rfl _ _ _ _ rfl _ _ rfl rfl _ _ hr ?_)
    all_goals (go_ret; exact HP)


theorem size57 : (Try.prog.info? 57).map (·.size) = some 1 := by kernel_rfl

/-- the row behind the two copies of the arm with room -/
theorem shift_row (cur xs : List Value) (x : Value) (i n cap : Nat) (hi : i < n) (hl : cur.length = cap) (hn : n + 1 ≤ cap) (htake : cur.take n = xs) :
    ((cur.take (i + 1) ++ xs.drop i ++ cur.drop (n + 1)).take i ++ [x] ++ (cur.take (i + 1) ++ xs.drop i ++ cur.drop (n + 1)).drop (i + 1)).take (n + 1) = xs.take i ++ x :: xs.drop i := by
  subst htake
  apply List.ext_getElem?
  intro j
  simp only [List.getElem?_take, List.getElem?_append, List.length_append, List.length_take, List.length_drop, List.getElem?_drop, List.length_cons, List.length_nil, List.getElem?_cons]
  grind

set_option maxRecDepth 100000 in
set_option maxHeartbeats 1000000 in
theorem insert_shift (B g i n cap vb : Nat) (cur : Array Value) (xs : List Value) (x : Value) (w : World) (hbg : B ≤ g) (hg : w.heap[g]? = some (.cells cur 57 (0, 0))) (hnc : n + 1 ≤ cap) (hcm : cap ≤ maxLen) (hcs : cur.size = cap) (htake : cur.toList.take n = xs)
    (hi : i < n) (h1 : ∀ u ∈ xs, u.oneCell' = true) (hv : w.heap[vb]? = some (.cells #[x] 57)) (hx : x.oneCell' = true) (hne : vb ≠ g) :
    Calls Try.prog 44 #[.slice (some ⟨g, 0, none⟩) n cap, .int .i64 i, .slice (some ⟨vb, 0, none⟩) 1 1] w (InsPost B n i xs x (.slice (some ⟨g, 0, none⟩) n cap) w) := by
  have hxl : xs.length = n := by rw [← htake, List.length_take, Array.length_toList]; omega
  have hdl : (xs.drop i).length = n - i := by rw [List.length_drop, hxl]
  have hcell : ∀ j v, xs[j]? = some v → w.cell? ⟨g, j, none⟩ = some v := fun j v hj => by
    rw [← htake, List.getElem?_take] at hj
    split at hj
    · simp [World.cell?, hg]; simpa using hj
    · cases hj
  have hov : ∀ lb cb, (callFunc 45 #[.slice (some ⟨vb, 0, none⟩) 1 1, .slice (some ⟨g, i + 1, none⟩) lb cb]).run Try.prog w = .ok (.value (.bool false)) w := fun lb cb => by
    rw [run_callFunc_extern Try.func45 (by kernel_rfl) (by kernel_rfl) (by kernel_rfl) (e := Extern.SlicesOverlaps.overlaps #[70, 70] #[4]) (by kernel_rfl),
      Lib.run_overlaps_apart w 70 4 57 Try.underlying70 1 Try.sizeOf57 ⟨vb, 0, none⟩ ⟨g, i + 1, none⟩ 1 1 lb cb hne 57 57 1 cap (by simp [World.shape?, hv]) (by simp [World.shape?, hg, hcs]) (by omega) (by simp [World.frozen?, hv]) (by simp [World.frozen?, hv])]
    rfl
  have hcp1 : ∀ ty dc sc, (Builtin.copy_ #[70, 70] ty #[.slice (some ⟨g, i + 1, none⟩) (n + 1 - (i + 1)) dc, .slice (some ⟨g, i, none⟩) (n + 1 - i) sc]).run Try.prog w.drew = .ok (goInt (xs.drop i).length) (w.drew.setRow g (cur.toList.take (i + 1) ++ xs.drop i ++ cur.toList.drop (i + 1 + (xs.drop i).length)).toArray) := fun ty dc sc =>
    run_copy_row Try.prog w.drew 70 70 ty 57 g (i + 1) (n + 1 - (i + 1)) dc ⟨g, i, none⟩ (n + 1 - i) sc cur 57 (xs.drop i) Try.underlying70 size57 hg (by rw [hdl]; simp only [Nat.min_def]; split <;> omega)
      (fun j v hj => by rw [Addr.add_lit]; exact hcell (i + j) v (by rwa [List.getElem?_drop] at hj)) (by omega) (fun v hv => h1 v (List.mem_of_mem_drop hv))
  rw [hdl, show i + 1 + (n - i) = n + 1 by omega, show n + 1 - (i + 1) = n - i by omega] at hcp1
  obtain ⟨C1, hC1⟩ : ∃ C : Array Value, C = (cur.toList.take (i + 1) ++ xs.drop i ++ cur.toList.drop (n + 1)).toArray := ⟨_, rfl⟩
  rw [← hC1] at hcp1
  have hC1s : C1.size = cap := by
    rw [hC1]
    simp only [List.size_toArray, List.length_append, List.length_take, List.length_drop, Array.length_toList]
    omega
  obtain ⟨W1, hW1⟩ : ∃ W, W = w.drew.setRow g C1 := ⟨_, rfl⟩
  rw [← hW1] at hcp1
  have hgW : W1.heap[g]? = some (.cells C1 57 (0, 0)) := by rw [hW1]; exact setRow_heap w.drew g cur C1 57 (0, 0) hg
  have hvW : W1.heap[vb]? = some (.cells #[x] 57) := by rw [hW1, setRow_other w.drew g vb C1 hne]; exact hv
  have hcp2 : ∀ ty dc, (Builtin.copy_ #[70, 70] ty #[.slice (some ⟨g, i, none⟩) (n + 1 - i) dc, .slice (some ⟨vb, 0, none⟩) 1 1]).run Try.prog W1 = .ok (goInt [x].length) (W1.setRow g (C1.toList.take i ++ [x] ++ C1.toList.drop (i + [x].length)).toArray) := fun ty dc =>
    run_copy_row Try.prog W1 70 70 ty 57 g i (n + 1 - i) dc ⟨vb, 0, none⟩ 1 1 C1 57 [x] Try.underlying70 size57 hgW (by simp only [Nat.min_def, List.length_cons, List.length_nil]; split <;> omega)
      (fun j v hj => by
        match j, hj with
        | 0, hj => simp at hj; subst hj; exact cellOne hvW) (by simp; omega) (by simpa using hx)
  obtain ⟨W2, hW2⟩ : ∃ W, W = W1.setRow g (C1.toList.take i ++ [x] ++ C1.toList.drop (i + [x].length)).toArray := ⟨_, rfl⟩
  rw [← hW2] at hcp2
  have HP : InsPost B n i xs x (.slice (some ⟨g, 0, none⟩) n cap) w (.returned (.slice (some ⟨g, 0, none⟩) (n + 1) cap)) W2 := by
    refine ⟨_, rfl, ⟨by simp; omega, .inr ⟨g, cap, (C1.toList.take i ++ [x] ++ C1.toList.drop (i + [x].length)).toArray, rfl, hbg, ?_, hnc, hcm, ?_, ?_⟩⟩, ⟨?_, ?_, ?_, ?_, fun k _ hk => ?_⟩, fun k hk => .inl (by simpa [Value.ownBlock] using hk)⟩
    · rw [hW2]; exact setRow_heap W1 g C1 _ 57 (0, 0) hgW
    · simp only [List.size_toArray, List.length_append, List.length_take, List.length_drop, Array.length_toList, List.length_cons, List.length_nil]; omega
    · rw [hC1]
      simpa using shift_row cur.toList xs x i n cap hi (by simpa using hcs) hnc htake
    · rw [hW2, hW1]; rfl
    · rw [hW2, hW1]; rfl
    · rw [hW2, hW1]; rfl
    · rw [hW2, hW1]; simp
    · have hk' : k ≠ g := fun e => hk (by simp [Value.ownBlock, e])
      rw [hW2, setRow_other _ _ _ _ hk', hW1, setRow_other _ _ _ _ hk']
      rfl
  clear hW1 hW2 hC1
  unfold maxLen at hcm
  have hz2 : ¬ ((i : Int) = (n : Int)) := by omega
  have hw1 : IntKind.i64.wrap ((i : Int) + 1) = (i : Int) + 1 := by rw [IntKind.wrap_i64]; omega
  have hb1 : (0 : Int) ≤ (i : Int) + 1 := by omega
  have hin : i ≤ n := by omega
  have htn : ((i : Int) + 1).toNat = i + 1 := by omega
  have hb2 : ¬ (cap = i + 1) := by omega
  have hb3 : (i : Int) ≤ (n : Int) + 1 := by omega
  have hb4 : ¬ (cap = i) := by omega
  go_enter Try.func44, Try.ntmps44
  go_wp2_with (simp only [hov])
  go_region_law (refine step_copy_run rfl _ _ 70 70 rfl _ _ (by simp [Act.eval, Act.put]) (by simp [Act.eval, Act.put]) (hcp1 _ _ _) ?_)
  go_wp2_with (at_builtin; refine wpList_copy_run _ rfl _ _ 70 70 rfl _ _ rfl rfl (hcp2 _ _) ?_)
  go_ret
  exact HP


/-- the row behind the append of zeros and the two copies of the arm without room -/
theorem grow_row (xs Z : List Value) (x : Value) (i n : Nat) (hi : i < n) (hl : xs.length = n) (hZ : n + 1 - i ≤ Z.length) :
    (((xs.take i ++ Z).take i ++ [x] ++ (xs.take i ++ Z).drop (i + 1)).take (i + 1) ++ xs.drop i ++ ((xs.take i ++ Z).take i ++ [x] ++ (xs.take i ++ Z).drop (i + 1)).drop (n + 1)).take (n + 1) = xs.take i ++ x :: xs.drop i := by
  apply List.ext_getElem?
  intro j
  simp only [List.getElem?_take, List.getElem?_append, List.length_append, List.length_take, List.length_drop, List.getElem?_drop, List.length_cons, List.length_nil, List.getElem?_cons]
  grind

set_option maxRecDepth 100000 in
set_option maxHeartbeats 1000000 in
theorem insert_grow (B g i n vb : Nat) (cur : Array Value) (xs : List Value) (x : Value) (w : World) (hB : B ≤ w.heap.size) (hg : w.heap[g]? = some (.cells cur 57 (0, 0))) (hn : n ≤ 1000000) (hcs : cur.size = n) (htake : cur.toList.take n = xs)
    (hi : i < n) (h1 : ∀ u ∈ xs, u.oneCell' = true) (hv : w.heap[vb]? = some (.cells #[x] 57)) (hx : x.oneCell' = true) :
    Calls Try.prog 44 #[.slice (some ⟨g, 0, none⟩) n n, .int .i64 i, .slice (some ⟨vb, 0, none⟩) 1 1] w (InsPost B n i xs x (.slice (some ⟨g, 0, none⟩) n n) w) := by
  obtain ⟨i0, hi0, hz0, hzs, hzb⟩ := info57
  have hxl : xs.length = n := by rw [← htake, List.length_take, Array.length_toList]; omega
  have hdl : (xs.drop i).length = n - i := by rw [List.length_drop, hxl]
  have hgl : g < w.heap.size := (Array.getElem?_eq_some_iff.1 hg).1
  have hvl : vb < w.heap.size := (Array.getElem?_eq_some_iff.1 hv).1
  have hcell : ∀ j v, xs[j]? = some v → w.cell? ⟨g, j, none⟩ = some v := fun j v hj => by
    rw [← htake, List.getElem?_take] at hj
    split at hj
    · simp [World.cell?, hg]; simpa using hj
    · cases hj
  have hold : (Builtin.firstCells i0.size i (.slice (some ⟨g, 0, none⟩) i n)).run Try.prog w.drew = .ok (xs.take i).toArray w.drew := by
    rw [hzs]
    exact run_firstCells_some w.drew 1 i ⟨g, 0, none⟩ i n (xs.take i) (by rw [List.length_take]; omega) (fun j v hj => by
      rw [Addr.add_lit, Nat.zero_add]
      rw [List.getElem?_take] at hj
      split at hj
      · exact hcell j v hj
      · cases hj)
  obtain ⟨G, hG⟩ : ∃ G, G = grownCap w (n + 1) n 57 := ⟨_, rfl⟩
  have hGn : n + 1 ≤ G := by rw [hG]; exact grownCap_ge w _ _ _
  have hGm : G ≤ maxLen := by rw [hG]; exact grownCap_le_maxLen w (n + 1) n 57 (by unfold maxLen; omega)
  obtain ⟨Z, hZ⟩ : ∃ Z : List Value, Z = (Builtin.zeroCells (Value.pointer none).cells (n + 1 - i)).toList ++ (Builtin.zeroCells (Value.pointer none).cells (G - (n + 1))).toList := ⟨_, rfl⟩
  have hZl : Z.length = G - i := by
    rw [hZ, List.length_append, Array.length_toList, Array.length_toList, size_zeroCells, size_zeroCells]
    show (n + 1 - i) * 1 + (G - (n + 1)) * 1 = G - i
    omega
  obtain ⟨ROW, hROW⟩ : ∃ ROW : Array Value, ROW = (xs.take i ++ Z).toArray := ⟨_, rfl⟩
  have hRs : ROW.size = G := by rw [hROW, List.size_toArray, List.length_append, List.length_take, hZl]; omega
  have hRl : ROW.toList = xs.take i ++ Z := by rw [hROW]
  have hrz : ∀ ty, (Builtin.append_ #[70, 3] ty #[.slice (some ⟨g, 0, none⟩) i n, .int .i64 ((n : Int) + 1 - (i : Int))]).run Try.prog w =
      .ok (.slice (some ⟨w.heap.size, 0, none⟩) (n + 1) G) (w.drew.alloc (.cells ROW 57)) := fun ty => by
    have h := Lib.run_append_grow_zeros w 70 3 ty 57 i0 _ .i64 .i64 Try.underlying70 Try.underlying3 hi0 hz0 (some ⟨g, 0, none⟩) i n (xs.take i) hold (n + 1 - i) (by omega) (by omega) (by omega) (by omega) (by rw [hzb]; omega) (by rw [hzb, show i + (n + 1 - i) = n + 1 by omega]; exact growslice_fits (by omega) (by omega))
    rw [show i + (n + 1 - i) = n + 1 by omega, ← hG] at h
    rw [show (n : Int) + 1 - (i : Int) = ((n + 1 - i : Nat) : Int) by omega, h, hROW, hZ]
    congr 4
    apply Array.ext'
    simp
  obtain ⟨N, hN⟩ : ∃ N, N = w.heap.size := ⟨_, rfl⟩
  obtain ⟨W1, hW1⟩ : ∃ W, W = w.drew.alloc (.cells ROW 57) := ⟨_, rfl⟩
  rw [← hW1, ← hN] at hrz
  have hNW : W1.heap[N]? = some (.cells ROW 57 (0, 0)) := by rw [hW1, hN]; exact heap_alloc_new w.drew _
  have hvW : W1.heap[vb]? = some (.cells #[x] 57) := by rw [hW1, Below.heap_alloc w.drew _ vb hvl]; exact hv
  have hcpA : ∀ ty dc, (Builtin.copy_ #[70, 70] ty #[.slice (some ⟨N, i, none⟩) (n + 1 - i) dc, .slice (some ⟨vb, 0, none⟩) 1 1]).run Try.prog W1 = .ok (goInt [x].length) (W1.setRow N (ROW.toList.take i ++ [x] ++ ROW.toList.drop (i + [x].length)).toArray) := fun ty dc =>
    run_copy_row Try.prog W1 70 70 ty 57 N i (n + 1 - i) dc ⟨vb, 0, none⟩ 1 1 ROW 57 [x] Try.underlying70 size57 hNW (by simp only [Nat.min_def, List.length_cons, List.length_nil]; split <;> omega)
      (fun j v hj => by
        match j, hj with
        | 0, hj => simp at hj; subst hj; exact cellOne hvW) (by simp; omega) (by simpa using hx)
  obtain ⟨R2, hR2⟩ : ∃ R : Array Value, R = (ROW.toList.take i ++ [x] ++ ROW.toList.drop (i + [x].length)).toArray := ⟨_, rfl⟩
  have hR2s : R2.size = G := by
    rw [hR2]
    simp only [List.size_toArray, List.length_append, List.length_take, List.length_drop, Array.length_toList, List.length_cons, List.length_nil]; omega
  obtain ⟨W2, hW2⟩ : ∃ W, W = W1.setRow N R2 := ⟨_, rfl⟩
  rw [← hR2, ← hW2] at hcpA
  have hNW2 : W2.heap[N]? = some (.cells R2 57 (0, 0)) := by rw [hW2]; exact setRow_heap W1 N ROW R2 57 (0, 0) hNW
  have hgW2 : ∀ k, k < w.heap.size → W2.heap[k]? = w.heap[k]? := fun k hk => by
    rw [hW2, setRow_other _ _ _ _ (by omega), hW1, Below.heap_alloc w.drew _ k hk]; rfl
  have hcpB : ∀ ty dc sc, (Builtin.copy_ #[70, 70] ty #[.slice (some ⟨N, i + 1, none⟩) (n - i) dc, .slice (some ⟨g, i, none⟩) (n - i) sc]).run Try.prog W2.drew = .ok (goInt (xs.drop i).length) (W2.drew.setRow N (R2.toList.take (i + 1) ++ xs.drop i ++ R2.toList.drop (i + 1 + (xs.drop i).length)).toArray) := fun ty dc sc =>
    run_copy_row Try.prog W2.drew 70 70 ty 57 N (i + 1) (n - i) dc ⟨g, i, none⟩ (n - i) sc R2 57 (xs.drop i) Try.underlying70 size57 hNW2 (by rw [hdl]; simp only [Nat.min_def]; split <;> omega)
      (fun j v hj => by
        rw [Addr.add_lit, World.cell?_drew, World.cell?_of_block (w := w) (hgW2 g hgl)]
        exact hcell (i + j) v (by rwa [List.getElem?_drop] at hj)) (by omega) (fun v hv => h1 v (List.mem_of_mem_drop hv))
  rw [hdl, show i + 1 + (n - i) = n + 1 by omega] at hcpB
  obtain ⟨R3, hR3⟩ : ∃ R : Array Value, R = (R2.toList.take (i + 1) ++ xs.drop i ++ R2.toList.drop (n + 1)).toArray := ⟨_, rfl⟩
  obtain ⟨W3, hW3⟩ : ∃ W, W = W2.drew.setRow N R3 := ⟨_, rfl⟩
  rw [← hR3, ← hW3] at hcpB
  have HP : InsPost B n i xs x (.slice (some ⟨g, 0, none⟩) n n) w (.returned (.slice (some ⟨N, 0, none⟩) (n + 1) G)) W3 := by
    refine ⟨_, rfl, ⟨by simp; omega, .inr ⟨N, G, R3, rfl, by omega, ?_, hGn, hGm, ?_, ?_⟩⟩, ⟨?_, ?_, ?_, ?_, fun k hk _ => ?_⟩, fun k hk => .inr (by simp [Value.ownBlock] at hk; omega)⟩
    · rw [hW3]; exact setRow_heap W2.drew N R2 _ 57 (0, 0) hNW2
    · rw [hR3]
      simp only [List.size_toArray, List.length_append, List.length_take, List.length_drop, Array.length_toList]; omega
    · rw [hR3, hR2, Nat.mul_one]
      simp only [hRl, List.length_cons, List.length_nil]
      exact grow_row xs Z x i n hi hxl (by omega)
    · rw [hW3, hW2, hW1]; rfl
    · rw [hW3, hW2, hW1]; rfl
    · rw [hW3, hW2, hW1]; rfl
    · rw [hW3, hW2, hW1]; simp
    · rw [hW3, setRow_other _ _ _ _ (by omega)]
      exact hgW2 k hk
  clear hW1 hW2 hW3 hR2 hR3 hROW hZ hG hold hN hRl
  unfold maxLen at hGm
  have hz2 : ¬ ((i : Int) = (n : Int)) := by omega
  have hw1 : IntKind.i64.wrap ((i : Int) + 1) = (i : Int) + 1 := by rw [IntKind.wrap_i64]; omega
  have hb1 : (0 : Int) ≤ (i : Int) + 1 := by omega
  have hin : i ≤ n := by omega
  have htn : ((i : Int) + 1).toNat = i + 1 := by omega
  have hb2 : ¬ (G = i + 1) := by omega
  have hb4 : ¬ (G = i) := by omega
  have hb5 : ¬ (n = i) := by omega
  go_enter Try.func44, Try.ntmps44
  go_wp2_with (first
    | (at_builtin; refine Lib.wpList_append_run _ rfl _ _ _ _ rfl _ _ rfl rfl _ _ (hrz _) ?_)
    | (at_builtin; refine wpList_copy_run _ rfl _ _ 70 70 rfl _ _ rfl rfl (hcpA _ _) ?_))
  go_region_law (refine step_copy_run rfl _ _ 70 70 rfl _ _ (by simp [Act.eval, Act.put]) (by simp [Act.eval, Act.put]) (hcpB _ _ _) ?_)
  go_wp2
  go_ret
  exact HP


/-- slices.Insert, whichever way it goes. -/
theorem insert_any (B n i vb : Nat) (xs : List Value) (x v : Value) (w : World) (hown : w.ownsRow B 57 1 v n xs) (hB : B ≤ w.heap.size) (hn : n ≤ 1000000) (hi : i ≤ n) (h1 : ∀ u ∈ xs, u.oneCell' = true)
    (hv : w.heap[vb]? = some (.cells #[x] 57)) (hx : x.oneCell' = true) (hne : v.ownBlock ≠ some vb) :
    Calls Try.prog 44 #[v, .int .i64 i, .slice (some ⟨vb, 0, none⟩) 1 1] w (InsPost B n i xs x v w) := by
  by_cases hin : i = n
  · subst hin
    exact insert_end B i vb xs x v w hown hB hn hv hx
  · rcases hown.2 with ⟨rfl, rfl⟩ | ⟨g, cap, cur, rfl, hbg, hg, hnc, hcm, hcs, htake⟩
    · omega
    · rw [Nat.mul_one] at hcs htake
      by_cases hroom : n + 1 ≤ cap
      · exact insert_shift B g i n cap vb cur xs x w hbg hg hroom hcm hcs htake (by omega) h1 hv hx (fun e => hne (by simp [Value.ownBlock, e]))
      · obtain rfl : cap = n := by omega
        exact insert_grow B g i cap vb cur xs x w hB hg hn hcs htake (by omega) h1 hv hx

end Go.Proofs.Qxb6600954a
