/-
  LawS0034AModel: CheckLocks computes mrun.
-/
import Derived.Test.YbulkriACheckK
import Derived.Test.YbulkriASpans
import Derived.Test.YbulkriALaw
import Derived.Deep.CutRange
namespace Go.Proofs.Ybulkri.A
open Go.RowKit
set_option linter.unusedVariables false
set_option linter.unusedSimpArgs false

/-- the two first variables -/
structure C2 (w : World) (N : Nat) (f : Nat → Int) (W : World) : Prop where
  r : Blk W N 40 (fcells fun _ => 0)
  c : Blk W (N + 1) 40 (fcells f)
  b : Below N w W
  z : W.heap.size = N + 1 + 1

theorem C2.start (w : World) : C2 w w.heap.size (fun _ => 0) ((w.alloc (.cells #[.int .i64 0, .int .i64 0, .int .i64 0, .int .i64 0, .int .i64 0, .int .i64 0] 40)).alloc (.cells #[.int .i64 0, .int .i64 0, .int .i64 0, .int .i64 0, .int .i64 0, .int .i64 0] 40)) := by
  refine ⟨(Blk.new w 40 (fcells fun _ => 0)).alloc _, ?_, ((Below.refl _ w).alloc (Nat.le_refl _) _).alloc (by simp) _, by simp⟩
  have := Blk.new (w.alloc (.cells #[.int .i64 0, .int .i64 0, .int .i64 0, .int .i64 0, .int .i64 0, .int .i64 0] 40)) 40 (fcells fun _ => 0)
  rw [World.size_alloc] at this
  exact this
theorem C2.set {w W : World} {N : Nat} {f : Nat → Int} (h : C2 w N f W) (j : Nat) (v : Int) : C2 w N (putI f j v) (W.setCell ⟨N + 1, j, none⟩ (.int .i64 v)) :=
  ⟨h.r.setOther (by simp) _, by have := h.c.set j (.int .i64 v); rwa [fcells_set] at this, h.b.setCell (p := ⟨N + 1, j, none⟩) (by simp) _, by rw [← h.z]; simp [World.setCell]⟩
theorem C2.congr {w W : World} {N : Nat} {f f' : Nat → Int} (h : C2 w N f W) (hf : ∀ j, j < 6 → f j = f' j) : C2 w N f' W :=
  ⟨h.r, by have := h.c; rwa [fcells_congr hf] at this, h.b, h.z⟩

theorem valid_item {ops : List (Int × Int × Int)} {nT nX : Nat} (hv : Valid ops nT nX) : ∀ i, i < ops.length → 0 ≤ (ops.getD i (0, 0, 0)).2.2 → (ops.getD i (0, 0, 0)).2.2.toNat < nX := by
  intro i hi h0
  by_cases e : (ops.getD i (0, 0, 0)).1 = 3 ∨ (ops.getD i (0, 0, 0)).1 = 4
  · have := hv.none i hi e
    omega
  · exact (hv.item i hi (fun c => e (.inl c)) (fun c => e (.inr c))).2

/-- the accesses, one by one -/
theorem mem_acc {ops : List (Int × Int × Int)} : ∀ {n i : Nat}, i < n → 0 ≤ (ops.getD i (0, 0, 0)).2.2 → ((ops.getD i (0, 0, 0)).2.2.toNat, i) ∈ acc ops n
  | 0, i, hi, h0 => by omega
  | n + 1, i, hi, h0 => by
    rw [acc, List.mem_append]
    by_cases e : i = n
    · subst e
      rw [if_pos h0]
      simp
    · exact .inl (mem_acc (by omega) h0)

theorem tab_of {ops : List (Int × Int × Int)} {nT nX : Nat} (hv : Valid ops nT nX) : Tab (spansUp (tsOf ops) nX).length nT nX (txL (spansUp (tsOf ops) nX)) (itL (spansUp (tsOf ops) nX)) := by
  have hk := txp_keys (valid_item hv) hv.txn
  have hnd := spansUp_nodup (tsOf ops) nX
  have hm := fun p => @mem_spansUp (tsOf ops) nX p
  have htx : ∀ p ∈ spansUp (tsOf ops) nX, p.1 < nT := fun p hp => by
    obtain ⟨_, h2⟩ := (hm p).1 hp
    simp only [tsOf, List.mem_map] at h2
    obtain ⟨i, hig, hie⟩ := h2
    have hil : i < ops.length := by
      unfold grp at hig
      simp only [List.mem_map, List.mem_filter] at hig
      obtain ⟨q, ⟨hq, _⟩, rfl⟩ := hig
      exact (acc_mem (valid_item hv) ops.length (Nat.le_refl _) q hq).2
    rw [← hie]
    exact (hv.txn i hil).2
  generalize spansUp (tsOf ops) nX = L at *
  have hg : ∀ k, k < L.length → L.getD k (0, 0) ∈ L := fun k hk => by
    rw [List.getD_eq_getElem?_getD, List.getElem?_eq_getElem hk]
    exact List.getElem_mem hk
  refine ⟨fun k hk => htx _ (hg k hk), fun k hk => ((hm _).1 (hg k hk)).1, fun k k' hk hk' h1 h2 => ?_⟩
  have e : L[k] = L[k'] := by
    have h1' : (L.getD k (0, 0)).1 = (L.getD k' (0, 0)).1 := h1
    have h2' : (L.getD k (0, 0)).2 = (L.getD k' (0, 0)).2 := h2
    simp only [List.getD_eq_getElem?_getD, List.getElem?_eq_getElem hk, List.getElem?_eq_getElem hk', Option.getD_some] at h1' h2'
    exact Prod.ext h1' h2'
  rcases Nat.lt_trichotomy k k' with c | c | c
  · exact absurd e ((List.pairwise_iff_getElem.1 (List.nodup_iff_pairwise_ne.1 hnd)) k k' hk hk' c)
  · exact c
  · exact absurd e.symm ((List.pairwise_iff_getElem.1 (List.nodup_iff_pairwise_ne.1 hnd)) k' k hk' hk c)

/-- each access has its span -/
theorem span_of {ops : List (Int × Int × Int)} {nT nX i t x : Nat} (hv : Valid ops nT nX) (hi : i < ops.length) (ht : (ops.getD i (0, 0, 0)).2.1 = t) (hx : (ops.getD i (0, 0, 0)).2.2 = x) : ∃ k, k < (spansUp (tsOf ops) nX).length ∧ (spansUp (tsOf ops) nX).getD k (0, 0) = (t, x) := by
  have h1 := valid_item hv i hi (by omega)
  have hmem : (t, x) ∈ spansUp (tsOf ops) nX := by
    refine mem_spansUp.2 ⟨by show x < nX; rw [hx] at h1; simpa using h1, ?_⟩
    simp only [tsOf, List.mem_map]
    refine ⟨i, ?_, by rw [ht]; rfl⟩
    unfold grp
    simp only [List.mem_map, List.mem_filter]
    refine ⟨(x, i), ⟨?_, by simp⟩, rfl⟩
    have := mem_acc (ops := ops) hi (by omega)
    rw [hx] at this
    exact this
  obtain ⟨k, hk, e⟩ := List.mem_iff_getElem.1 hmem
  exact ⟨k, hk, by rw [List.getD_eq_getElem?_getD, List.getElem?_eq_getElem hk]; exact e⟩

theorem index_bb (bb : Nat → Bool) : ∀ r : Nat, r < 6 → ∀ w : World, (Instr.index 67 (.agg #[.bool (bb 0), .bool (bb 1), .bool (bb 2), .bool (bb 3), .bool (bb 4), .bool (bb 5)]) (.int .i64 (r : Int))).run Yba.prog w = .ok (.bool (bb r)) w
  | 0, _, w => by simp [Instr.index, go_sem, run_underlying Yba.underlying67]
  | 1, _, w => by simp [Instr.index, go_sem, run_underlying Yba.underlying67]
  | 2, _, w => by simp [Instr.index, go_sem, run_underlying Yba.underlying67]
  | 3, _, w => by simp [Instr.index, go_sem, run_underlying Yba.underlying67]
  | 4, _, w => by simp [Instr.index, go_sem, run_underlying Yba.underlying67]
  | 5, _, w => by simp [Instr.index, go_sem, run_underlying Yba.underlying67]

/-- behind the table -/
structure C3 (w Wt : World) (N H Bt : Nat) (tc : Array Value) (W : World) : Prop where
  r : Blk W N 40 (fcells fun _ => 0)
  c : Blk W (N + 1) 40 (fcells fun _ => -1)
  t : Blk W Bt 56 tc
  fr : Fr (N + 1 + 1) H Wt W
  b : Below N w W
theorem C3.alloc {w Wt W : World} {N H Bt : Nat} {tc : Array Value} (h : C3 w Wt N H Bt tc W) (o : Obj) : C3 w Wt N H Bt tc (W.alloc o) :=
  ⟨h.r.alloc o, h.c.alloc o, h.t.alloc o, h.fr.alloc o, h.b.alloc (Nat.le_of_lt h.r.lt) o⟩
theorem blk_two (W : World) (o : Obj) (e : TypeId) (c : Array Value) : Blk ((W.alloc o).alloc (.cells c e)) (W.heap.size + 1) e c := by
  have := Blk.new (W.alloc o) e c
  rwa [World.size_alloc] at this

theorem rel_start (nk nT nX : Nat) (tx it : Nat → Nat) : Rel nk nT nX tx it (fun _ _ => 0) (fun _ => 0) (fun _ => 0) (fun _ => 0) := by
  have hz : ∀ n, cnt (fun _ => false) n = 0 := fun n => by
    induction n with
    | zero => rfl
    | succ n ih => simp [cnt, ih]
  refine ⟨fun _ _ => rfl, fun _ _ _ _ _ => rfl, fun x _ => ?_, fun x _ => ?_⟩
  · have : (fun u : Nat => decide ((0 : Int) = 1)) = fun _ => false := by funext u; decide
    rw [this, hz]
  · have : (fun u : Nat => decide ((0 : Int) = 2)) = fun _ => false := by funext u; decide
    rw [this, hz]

set_option maxHeartbeats 8000000 in
set_option maxRecDepth 100000 in
theorem check_any : ChecksAs := by
  intro w S go co at' ct ai ci ops nT nX h hv hT hX hl
  have hS := h.hS
  have hgo := h.hgo
  have Hh : Hid (SchR w w.heap.size S go co at' ct ai ci ops nT nX) := h
  have Hv : Hid (Valid ops nT nX) := hv
  clear h hv
  go_enter Yba.func6, Yba.ntmps6
  go_upto_block 0 with fail
  go_cut [22] (fun _ wc => C2 w w.heap.size (fun _ => -1) wc)
  case first =>
    go_wp2_with fail
    go_loopg [22] 6 (fun g i wr => ∃ k : Nat, k ≤ 6 ∧ g = 6 - k ∧ i = .int .i64 k ∧ C2 w w.heap.size (fun j => if j < k then -1 else 0) wr)
    case atStart => exact ⟨0, by omega, rfl, rfl, by simpa using C2.start w⟩
    case round =>
      obtain ⟨k, hk, rfl, rfl, hm⟩ := hrel
      by_cases hlt : k < 6
      · have hc := hm.c.cellOf (fcells_get _ hlt)
        have hf := hm.c.frozen k
        go_wp2_with fail
        go_roundg (6 - (k + 1))
        case measure => omega
        case rel =>
          refine ⟨k + 1, by omega, rfl, by go_num, (hm.set k (-1)).congr fun r hr => ?_⟩
          simp only [putI]
          by_cases e : r = k
          · rw [if_pos e, if_pos (by omega)]
          · by_cases e2 : r < k
            · rw [if_neg e, if_pos e2, if_pos (by omega)]
            · rw [if_neg e, if_neg e2, if_neg (by omega)]
      · obtain rfl : k = 6 := by omega
        go_wp2_with fail
        go_meet
        case rel => exact hm.congr fun r hr => by rw [if_pos hr]
  case rest =>
    have hz := hcut.z
    have h1 : SchR wc wc.heap.size S go co at' ct ai ci ops nT nX := by
      have := Hh.out.below hcut.b
      exact ⟨by rw [hz]; omega, by rw [hz]; omega, this.c0, this.c1, this.c2, this.op⟩
    have hsp := spans_any h1 hl (by omega) (by omega) (valid_item Hv.out) Hv.out.txn
    have htab := tab_of Hv.out
    have hnd := spansUp_nodup (tsOf ops) nX
    have hso := spansUp_sorted (tsOf ops) nX
    have Hspan : Hid (∀ i t x : Nat, i < ops.length → (ops.getD i (0, 0, 0)).2.1 = t → (ops.getD i (0, 0, 0)).2.2 = x → ∃ k, k < (spansUp (tsOf ops) nX).length ∧ (spansUp (tsOf ops) nX).getD k (0, 0) = (t, x)) := fun i t x hi ht hx => span_of Hv.out hi ht hx
    obtain ⟨L, hL⟩ : ∃ L, L = spansUp (tsOf ops) nX := ⟨_, rfl⟩
    rw [← hL] at hsp htab hnd hso Hspan
    rw [hz] at hsp
    clear hL
    have Hsp : Hid (Calls Yba.prog 13 #[.pointer (some ⟨S, 0, none⟩), .func (.func 14) #[] #[]] wc _) := hsp
    have Hc2 : Hid (C2 w w.heap.size (fun _ => -1) wc) := hcut
    have Hz : Hid (wc.heap.size = w.heap.size + 1 + 1) := hz
    clear hsp hcut h1 hz
    go_upto_region 8 with (go_at_call 13; refine Hsp.out.mono ?_; rintro e w2 ⟨g0, M, a1, n1, c1, aw, mw, cw, a3, n3, c3, gs, av, st, vs, rfl, hspA, hg0, hga, hLl, hbel⟩)
    obtain ⟨tc, htc⟩ : ∃ tc : Array Value, #[Value.slice (some ⟨g0, 0, none⟩) L.length M, .slice a1 n1 c1, .slice aw mw cw, .slice a3 n3 c3, .slice (some ⟨gs, 0, none⟩) (nT + 1) (nT + 1), .slice av L.length L.length] = tc := ⟨_, rfl⟩
    have Htc0 : Hid (tc[0]? = some (.slice (some ⟨g0, 0, none⟩) L.length M)) := by rw [← htc]; rfl
    have Htc1 : Hid (tc[1]? = some (.slice a1 n1 c1)) := by rw [← htc]; rfl
    have Htc2 : Hid (tc[2]? = some (.slice aw mw cw)) := by rw [← htc]; rfl
    have Htc3 : Hid (tc[3]? = some (.slice a3 n3 c3)) := by rw [← htc]; rfl
    have Htc4 : Hid (tc[4]? = some (.slice (some ⟨gs, 0, none⟩) (nT + 1) (nT + 1))) := by rw [← htc]; rfl
    have Htc5 : Hid (tc[5]? = some (.slice av L.length L.length)) := by rw [← htc]; rfl
    rw [htc]
    have hc2 := Hc2.out
    have hz2 := hbel.size
    rw [Hz.out] at hz2
    have h3 : C3 w w2 w.heap.size w2.heap.size w2.heap.size tc (w2.alloc (.cells tc 56)) := ⟨(hc2.r.below hbel (by omega)).alloc _, (hc2.c.below hbel (by omega)).alloc _, Blk.new w2 56 tc, Fr.alloc ⟨Nat.le_refl _, fun _ _ _ => rfl⟩ _, (hc2.b.trans (hbel.mono (by omega))).alloc (by omega) _⟩
    have hmk59 := make_modes L.length (by omega)
    have hmk60 := make_bools nT (by omega)
    have hmk29 := make_ints nX (by omega)
    rw [rowI_zero] at hmk29
    have Hspan' := Hspan
    have HsA : Hid (SpAt w2 w2.heap.size (some ⟨g0, 0, none⟩) L) := hspA
    have HgA : Hid (GAt w2 (w.heap.size + 1 + 1) nT (txp L L.length) gs av st vs) := hga
    have Hg0 : Hid (w.heap.size + 1 + 1 ≤ g0) := hg0
    clear Hspan' htc hbel hc2 hspA hga Hsp Hc2 Hz hg0
    have Hs0 : Hid (w2.heap.size < (w2.alloc (.cells tc 56)).heap.size) := (by simp : w2.heap.size < (w2.alloc (.cells tc 56)).heap.size)
    generalize w2.alloc (.cells tc 56) = W7 at *
    have cT0 := h3.t.cellOf Htc0.out
    go_upto_region 9 with fail
    have h3 := (h3.alloc (.cells (rowU (fun _ => 0) L.length) 61)).alloc (.cells #[.slice (some ⟨W7.heap.size, 0, none⟩) L.length L.length] 59)
    have hgm := (Blk.new W7 61 (rowU (fun _ => 0) L.length)).alloc (.cells #[.slice (some ⟨W7.heap.size, 0, none⟩) L.length L.length] 59)
    have hBm := blk_two W7 (.cells (rowU (fun _ => 0) L.length) 61) 59 #[.slice (some ⟨W7.heap.size, 0, none⟩) L.length L.length]
    have Hs1 : Hid (W7.heap.size + 1 < ((W7.alloc (.cells (rowU (fun _ => 0) L.length) 61)).alloc (.cells #[.slice (some ⟨W7.heap.size, 0, none⟩) L.length L.length] 59)).heap.size) := hBm.lt
    generalize (W7.alloc (.cells (rowU (fun _ => 0) L.length) 61)).alloc (.cells #[.slice (some ⟨W7.heap.size, 0, none⟩) L.length L.length] 59) = W8 at *
    generalize W7.heap.size = gm at *
    clear cT0 hmk59
    have cS2 := (h3.b.cell (p := ⟨S, 2, none⟩) hS).trans Hh.out.c2
    go_upto_region 10 with fail
    have h3 := (h3.alloc (.cells (rowI (fun _ => 0) nX) 3)).alloc (.cells #[.slice (some ⟨W8.heap.size, 0, none⟩) nX nX] 29)
    have hgm := (hgm.alloc (.cells (rowI (fun _ => 0) nX) 3)).alloc (.cells #[.slice (some ⟨W8.heap.size, 0, none⟩) nX nX] 29)
    have hBm := (hBm.alloc (.cells (rowI (fun _ => 0) nX) 3)).alloc (.cells #[.slice (some ⟨W8.heap.size, 0, none⟩) nX nX] 29)
    have hgsh := (Blk.new W8 3 (rowI (fun _ => 0) nX)).alloc (.cells #[.slice (some ⟨W8.heap.size, 0, none⟩) nX nX] 29)
    have hBs := blk_two W8 (.cells (rowI (fun _ => 0) nX) 3) 29 #[.slice (some ⟨W8.heap.size, 0, none⟩) nX nX]
    have Hs2 : Hid (W8.heap.size + 1 < ((W8.alloc (.cells (rowI (fun _ => 0) nX) 3)).alloc (.cells #[.slice (some ⟨W8.heap.size, 0, none⟩) nX nX] 29)).heap.size) := hBs.lt
    generalize (W8.alloc (.cells (rowI (fun _ => 0) nX) 3)).alloc (.cells #[.slice (some ⟨W8.heap.size, 0, none⟩) nX nX] 29) = W9 at *
    generalize W8.heap.size = gsh at *
    clear cS2
    have cS2 := (h3.b.cell (p := ⟨S, 2, none⟩) hS).trans Hh.out.c2
    go_upto_region 11 with fail
    have h3 := (h3.alloc (.cells (rowI (fun _ => 0) nX) 3)).alloc (.cells #[.slice (some ⟨W9.heap.size, 0, none⟩) nX nX] 29)
    have hgm := (hgm.alloc (.cells (rowI (fun _ => 0) nX) 3)).alloc (.cells #[.slice (some ⟨W9.heap.size, 0, none⟩) nX nX] 29)
    have hBm := (hBm.alloc (.cells (rowI (fun _ => 0) nX) 3)).alloc (.cells #[.slice (some ⟨W9.heap.size, 0, none⟩) nX nX] 29)
    have hgsh := (hgsh.alloc (.cells (rowI (fun _ => 0) nX) 3)).alloc (.cells #[.slice (some ⟨W9.heap.size, 0, none⟩) nX nX] 29)
    have hBs := (hBs.alloc (.cells (rowI (fun _ => 0) nX) 3)).alloc (.cells #[.slice (some ⟨W9.heap.size, 0, none⟩) nX nX] 29)
    have hgex := (Blk.new W9 3 (rowI (fun _ => 0) nX)).alloc (.cells #[.slice (some ⟨W9.heap.size, 0, none⟩) nX nX] 29)
    have hBx := blk_two W9 (.cells (rowI (fun _ => 0) nX) 3) 29 #[.slice (some ⟨W9.heap.size, 0, none⟩) nX nX]
    have Hs3 : Hid (W9.heap.size + 1 < ((W9.alloc (.cells (rowI (fun _ => 0) nX) 3)).alloc (.cells #[.slice (some ⟨W9.heap.size, 0, none⟩) nX nX] 29)).heap.size) := hBx.lt
    generalize (W9.alloc (.cells (rowI (fun _ => 0) nX) 3)).alloc (.cells #[.slice (some ⟨W9.heap.size, 0, none⟩) nX nX] 29) = W10 at *
    generalize W9.heap.size = gex at *
    clear cS2 hmk29
    have cS1 := (h3.b.cell (p := ⟨S, 1, none⟩) hS).trans Hh.out.c1
    go_upto_region 13 with fail
    have h3 := h3.alloc (.cells (bools (fun _ => false) nT) 4)
    have hgm := hgm.alloc (.cells (bools (fun _ => false) nT) 4)
    have hBm := hBm.alloc (.cells (bools (fun _ => false) nT) 4)
    have hgsh := hgsh.alloc (.cells (bools (fun _ => false) nT) 4)
    have hBs := hBs.alloc (.cells (bools (fun _ => false) nT) 4)
    have hgex := hgex.alloc (.cells (bools (fun _ => false) nT) 4)
    have hBx := hBx.alloc (.cells (bools (fun _ => false) nT) 4)
    have hgu := Blk.new W10 4 (bools (fun _ => false) nT)
    generalize W10.alloc (.cells (bools (fun _ => false) nT) 4) = W11 at *
    generalize W10.heap.size = gu at *
    clear cS1 hmk60
    have hpl : Pl w.heap.size w2.heap.size w2.heap.size gm (gm + 1) gsh (gsh + 1) gex (gex + 1) gu := ⟨hz2, Nat.le_refl _, Hs0.out, Nat.lt_succ_self _, Hs1.out, Nat.lt_succ_self _, Hs2.out, Nat.lt_succ_self _, Hs3.out⟩
    have hck : CKR w w2 w.heap.size w2.heap.size w2.heap.size gm (gm + 1) gsh (gsh + 1) gex (gex + 1) gu nT nX L tc (mrun nT nX ops 0).m (mrun nT nX ops 0).u (mrun nT nX ops 0).f W11 := ⟨fun _ => 0, fun _ => 0, fun _ => 0, ⟨h3.r, h3.c, h3.t, hBm, hBs, hBx, ⟨hgm, hgsh, hgex, by have := Hs2.out; omega⟩, hgu, h3.fr, h3.b⟩, rel_start _ _ _ _ _⟩
    clear h3 hgm hBm hgsh hBs hgex hBx hgu
    have cS0 := (hck.b.cell (p := ⟨S, 0, none⟩) hS).trans Hh.out.c0
    go_upto_block 2 with fail
    clear cS0
    go_cut [] (fun wc' => CKR w w2 w.heap.size w2.heap.size w2.heap.size gm (gm + 1) gsh (gsh + 1) gex (gex + 1) gu nT nX L tc (mrun nT nX ops ops.length).m (mrun nT nX ops ops.length).u (mrun nT nX ops ops.length).f wc')
    case rest =>
      have hm := hcut
      clear hcut hck
      obtain ⟨f, hf⟩ : ∃ f, (mrun nT nX ops ops.length).f = f := ⟨_, rfl⟩
      rw [hf] at hm
      have Hf : Hid ((mrun nT nX ops ops.length).f = f) := hf
      clear hf
      have q0 := hm.c.cellOf (fcells_get f (t := 0) (by omega))
      have q1 := hm.c.cellOf (fcells_get f (t := 1) (by omega))
      have q2 := hm.c.cellOf (fcells_get f (t := 2) (by omega))
      have q3 := hm.c.cellOf (fcells_get f (t := 3) (by omega))
      have q4 := hm.c.cellOf (fcells_get f (t := 4) (by omega))
      have q5 := hm.c.cellOf (fcells_get f (t := 5) (by omega))
      have r0 := hm.r.cellOf (fcells_get (fun _ => 0) (t := 0) (by omega))
      have r1 := hm.r.cellOf (fcells_get (fun _ => 0) (t := 1) (by omega))
      have r2 := hm.r.cellOf (fcells_get (fun _ => 0) (t := 2) (by omega))
      have r3 := hm.r.cellOf (fcells_get (fun _ => 0) (t := 3) (by omega))
      have r4 := hm.r.cellOf (fcells_get (fun _ => 0) (t := 4) (by omega))
      have r5 := hm.r.cellOf (fcells_get (fun _ => 0) (t := 5) (by omega))
      have z0 := hm.r.frozen 0
      have z1 := hm.r.frozen 1
      have z2 := hm.r.frozen 2
      have z3 := hm.r.frozen 3
      have z4 := hm.r.frozen 4
      have z5 := hm.r.frozen 5
      go_wp2_with fail
      refine bodyPost_ret (v := .agg (fcells f)) (by simp [results, go_sem, r0, r1, r2, r3, r4, r5]; rfl) rfl ⟨by rw [Hf.out], ?_⟩
      exact (((((hm.b.setCell (p := ⟨w.heap.size, 0, none⟩) (Nat.le_refl _) _).setCell (p := ⟨w.heap.size, 1, none⟩) (Nat.le_refl _) _).setCell (p := ⟨w.heap.size, 2, none⟩) (Nat.le_refl _) _).setCell (p := ⟨w.heap.size, 3, none⟩) (Nat.le_refl _) _).setCell (p := ⟨w.heap.size, 4, none⟩) (Nat.le_refl _) _).setCell (p := ⟨w.heap.size, 5, none⟩) (Nat.le_refl _) _
    case first =>
      go_wp2_with fail
      go_loopg [59] ops.length (fun g i wr => ∃ k : Nat, k ≤ ops.length ∧ g = ops.length - k ∧ i = .int .i64 k ∧ CKR w w2 w.heap.size w2.heap.size w2.heap.size gm (gm + 1) gsh (gsh + 1) gex (gex + 1) gu nT nX L tc (mrun nT nX ops k).m (mrun nT nX ops k).u (mrun nT nX ops k).f wr)
      case atStart => exact ⟨0, Nat.zero_le _, rfl, rfl, hck⟩
      case round =>
        clear hck
        obtain ⟨k, hk, rfl, rfl, hm⟩ := hrel
        by_cases hlt : k < ops.length
        · obtain ⟨d0, d1, d2⟩ := (Hh.out.below hm.b).op k hlt
          have Hk := Hv.out.kind k hlt
          have Ht := Hv.out.txn k hlt
          have Hi := Hv.out.item k hlt
          have Hne3 : Hid ((ops.getD k (0, 0, 0)).1 ≠ 7 → ∀ x, (mrun nT nX ops k).m (ops.getD k (0, 0, 0)).2.1.toNat x ≠ 3) := fun h x => mrun_ne3 Hv.out hlt h x
          have Hrg : Hid (∀ t x, 0 ≤ (mrun nT nX ops k).m t x ∧ (mrun nT nX ops k).m t x ≤ 3) := fun t x => (mrun_range Hv.out k hk t x).1
          have Hsp' : Hid (∀ t x : Nat, (ops.getD k (0, 0, 0)).2.1 = t → (ops.getD k (0, 0, 0)).2.2 = x → ∃ k, k < L.length ∧ L.getD k (0, 0) = (t, x)) := fun t x h1 h2 => Hspan.out k t x hlt h1 h2
          have Hn3 : Hid (mrun nT nX ops (k + 1) = mstep nT nX (mrun nT nX ops k) k (ops.getD k (0, 0, 0))) := rfl
          obtain ⟨⟨kd, t', x'⟩, ho⟩ : ∃ o, o = ops.getD k (0, 0, 0) := ⟨_, rfl⟩
          rw [← ho] at d0 d1 d2 Hk Ht Hi Hn3 Hne3 Hsp'
          dsimp only at d0 d1 d2 Hk Ht Hi Hne3 Hsp'
          clear ho
          obtain ⟨t, rfl⟩ : ∃ t : Nat, t' = t := ⟨t'.toNat, by omega⟩
          have ht : t < nT := by simpa using Ht.2
          clear Ht
          obtain ⟨⟨m, u, f⟩, hs⟩ : ∃ s, s = mrun nT nX ops k := ⟨_, rfl⟩
          rw [← hs] at hm Hn3 Hne3 Hrg
          dsimp only at hm Hne3 Hrg
          clear hs
          go_upto_region 16 with fail
          have hm1 := hm.alloc (Obj.cells #[Value.int .u8 kd, Value.int .i64 (t : Int), Value.int .i64 x'] 34)
          have ho1 := Blk.new wr 34 #[Value.int .u8 kd, Value.int .i64 (t : Int), Value.int .i64 x']
          have hBo : gu < wr.heap.size := hm.lt
          generalize wr.alloc (Obj.cells #[Value.int .u8 kd, Value.int .i64 (t : Int), Value.int .i64 x'] 34) = W1 at *
          generalize wr.heap.size = Bo at *
          clear d0 d1 d2 hm
          have k0 := ho1.cellOf (j := 0) rfl
          have k1 := ho1.cellOf (j := 1) rfl
          have k2 := ho1.cellOf (j := 2) rfl
          go_cut [71] (fun b wc => W1 = wc ∧ b = .bool (decide (kd = 3 ∨ kd = 4)))
          case first =>
            by_cases h3 : kd = 3
            · go_wp2_with fail
              go_meet
              case rel => exact ⟨rfl, by simp [h3]⟩
            · by_cases h4 : kd = 4
              · go_wp2_with fail
                go_meet
                case rel => exact ⟨rfl, by simp [h4]⟩
              · go_wp2_with fail
                go_meet
                case rel => exact ⟨rfl, by simp [h3, h4]⟩
          case rest =>
            obtain ⟨rfl, rfl⟩ := hcut
            by_cases h34 : kd = 3 ∨ kd = 4
            · have hd : decide (kd = 3 ∨ kd = 4) = true := by simpa using h34
              have Hs : Hid (mstep nT nX ⟨m, u, f⟩ k (kd, (t : Int), x') = ⟨fun t' x' => if t' = t ∧ x' < nX ∧ m t' x' ≠ 0 then 3 else m t' x', u, f⟩) := by
                unfold Hid mstep
                rw [if_pos h34]
                simp
              rw [hd]
              clear h34 hd Hi
              as_aux_lemma =>
              have hof := of_any (hm1.fr.gAt HgA.out) (by omega) (by rw [txp_length]; exact hLl) ht
              rw [txp_length, grp_txp] at hof
              obtain ⟨own, hown⟩ : ∃ own, own = ownOf L t := ⟨_, rfl⟩
              have Hom : Hid (∀ j, j < own.length → own.getD j 0 < L.length ∧ txL L (own.getD j 0) = t) := fun j hj => by
                have : own.getD j 0 ∈ ownOf L t := by
                  rw [← hown, List.getD_eq_getElem?_getD, List.getElem?_eq_getElem hj]
                  exact List.getElem_mem hj
                exact mem_ownOf.1 this
              have hol : own.length ≤ 4096 := by
                rw [hown]
                have := List.length_filter_le (fun k => decide ((L.getD k (0, 0)).1 = t)) (List.range L.length)
                rw [List.length_range] at this
                unfold ownOf
                omega
              rw [← hown] at hof
              have Hown : Hid (own = ownOf L t) := hown
              clear hown
              have Hof : Hid (Calls Yba.prog 16 #[.agg #[.slice (some ⟨gs, 0, none⟩) (nT + 1) (nT + 1), .slice av L.length L.length], .int .i64 t] W1 _) := hof
              clear hof
              have cT4 := hm1.t.cellOf Htc4.out
              have cT5 := hm1.t.cellOf Htc5.out
              have Hm1 : Hid (CKR w w2 w.heap.size w2.heap.size w2.heap.size gm (gm + 1) gsh (gsh + 1) gex (gex + 1) gu nT nX L tc m u f W1) := hm1
              go_wp2_with (go_at_call 16; refine Hof.out.mono ?_; rintro e w3 ⟨ao, rfl, _, hb3, hnat⟩)
              go_loopg [78] own.length (fun g i wx => ∃ j : Nat, j ≤ own.length ∧ g = own.length - j ∧ i = .int .i64 j ∧ CKR w w2 w.heap.size w2.heap.size w2.heap.size gm (gm + 1) gsh (gsh + 1) gex (gex + 1) gu nT nX L tc (part m (itL L) t (own.take j)) u f wx)
              case atStart =>
                have e0 : part m (itL L) t (own.take 0) = m := by
                  funext t' x'
                  simp [part]
                refine ⟨0, Nat.zero_le _, rfl, rfl, ?_⟩
                rw [e0]
                exact Hm1.out.below hb3
              case round =>
                clear cT4 cT5 k0 k1 k2 hm1 Hm1 hb3 ho1
                obtain ⟨j, hj, rfl, rfl, hmj⟩ := hrel
                by_cases hjl : j < own.length
                · obtain ⟨gv, ov, rfl, _, hrow⟩ := hnat _ _ (hmj.fr.gAt HgA.out) (by omega)
                  have cK := hrow j hjl
                  obtain ⟨hq1, hq2⟩ := Hom.out j hjl
                  have Htk : Hid (own.take (j + 1) = own.take j ++ [own.getD j 0]) := by
                    unfold Hid
                    rw [List.take_succ_eq_append_getElem hjl, List.getD_eq_getElem?_getD, List.getElem?_eq_getElem hjl]
                    rfl
                  obtain ⟨q, hq⟩ : ∃ q, q = own.getD j 0 := ⟨_, rfl⟩
                  rw [← hq] at cK hq1 hq2 Htk
                  clear hq hrow
                  obtain ⟨x, hxe⟩ : ∃ x, itL L q = x := ⟨_, rfl⟩
                  have cm := hmj.mode hq1
                  rw [hq2, hxe] at cm
                  have Hcall : Hid (Calls Yba.prog 15 #[.int .i64 q, .int .u8 3, .pointer (some ⟨w2.heap.size, 0, none⟩), .pointer (some ⟨gm + 1, 0, none⟩), .pointer (some ⟨gsh + 1, 0, none⟩), .pointer (some ⟨gex + 1, 0, none⟩)] wr _) := hmj.hold hpl htab HsA.out Hg0.out Htc0.out hLl (by omega) (by omega) hq1 hq2 hxe 3 (by omega) (part_range Hrg.out t x)
                  have cBm := hmj.bm.cellOf (j := 0) rfl
                  have Hpz : Hid (part m (itL L) t (own.take j) t x = 0 ↔ m t x = 0) := part_zero _ _ _ _
                  have Hxe : Hid (itL L q = x) := hxe
                  have Hq2 : Hid (txL L q = t) := hq2
                  clear hxe hq2
                  obtain ⟨v, hv⟩ : ∃ v, part m (itL L) t (own.take j) t x = v := ⟨_, rfl⟩
                  rw [hv] at cm Hpz
                  clear hv
                  by_cases hz : v = 0
                  · have Hmz : Hid (m t x = 0) := Hpz.out.1 hz
                    subst hz
                    clear Hcall
                    go_wp2_with fail
                    go_roundg (own.length - (j + 1))
                    case measure => omega
                    case rel =>
                      refine ⟨j + 1, by omega, rfl, by go_num, ?_⟩
                      rw [Htk.out]
                      exact hmj.congrM htab fun t' x' _ _ => part_keep Hxe.out Hmz.out t' x'
                  · have Hmz : Hid (m t x ≠ 0) := fun c => hz (Hpz.out.2 c)
                    have hz' : ((v != 0)) = true := by simpa using hz
                    clear hz
                    go_wp2_with (go_at_call 15; refine Hcall.out.mono ?_; rintro e w4 ⟨⟨z, rfl⟩, hm4, _⟩)
                    go_roundg (own.length - (j + 1))
                    case measure => omega
                    case rel =>
                      refine ⟨j + 1, by omega, rfl, by go_num, ?_⟩
                      rw [Htk.out]
                      exact hm4.congrM htab fun t' x' _ _ => part_put Hxe.out Hmz.out t' x'
                · obtain rfl : j = own.length := by omega
                  go_wp2_with fail
                  go_roundg (ops.length - (k + 1))
                  case measure => omega
                  case rel =>
                    refine ⟨k + 1, by omega, rfl, by go_num, ?_⟩
                    rw [Hn3.out, Hs.out]
                    rw [List.take_length, Hown.out] at hmj
                    obtain ⟨md, sh, ex, e1, e2⟩ := hmj
                    exact ⟨md, sh, ex, e1, part_all htab e2⟩
            · have hd : decide (kd = 3 ∨ kd = 4) = false := by simpa using h34
              rw [hd]
              obtain ⟨x, rfl⟩ : ∃ x : Nat, x' = x := ⟨x'.toNat, by have := Hi (by omega) (by omega); omega⟩
              have hx : x < nX := by have := Hi (by omega) (by omega); simpa using this.2
              clear Hi
              obtain ⟨q, hq1, hq2⟩ := Hsp'.out t x rfl rfl
              have Hspc : Hid (Calls Yba.prog 17 #[.agg #[.slice (some ⟨g0, 0, none⟩) L.length M, .slice a1 n1 c1, .slice aw mw cw, .slice a3 n3 c3, .slice (some ⟨gs, 0, none⟩) (nT + 1) (nT + 1), .slice av L.length L.length], .int .i64 t, .int .i64 x] W1 _) := spanOf_any (hm1.fr.spAt HsA.out Hg0.out) (hm1.fr.gAt HgA.out) (by omega) hLl hnd hso ht hq1 hq2
              have Hqt : Hid (txL L q = t) := (by unfold txL; rw [hq2] : txL L q = t)
              have Hqx : Hid (itL L q = x) := (by unfold itL; rw [hq2] : itL L q = x)
              clear hq2
              have cT0 := hm1.t.cellOf Htc0.out
              have cT1 := hm1.t.cellOf Htc1.out
              have cT2 := hm1.t.cellOf Htc2.out
              have cT3 := hm1.t.cellOf Htc3.out
              have cT4 := hm1.t.cellOf Htc4.out
              have cT5 := hm1.t.cellOf Htc5.out
              have hkds : kd = 1 ∨ kd = 2 ∨ kd = 5 ∨ kd = 6 ∨ kd = 7 := by omega
              have Hs : Hid (mstep nT nX ⟨m, u, f⟩ k (kd, (t : Int), (x : Int)) = ⟨put m t x (after kd (m t x)), if kd = 7 then putB u t true else u, newf f (bits nT ⟨m, u, f⟩ kd t x) k⟩) := by
                unfold Hid mstep
                rw [if_neg h34]
                simp
              have Hmr : Hid (0 ≤ m t x ∧ m t x ≤ 3) := Hrg.out t x
              have Hn7 : Hid (kd ≠ 7 → m t x ≠ 3) := fun h => by have := Hne3.out h x; simpa using this
              clear h34 hd Hk
              obtain ⟨v, hv'⟩ : ∃ v, m t x = v := ⟨_, rfl⟩
              have Hv' : Hid (m t x = v) := hv'
              have hvr : v = 0 ∨ v = 1 ∨ v = 2 ∨ v = 3 := by have := Hmr.out; omega
              clear hv'
              have Hcall : Hid (∀ (W' : World) (u' : Nat → Bool) (z : Int), (z = 0 ∨ z = 1 ∨ z = 2 ∨ z = 3) → CKR w w2 w.heap.size w2.heap.size w2.heap.size gm (gm + 1) gsh (gsh + 1) gex (gex + 1) gu nT nX L tc m u' f W' → Calls Yba.prog 15 #[.int .i64 q, .int .u8 z, .pointer (some ⟨w2.heap.size, 0, none⟩), .pointer (some ⟨gm + 1, 0, none⟩), .pointer (some ⟨gsh + 1, 0, none⟩), .pointer (some ⟨gex + 1, 0, none⟩)] W' fun e w' => (∃ z, e = .returned z) ∧ CKR w w2 w.heap.size w2.heap.size w2.heap.size gm (gm + 1) gsh (gsh + 1) gex (gex + 1) gu nT nX L tc (put m t x z) u' f w' ∧ ∀ g e cur, gu < g → Blk W' g e cur → Blk w' g e cur) := fun W' u' z hz hk' => hk'.hold hpl htab HsA.out Hg0.out Htc0.out hLl (by omega) (by omega) hq1 Hqt.out Hqx.out z hz Hmr.out
              go_upto_block 6 with (go_at_call 17; refine Hspc.out.mono ?_; rintro e w3 ⟨rfl, hb3⟩; have hm3 := hm1.below hb3; have ho3 := ho1.below hb3 ho1.lt; have cq := hm3.mode hq1; rw [Hqt.out, Hqx.out, Hv'.out] at cq; have cbm := hm3.bm.cellOf (j := 0) rfl; have k0' : ∀ o, (w3.alloc o).cell? ⟨Bo, 0, none⟩ = some (.int .u8 kd) := fun o => (ho3.alloc o).cellOf rfl)
              have hm2 := hm3.alloc (Obj.cells #[Value.bool false, Value.bool false, Value.bool false, Value.bool false, Value.bool false, Value.bool false] 67)
              have ho2 := ho3.alloc (Obj.cells #[Value.bool false, Value.bool false, Value.bool false, Value.bool false, Value.bool false, Value.bool false] 67)
              have hb2 : Blk (w3.alloc (Obj.cells #[Value.bool false, Value.bool false, Value.bool false, Value.bool false, Value.bool false, Value.bool false] 67)) w3.heap.size 67 (bcells fun _ => false) := Blk.new w3 67 _
              have hBb : gu < w3.heap.size := hm3.lt
              have hBob : Bo < w3.heap.size := ho3.lt
              generalize w3.alloc (Obj.cells #[Value.bool false, Value.bool false, Value.bool false, Value.bool false, Value.bool false, Value.bool false] 67) = W2 at *
              generalize w3.heap.size = Bb at *
              clear cq cbm hm1 hm3 ho1 ho3 k0 k1 k2 k0' cT0 cT1 cT2 cT3 cT4 cT5 Hspc hb3
              go_cut [] (fun wc => CKR w w2 w.heap.size w2.heap.size w2.heap.size gm (gm + 1) gsh (gsh + 1) gex (gex + 1) gu nT nX L tc (put m t x (after kd (m t x))) (if kd = 7 then putB u t true else u) f wc ∧ Blk wc Bb 67 (bcells (bits nT ⟨m, u, f⟩ kd t x)))
              case first =>
                clear Hs Hn3
                rcases hkds with rfl | rfl | rfl | rfl | rfl
                · refine check_1 hpl htab hT hX ht hx hq1 hLl Hqt Hqx Hv' hvr Hcall hm2 ho2 hb2 hBb hBo hBob ?_
                  unfold Hid
                  intros
                  rename_i h1 h2
                  go_wp2_with fail
                  go_meet
                  case rel => exact ⟨h1, h2⟩
                · refine check_2 hpl htab hT hX ht hx hq1 hLl Hqt Hqx Hv' hvr Hcall hm2 ho2 hb2 hBb hBo hBob ?_
                  unfold Hid
                  intros
                  rename_i h1 h2
                  go_wp2_with fail
                  go_meet
                  case rel => exact ⟨h1, h2⟩
                · refine check_5 hpl htab hT hX ht hx hq1 hLl Hqt Hqx Hv' hvr Hcall hm2 ho2 hb2 hBb hBo hBob ?_
                  unfold Hid
                  intros
                  rename_i h1 h2
                  go_wp2_with fail
                  go_meet
                  case rel => exact ⟨h1, h2⟩
                · refine check_6 hpl htab hT hX ht hx hq1 hLl Hqt Hqx Hv' hvr (by have := Hn7.out (by omega); rwa [Hv'.out] at this) Hcall hm2 ho2 hb2 hBb hBo hBob ?_
                  unfold Hid
                  intros
                  rename_i h1 h2
                  go_wp2_with fail
                  go_meet
                  case rel => exact ⟨h1, h2⟩
                · refine check_7 hpl htab hT hX ht hx hq1 hLl Hqt Hqx Hv' hvr Hcall hm2 ho2 hb2 hBb hBo hBob ?_
                  unfold Hid
                  intros
                  rename_i h1 h2
                  go_wp2_with fail
                  go_meet
                  case rel => exact ⟨h1, h2⟩
              case rest =>
                as_aux_lemma =>
                obtain ⟨hm3, hb3⟩ := hcut
                clear hm2 hb2 ho2 Hcall
                obtain ⟨bb, hbb⟩ : ∃ bb, bits nT ⟨m, u, f⟩ kd t x = bb := ⟨_, rfl⟩
                rw [hbb] at hb3
                have Hs' : Hid (mstep nT nX ⟨m, u, f⟩ k (kd, (t : Int), (x : Int)) = ⟨put m t x (after kd (m t x)), if kd = 7 then putB u t true else u, newf f bb k⟩) := by rw [← hbb]; exact Hs.out
                clear hbb Hs
                generalize put m t x (after kd (m t x)) = m' at *
                generalize (if kd = 7 then putB u t true else u) = u' at *
                have b0 := hb3.cellOf (bcells_get bb (t := 0) (by omega))
                have b1 := hb3.cellOf (bcells_get bb (t := 1) (by omega))
                have b2 := hb3.cellOf (bcells_get bb (t := 2) (by omega))
                have b3 := hb3.cellOf (bcells_get bb (t := 3) (by omega))
                have b4 := hb3.cellOf (bcells_get bb (t := 4) (by omega))
                have b5 := hb3.cellOf (bcells_get bb (t := 5) (by omega))
                have Hix : Hid (∀ r : Nat, r < 6 → ∀ w : World, (Instr.index 67 (.agg #[.bool (bb 0), .bool (bb 1), .bool (bb 2), .bool (bb 3), .bool (bb 4), .bool (bb 5)]) (.int .i64 (r : Int))).run Yba.prog w = .ok (.bool (bb r)) w) := index_bb bb
                go_wp2_with fail
                go_loopg [200] 6 (fun g i wx => ∃ r : Nat, r ≤ 6 ∧ g = 6 - r ∧ i = .int .i64 r ∧ CKR w w2 w.heap.size w2.heap.size w2.heap.size gm (gm + 1) gsh (gsh + 1) gex (gex + 1) gu nT nX L tc m' u' (fun j => if j < r then newf f bb k j else f j) wx)
                case atStart => exact ⟨0, Nat.zero_le _, rfl, rfl, by simpa using hm3⟩
                case round =>
                  clear b0 b1 b2 b3 b4 b5
                  obtain ⟨r, hr, rfl, rfl, hmr⟩ := hrel
                  by_cases hrl : r < 6
                  · have hix := Hix.out r hrl
                    have cf := hmr.c.cellOf (fcells_get _ hrl)
                    have ff := hmr.c.frozen r
                    rw [if_neg (by omega)] at cf
                    obtain ⟨fv, hfv⟩ : ∃ fv, f r = fv := ⟨_, rfl⟩
                    rw [hfv] at cf
                    have Hfv : Hid (f r = fv) := hfv
                    clear hfv
                    cases hbv : bb r with
                    | false =>
                      rw [hbv] at hix
                      have Hbv : Hid (bb r = false) := hbv
                      clear hbv
                      go_wp2_with fail
                      go_roundg (6 - (r + 1))
                      case measure => omega
                      case rel =>
                        refine ⟨r + 1, by omega, rfl, by go_num, hmr.congrF fun j hj => ?_⟩
                        by_cases e : j = r
                        · subst e
                          rw [if_neg (by omega), if_pos (by omega), newf, if_neg (by rw [Hbv.out]; simp)]
                        · by_cases e2 : j < r
                          · rw [if_pos e2, if_pos (by omega)]
                          · rw [if_neg e2, if_neg (by omega)]
                    | true =>
                      rw [hbv] at hix
                      have Hbv : Hid (bb r = true) := hbv
                      clear hbv
                      by_cases hfn : fv < 0
                      · have hfd : decide (fv < 0) = true := by simpa using hfn
                        have Hfn : Hid (fv < 0) := hfn
                        clear hfn
                        go_wp2_with fail
                        go_roundg (6 - (r + 1))
                        case measure => omega
                        case rel =>
                          refine ⟨r + 1, by omega, rfl, by go_num, (hmr.setC hpl r (k : Int)).congrF fun j hj => ?_⟩
                          simp only [putI]
                          by_cases e : j = r
                          · subst e
                            rw [if_pos rfl, if_pos (by omega), newf, if_pos ⟨Hbv.out, by rw [Hfv.out]; exact Hfn.out⟩]
                          · rw [if_neg e]
                            by_cases e2 : j < r
                            · rw [if_pos e2, if_pos (by omega)]
                            · rw [if_neg e2, if_neg (by omega)]
                      · have hfd : decide (fv < 0) = false := by simpa using hfn
                        have Hfn : Hid (¬ fv < 0) := hfn
                        clear hfn
                        go_wp2_with fail
                        go_roundg (6 - (r + 1))
                        case measure => omega
                        case rel =>
                          refine ⟨r + 1, by omega, rfl, by go_num, hmr.congrF fun j hj => ?_⟩
                          by_cases e : j = r
                          · subst e
                            rw [if_neg (by omega), if_pos (by omega), newf, if_neg (fun c => absurd c.2 (by have h1 := Hfn.out; rw [Hfv.out]; omega))]
                          · by_cases e2 : j < r
                            · rw [if_pos e2, if_pos (by omega)]
                            · rw [if_neg e2, if_neg (by omega)]
                  · obtain rfl : r = 6 := by omega
                    go_wp2_with fail
                    go_roundg (ops.length - (k + 1))
                    case measure => omega
                    case rel =>
                      refine ⟨k + 1, by omega, rfl, by go_num, ?_⟩
                      rw [Hn3.out, Hs'.out]
                      exact hmr.congrF fun j hj => by rw [if_pos hj]
        · obtain rfl : k = ops.length := by omega
          go_wp2_with fail
          go_meet
          case rel => exact hm
end Go.Proofs.Ybulkri.A
