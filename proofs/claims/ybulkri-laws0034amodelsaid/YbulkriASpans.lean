/-
  LawS0034AModel: (*Schedule).spans.
-/
import Derived.Test.YbulkriASpansB
namespace Go.Proofs.Ybulkri.A
open Go.RowKit
set_option linter.unusedVariables false
set_option linter.unusedSimpArgs false

/-- the latest span of each transaction, at item x whose spans begin at s0 -/
structure SInv (x s0 nT : Nat) (L : List (Nat × Nat)) (so : List Int) : Prop where
  len : so.length = nT
  rng : ∀ t, t < nT → -1 ≤ so.getD t 0 ∧ so.getD t 0 < L.length
  at' : ∀ t, t < nT → (s0 : Int) ≤ so.getD t 0 → L.getD (so.getD t 0).toNat (0, 0) = (t, x)
  has : ∀ t, t < nT → (t, x) ∈ L → (s0 : Int) ≤ so.getD t 0

theorem SInv.start {x nT : Nat} {L : List (Nat × Nat)} {so : List Int} (hl : so.length = nT) (hr : ∀ t, t < nT → -1 ≤ so.getD t 0 ∧ so.getD t 0 < L.length) (hx : ∀ p ∈ L, p.2 < x) : SInv x L.length nT L so :=
  ⟨hl, hr, fun t ht h => by have := (hr t ht).2; omega, fun t ht h => by have := hx _ h; simp at this⟩

theorem SInv.new {x s0 nT t : Nat} {L : List (Nat × Nat)} {so : List Int} (h : SInv x s0 nT L so) (hs : s0 ≤ L.length) (ht : t < nT) (hlt : so.getD t 0 < (s0 : Int)) : addSpan L t x = L ++ [(t, x)] ∧ SInv x s0 nT (L ++ [(t, x)]) (so.set t (L.length : Int)) := by
  have hn : (t, x) ∉ L := fun hm => by have := h.has t ht hm; omega
  refine ⟨by unfold addSpan; rw [if_neg hn], by simp [h.len], fun u hu => ?_, fun u hu hle => ?_, fun u hu hm => ?_⟩
  · rw [getD_set _ _ _ _ _ (by rw [h.len]; exact ht)]
    have := h.rng u hu
    rw [List.length_append]
    simp only [List.length_cons, List.length_nil]
    by_cases e : u = t
    · rw [if_pos e]
      omega
    · rw [if_neg e]
      omega
  · rw [getD_set _ _ _ _ _ (by rw [h.len]; exact ht)] at hle ⊢
    by_cases e : u = t
    · rw [if_pos e] at hle ⊢
      subst e
      simp [List.getD_eq_getElem?_getD]
    · rw [if_neg e] at hle ⊢
      have h1 := h.at' u hu hle
      have h2 := h.rng u hu
      rw [List.getD_eq_getElem?_getD, List.getElem?_append_left (by omega), ← List.getD_eq_getElem?_getD]
      exact h1
  · rw [getD_set _ _ _ _ _ (by rw [h.len]; exact ht)]
    by_cases e : u = t
    · rw [if_pos e]; omega
    · rw [if_neg e]
      rw [List.mem_append] at hm
      rcases hm with hm | hm
      · exact h.has u hu hm
      · simp only [List.mem_singleton, Prod.mk.injEq] at hm
        exact absurd hm.1 e

theorem SInv.old {x s0 nT t : Nat} {L : List (Nat × Nat)} {so : List Int} (h : SInv x s0 nT L so) (ht : t < nT) (hle : (s0 : Int) ≤ so.getD t 0) : addSpan L t x = L := by
  unfold addSpan
  rw [if_pos]
  have h1 := h.at' t ht hle
  have h2 := h.rng t ht
  rw [← h1, List.getD_eq_getElem?_getD, List.getElem?_eq_getElem (show (so.getD t 0).toNat < L.length by omega)]
  simp

theorem addAll_snoc (L : List (Nat × Nat)) (x : Nat) (ts : List Nat) (t : Nat) : addAll L x (ts ++ [t]) = addSpan (addAll L x ts) t x := by
  simp [addAll, List.foldl_append]

/-- the transactions of item x's accesses -/
def tsOf (ops : List (Int × Int × Int)) (x : Nat) : List Nat := (grp (acc ops ops.length) x).map fun i => (ops.getD i (0, 0, 0)).2.1.toNat

theorem tsOf_take {ops : List (Int × Int × Int)} {x j : Nat} (hj : j < (grp (acc ops ops.length) x).length) : (tsOf ops x).take (j + 1) = (tsOf ops x).take j ++ [(ops.getD ((grp (acc ops ops.length) x).getD j 0) (0, 0, 0)).2.1.toNat] := by
  have hl : j < (tsOf ops x).length := by simpa [tsOf] using hj
  rw [List.take_succ_eq_append_getElem hl]
  have e : (grp (acc ops ops.length) x).getD j 0 = (grp (acc ops ops.length) x)[j] := by
    rw [List.getD_eq_getElem?_getD, List.getElem?_eq_getElem hj]
    rfl
  rw [e]
  simp [tsOf]


theorem SpAt.setOther {w : World} {n g0 : Nat} {L : List (Nat × Nat)} (h : SpAt w n (some ⟨g0, 0, none⟩) L) {p : Addr} (hp : g0 ≠ p.block) (v : Value) : SpAt (w.setCell p v) n (some ⟨g0, 0, none⟩) L := by
  intro h0
  obtain ⟨g, e, hg, hc⟩ := h h0
  obtain rfl : g = g0 := by simpa using e.symm
  have hq : ∀ j, (w.setCell p v).cell? ⟨g, j, none⟩ = w.cell? ⟨g, j, none⟩ := fun j => World.cell?_of_block (w := w) (Below.heap_setCell _ _ _ _ hp)
  refine ⟨g, rfl, hg, fun k hk => ?_⟩
  obtain ⟨c0, c1, a, b, c, d, c2, c3, c4, c5⟩ := hc k hk
  exact ⟨(hq _).trans c0, (hq _).trans c1, a, b, c, d, (hq _).trans c2, (hq _).trans c3, (hq _).trans c4, (hq _).trans c5⟩
theorem GAt.setLow {w : World} {B n : Nat} {xs : List (Nat × Nat)} {gs : Nat} {av : Option Addr} {st vs : List Int} (h : GAt w B n xs gs av st vs) {p : Addr} (hp : p.block < B) (v : Value) : GAt (w.setCell p v) B n xs gs av st vs :=
  ⟨Blk.setOther h.row (by have := h.le; omega) v, h.le, h.grp, by
    rcases h.vals with e | ⟨gv, e, hr, hl⟩
    · exact .inl e
    · exact .inr ⟨gv, e, Blk.setOther hr (by omega) v, hl⟩⟩

/-- the spans' transactions are in range -/
theorem txp_keys {ops : List (Int × Int × Int)} {nT nX : Nat} (hi : ∀ i, i < ops.length → 0 ≤ (ops.getD i (0, 0, 0)).2.2 → (ops.getD i (0, 0, 0)).2.2.toNat < nX) (htx : ∀ i, i < ops.length → 0 ≤ (ops.getD i (0, 0, 0)).2.1 ∧ (ops.getD i (0, 0, 0)).2.1.toNat < nT) (L : List (Nat × Nat)) (hL : L = spansUp (tsOf ops) nX) (hl : L.length ≤ 4096) : ∀ p ∈ txp L L.length, p.1 < nT ∧ p.2 ≤ 4096 := by
  intro p hp
  simp only [txp, List.mem_map, List.mem_range] at hp
  obtain ⟨k, hk, rfl⟩ := hp
  refine ⟨?_, by dsimp only; omega⟩
  have hm : L.getD k (0, 0) ∈ L := by
    rw [List.getD_eq_getElem?_getD, List.getElem?_eq_getElem hk]
    exact List.getElem_mem hk
  have hm2 : L.getD k (0, 0) ∈ spansUp (tsOf ops) nX := hL ▸ hm
  obtain ⟨_, h2⟩ := mem_spansUp.1 hm2
  simp only [tsOf, List.mem_map] at h2
  obtain ⟨i, hig, hie⟩ := h2
  have hil : i < ops.length := by
    unfold grp at hig
    simp only [List.mem_map, List.mem_filter] at hig
    obtain ⟨q, ⟨hq, _⟩, rfl⟩ := hig
    exact (acc_mem hi ops.length (Nat.le_refl _) q hq).2
  dsimp only
  rw [← hie]
  exact (htx i hil).2

set_option maxHeartbeats 8000000 in
set_option maxRecDepth 100000 in
theorem spans_any {w : World} {S go co : Nat} {at' : Option Addr} {ct : Nat} {ai : Option Addr} {ci : Nat} {ops : List (Int × Int × Int)} {nT nX : Nat} (h : SchR w w.heap.size S go co at' ct ai ci ops nT nX) (hl : ops.length ≤ 1024) (hX : nX ≤ 1024) (hT : nT ≤ 1024)
    (hi : ∀ i, i < ops.length → 0 ≤ (ops.getD i (0, 0, 0)).2.2 → (ops.getD i (0, 0, 0)).2.2.toNat < nX) (htx : ∀ i, i < ops.length → 0 ≤ (ops.getD i (0, 0, 0)).2.1 ∧ (ops.getD i (0, 0, 0)).2.1.toNat < nT) :
    Calls Yba.prog 13 #[.pointer (some ⟨S, 0, none⟩), .func (.func 14) #[] #[]] w fun e w' => ∃ g0 M a1 n1 c1 aw m cw a3 n3 c3 gs av st vs, e = .returned (.agg #[.slice (some ⟨g0, 0, none⟩) (spansUp (tsOf ops) nX).length M, .slice a1 n1 c1, .slice aw m cw, .slice a3 n3 c3, .slice (some ⟨gs, 0, none⟩) (nT + 1) (nT + 1), .slice av (spansUp (tsOf ops) nX).length (spansUp (tsOf ops) nX).length]) ∧
      SpAt w' w'.heap.size (some ⟨g0, 0, none⟩) (spansUp (tsOf ops) nX) ∧ w.heap.size ≤ g0 ∧ GAt w' w.heap.size nT (txp (spansUp (tsOf ops) nX) (spansUp (tsOf ops) nX).length) gs av st vs ∧ (spansUp (tsOf ops) nX).length ≤ 4096 ∧ Below w.heap.size w w' := by
  have Hi0 : Hid (∀ i, i < ops.length → 0 ≤ (ops.getD i (0, 0, 0)).2.2 → (ops.getD i (0, 0, 0)).2.2.toNat < nX) := hi
  have hS := h.hS
  have hgo := h.hgo
  have hb1 := (Below.refl w.heap.size w).alloc (Nat.le_refl _) (.cells #[.slice none 0 0, .slice none 0 0, .slice none 0 0, .slice none 0 0, .slice none 0 0, .slice none 0 0] 56)
  have hR := Blk.new w 56 #[.slice none 0 0, .slice none 0 0, .slice none 0 0, .slice none 0 0, .slice none 0 0, .slice none 0 0]
  have hsz : (w.alloc (.cells #[.slice none 0 0, .slice none 0 0, .slice none 0 0, .slice none 0 0, .slice none 0 0, .slice none 0 0] 56)).heap.size = w.heap.size + 1 := by simp
  have h1 : SchR (w.alloc (.cells #[.slice none 0 0, .slice none 0 0, .slice none 0 0, .slice none 0 0, .slice none 0 0, .slice none 0 0] 56)) (w.heap.size + 1) S go co at' ct ai ci ops nT nX := by
    have := h.below hb1
    exact ⟨by omega, by omega, this.c0, this.c1, this.c2, this.op⟩
  rw [← hsz] at h1
  have hac := accesses_any h1 hl hX hi
  rw [hsz] at hac
  have Hac : Hid (Calls Yba.prog 22 #[.pointer (some ⟨S, 0, none⟩), .func (.func 14) #[] #[]] (w.alloc (.cells #[.slice none 0 0, .slice none 0 0, .slice none 0 0, .slice none 0 0, .slice none 0 0, .slice none 0 0] 56)) _) := hac
  have hM := acc_length ops ops.length
  obtain ⟨C, hCs, hmk0⟩ := make_spans (acc ops ops.length).length (by omega)
  have hmk1 : ∀ w : World, (Instr.makeSlice 29 (.int .i64 ((nX : Int) + 1)) (.int .i64 ((nX : Int) + 1))).run Yba.prog w = .ok (.slice (some ⟨w.heap.size, 0, none⟩) (nX + 1) (nX + 1)) (w.alloc (.cells (Array.replicate (nX + 1) (Value.int .i64 0)) 3)) := make_ints (nX + 1) (by omega)
  clear hac
  go_enter Yba.func13, Yba.ntmps13
  go_wp2_with (go_at_call 22; refine Hac.out.mono ?_; rintro e w2 ⟨gs, av, st, vs, rfl, hga, hbel⟩)
  have hA := Blk.new w2 54 #[.slice (some ⟨gs, 0, none⟩) (nX + 1) (nX + 1), .slice av (acc ops ops.length).length (acc ops ops.length).length]
  have hR2 := (hR.below hbel (Nat.lt_succ_self _)).alloc (.cells #[.slice (some ⟨gs, 0, none⟩) (nX + 1) (nX + 1), .slice av (acc ops ops.length).length (acc ops ops.length).length] 54)
  have hg2 := hga.below ((Below.refl w2.heap.size w2).alloc (Nat.le_refl _) (.cells #[.slice (some ⟨gs, 0, none⟩) (nX + 1) (nX + 1), .slice av (acc ops ops.length).length (acc ops ops.length).length] 54))
  have hbw2 : Below w.heap.size w (w2.alloc (.cells #[.slice (some ⟨gs, 0, none⟩) (nX + 1) (nX + 1), .slice av (acc ops ops.length).length (acc ops ops.length).length] 54)) := (hb1.trans (hbel.mono (Nat.le_succ _))).alloc (by have := hbel.size; omega) _
  have hAge : w.heap.size < w2.heap.size := by have := hbel.size; omega
  generalize w2.alloc (.cells #[.slice (some ⟨gs, 0, none⟩) (nX + 1) (nX + 1), .slice av (acc ops ops.length).length (acc ops ops.length).length] 54) = W at *
  generalize w2.heap.size = A at *
  have h2 := h.below hbw2
  have cA1 := hA.cellOf (j := 1) rfl
  have cS2 := h2.c2
  obtain ⟨M, hMe⟩ : ∃ M, M = (acc ops ops.length).length := ⟨_, rfl⟩
  rw [← hMe] at hA cA1 hmk0 hM hCs
  have HMe : Hid (M = (acc ops ops.length).length) := hMe
  clear hMe
  have hwr : IntKind.i64.wrap ((nX : Int) + 1) = (nX : Int) + 1 := wrapI _ (by omega)
  have hSl : Hid (S < W.heap.size) := (by have := hbw2.size; omega : S < W.heap.size)
  clear hga hbel hb1 hR hsz h1 Hac
  go_cut [6] (fun t6 wc => ∃ T g0 g1 g3, t6 = .pointer (some ⟨T, 0, none⟩) ∧ Blk wc T 56 #[.slice (some ⟨g0, 0, none⟩) 0 M, .slice (some ⟨g1, 0, none⟩) (nX + 1) (nX + 1), .slice none 0 0, .slice (some ⟨g3, 0, none⟩) (nX + 1) (nX + 1), .slice none 0 0, .slice none 0 0] ∧ Blk wc g0 63 C ∧ Blk wc g1 3 (Array.replicate (nX + 1) (Value.int .i64 0)) ∧ Blk wc g3 3 (Array.replicate (nX + 1) (Value.int .i64 0)) ∧ g1 ≠ g3 ∧ W.heap.size ≤ T ∧ W.heap.size ≤ g0 ∧ W.heap.size ≤ g1 ∧ W.heap.size ≤ g3 ∧ Below W.heap.size W wc)
  case first =>
    refine spans_make hA cS2 hSl hX (by omega) hmk0 hmk1 (fun T g0 g1 g3 wc hf => ?_)
    go_wp2_with fail
    go_meet
    case rel => exact ⟨T, g0, g1, g3, rfl, hf⟩
  case rest =>
    obtain ⟨T, g0, g1, g3, rfl, hTb, h0b, h1b, h3b, hne, lT, l0, l1, l3, hbW⟩ := hcut
    have hmk2 := make_ints nT (by omega)
    have cS1 : wc.cell? ⟨S, 1, none⟩ = some (.slice at' nT ct) := (hbW.cell (p := ⟨S, 1, none⟩) hSl.out).trans h2.c1
    have hsc : SpC W.heap.size T g0 g1 g3 wc.heap.size := ⟨⟨lT, hTb.lt⟩, ⟨l0, h0b.lt⟩, ⟨l1, h1b.lt⟩, ⟨l3, h3b.lt⟩, hne⟩
    have hs0 : SpSt W W.heap.size T g0 g1 g3 wc.heap.size nX M (.slice none 0 0) [] [] (List.replicate (nX + 1) 0) (List.replicate (nX + 1) 0) (List.replicate nT 0) 0 (wc.alloc (.cells (Array.replicate nT (Value.int .i64 0)) 3)) :=
      ⟨hTb.alloc _, Blk.alloc (irow_of h1b) _, Blk.alloc (irow_of h3b) _, IRow.new wc nT, ⟨by simp, .inr ⟨g0, M, C, rfl, l0, h0b.alloc _, Nat.zero_le _, by unfold maxLen; omega, hCs, by simp⟩⟩, ⟨[], World.ownsRow_nil _ _ _ _⟩, hbW.alloc (by have := hbW.size; omega) _⟩
    clear hmk0 hmk1 cA1 cS2 hwr hTb h0b h1b h3b hne lT l0 l1 l3
    have Hh : Hid (SchR W w.heap.size S go co at' ct ai ci ops nT nX) := h2
    have Hhi : Hid (∀ i, i < ops.length → 0 ≤ (ops.getD i (0, 0, 0)).2.2 → (ops.getD i (0, 0, 0)).2.2.toNat < nX) := hi
    have Htx : Hid (∀ i, i < ops.length → 0 ≤ (ops.getD i (0, 0, 0)).2.1 ∧ (ops.getD i (0, 0, 0)).2.1.toNat < nT) := htx
    clear h h2 hi htx
    go_upto_block 0 with fail
    generalize wc.alloc (.cells (Array.replicate nT (Value.int .i64 0)) 3) = W3 at *
    generalize wc.heap.size = gso at *
    clear cS1 hbW hmk2
    go_cut [] (fun wc => ∃ so, SpSt W W.heap.size T g0 g1 g3 gso nX M (.slice none 0 0) [] [] (List.replicate (nX + 1) 0) (List.replicate (nX + 1) 0) so 0 wc ∧ so.length = nT ∧ ∀ t, t < nT → so.getD t 0 = -1)
    case first =>
      go_wp2_with fail
      go_loopg [44] nT (fun g i wr => ∃ (j : Nat) (so : List Int), j ≤ nT ∧ g = nT - j ∧ i = .int .i64 j ∧ SpSt W W.heap.size T g0 g1 g3 gso nX M (.slice none 0 0) [] [] (List.replicate (nX + 1) 0) (List.replicate (nX + 1) 0) so 0 wr ∧ so.length = nT ∧ ∀ t, t < j → so.getD t 0 = -1)
      case atStart => exact ⟨0, _, Nat.zero_le _, rfl, rfl, hs0, by simp, fun t ht => absurd ht (Nat.not_lt_zero _)⟩
      case round =>
        obtain ⟨j, so, hj, rfl, rfl, hs, hsl, hso⟩ := hrel
        by_cases hlt : j < nT
        · have cso := hs.so.cellOf (j := j) (by omega)
          have fso := Blk.frozen hs.so j
          have Hso : Hid (∀ t, t < j → so.getD t 0 = -1) := hso
          clear hso
          go_wp2_with fail
          go_roundg (nT - (j + 1))
          case measure => omega
          case rel =>
            refine ⟨j + 1, _, by omega, rfl, by go_num, hs.setSo hsc j (-1), by simp [hsl], fun t ht => ?_⟩
            rw [getD_set _ _ _ _ _ (by omega)]
            by_cases e : t = j
            · rw [if_pos e]
            · rw [if_neg e]
              exact Hso.out t (by omega)
        · obtain rfl : j = nT := by omega
          have Hso : Hid (∀ t, t < j → so.getD t 0 = -1) := hso
          clear hso
          go_wp2_with fail
          go_meet
          case rel => exact ⟨so, hs, hsl, Hso.out⟩
    case rest =>
      clear hs0
      obtain ⟨so0, hs0, hsl0, hso0⟩ := hcut
      obtain ⟨xs, hxs⟩ : ∃ xs, xs = acc ops ops.length := ⟨_, rfl⟩
      rw [← hxs] at HMe hg2
      have hoffl : ∀ j, off xs j ≤ 1024 := fun j => by have := off_le xs j; have := HMe.out; omega
      have Hxs : Hid (xs = acc ops ops.length) := hxs
      have Hso0 : Hid (∀ t, t < nT → so0.getD t 0 = -1) := hso0
      have hAlt := hA.lt
      clear hxs hso0
      have cS2 := (hs0.b.cell (p := ⟨S, 2, none⟩) hSl.out).trans Hh.out.c2
      go_upto_block 2 with fail
      clear cS2
      go_cut [] (fun wc => ∃ vw zs l1 l3 so m, SpSt W W.heap.size T g0 g1 g3 gso nX M vw (spansUp (tsOf ops) nX) zs l1 l3 so m wc ∧ Shown (spansUp (tsOf ops) nX) zs ∧ l1.length = nX + 1 ∧ l3.length = nX + 1 ∧ (spansUp (tsOf ops) nX).length ≤ 1024 ∧ m ≤ 1024)
      case first =>
        go_wp2_with fail
        go_loopg [56] nX (fun g i wr => ∃ (x : Nat) (vw : Value) (zs l1 l3 so : List Int) (m : Nat), x ≤ nX ∧ g = nX - x ∧ i = .int .i64 x ∧ SpSt W W.heap.size T g0 g1 g3 gso nX M vw (spansUp (tsOf ops) x) zs l1 l3 so m wr ∧ Shown (spansUp (tsOf ops) x) zs ∧ l1.length = nX + 1 ∧ l3.length = nX + 1 ∧ so.length = nT ∧ (∀ t, t < nT → -1 ≤ so.getD t 0 ∧ so.getD t 0 < (spansUp (tsOf ops) x).length) ∧ (spansUp (tsOf ops) x).length ≤ off xs x ∧ m ≤ off xs x)
        case atStart => exact ⟨0, _, [], _, _, so0, 0, Nat.zero_le _, rfl, rfl, hs0, fun k hk => absurd hk (Nat.not_lt_zero _), by simp, by simp, hsl0, fun t ht => by rw [Hso0.out t ht]; exact ⟨by omega, by simp [spansUp]⟩, Nat.zero_le _, Nat.zero_le _⟩
        case round =>
          clear hs0 hsl0 Hso0
          obtain ⟨x, vw, zs, l1, l3, so, m, hx, rfl, rfl, hs, hsh, hl1, hl3, hsl, hrng, hLo, hmo⟩ := hrel
          by_cases hlt : x < nX
          · obtain ⟨L, hL⟩ : ∃ L, L = spansUp (tsOf ops) x := ⟨_, rfl⟩
            have hLx : ∀ p ∈ L, p.2 < x := fun p hp => by rw [hL] at hp; exact (mem_spansUp.1 hp).1
            have HL1 : Hid (spansUp (tsOf ops) (x + 1) = addAll L x (tsOf ops x)) := by rw [hL]; exact rfl
            rw [← hL] at hs hsh hrng hLo
            have hinv := SInv.start hsl hrng hLx
            clear hL hrng hLx
            have hLb : L.length ≤ 1024 := by have := hoffl x; omega
            obtain ⟨xw, hxw⟩ := hs.wr
            obtain ⟨aw, cw, rfl, _, _⟩ := own_shape hxw
            clear hxw xw
            have cT0 : wr.cell? ⟨T, 0, none⟩ = some (.slice (some ⟨g0, 0, none⟩) L.length M) := hs.t.cellOf (j := 0) rfl
            have cT1 : wr.cell? ⟨T, 1, none⟩ = some (.slice (some ⟨g1, 0, none⟩) (nX + 1) (nX + 1)) := hs.t.cellOf (j := 1) rfl
            have c1 := hs.st.cellOf (j := x) (by omega)
            have f1 := Blk.frozen hs.st x
            have hs1 := hs.setSt hsc x (L.length : Int)
            have cT2' := hs1.t.cellOf (j := 2) rfl
            have cT3' := hs1.t.cellOf (j := 3) rfl
            have c3' := hs1.ws.cellOf (j := x) (by omega)
            have f3' := Blk.frozen hs1.ws x
            have hs2 := hs1.setWs hsc x (m : Int)
            have cA0'' := (hs2.b.cell (p := ⟨A, 0, none⟩) hAlt).trans (hA.cellOf (j := 0) rfl)
            have cA1'' := (hs2.b.cell (p := ⟨A, 1, none⟩) hAlt).trans (hA.cellOf (j := 1) rfl)
            have hof := of_any (hg2.below hs2.b) hX (by have := HMe.out; omega) hlt
            rw [← HMe.out] at hof
            have Hof : Hid (Calls Yba.prog 16 #[.agg #[.slice (some ⟨gs, 0, none⟩) (nX + 1) (nX + 1), .slice av M M], .int .i64 x] ((wr.setCell ⟨g1, x, none⟩ (.int .i64 (L.length : Int))).setCell ⟨g3, x, none⟩ (.int .i64 (m : Int))) _) := hof
            clear hof
            go_upto_block 4 with (go_at_call 16; refine Hof.out.mono ?_; rintro e w' ⟨ao, rfl, _, hbof, hnat⟩)
            have hs3 := hs2.below hsc hbof
            have hnW := hnat W _ hg2
            have hls0 : (l1.set x (L.length : Int)).getD x 0 = (L.length : Int) := by rw [getD_set _ _ _ _ _ (by omega), if_pos rfl]
            have hl1' : (l1.set x (L.length : Int)).length = nX + 1 := by simp [hl1]
            have hl3' : (l3.set x (m : Int)).length = nX + 1 := by simp [hl3]
            obtain ⟨s0, hs0e⟩ : ∃ s0, s0 = L.length := ⟨_, rfl⟩
            rw [← hs0e] at hinv hls0 hl1'
            have Hgl : Hid ((grp xs x).length = (tsOf ops x).length) := by
              rw [Hxs.out]
              exact (by simp [tsOf] : (grp (acc ops ops.length) x).length = (tsOf ops x).length)
            have hgle : off xs x + (grp xs x).length ≤ 1024 := by have := hoffl (x + 1); rw [off_succ] at this; exact this
            have hgM : off xs x + (grp xs x).length ≤ M := by have := off_le xs (x + 1); rw [off_succ] at this; have := HMe.out; omega
            have hs0L : s0 ≤ L.length := by omega
            rw [← hs0e] at hs3
            generalize hl1n : l1.set x (s0 : Int) = l1' at *
            generalize hl3n : l3.set x (m : Int) = l3' at *
            clear hs hs1 hs2 hl1n hl3n cT0 cT1 c1 f1 cT2' cT3' c3' f3' cA0'' cA1'' Hof hbof hl1 hl3 hs0e
            go_wp2_with fail
            go_loopg [77] (grp xs x).length (fun g i wr => ∃ (j : Nat) (vw : Value) (zs so : List Int) (m : Nat), j ≤ (grp xs x).length ∧ g = (grp xs x).length - j ∧ i = .int .i64 j ∧ SpSt W W.heap.size T g0 g1 g3 gso nX M vw (addAll L x ((tsOf ops x).take j)) zs l1' l3' so m wr ∧ Shown (addAll L x ((tsOf ops x).take j)) zs ∧ SInv x s0 nT (addAll L x ((tsOf ops x).take j)) so ∧ s0 ≤ (addAll L x ((tsOf ops x).take j)).length ∧ (addAll L x ((tsOf ops x).take j)).length ≤ off xs x + j ∧ m ≤ off xs x + j)
            case atStart => exact ⟨0, _, zs, so, m, Nat.zero_le _, rfl, rfl, hs3, hsh, hinv, hs0L, hLo, hmo⟩
            case round =>
              clear hs3 hsh hinv hs0L hmo hsl
              obtain ⟨j, vw, zs, so, m, hj, rfl, rfl, hs, hsh, hinv, hs0L, hLj, hmj⟩ := hrel
              by_cases hjl : j < (grp xs x).length
              · obtain ⟨i, hie⟩ : ∃ i, i = (grp xs x).getD j 0 := ⟨_, rfl⟩
                have himem : i ∈ grp xs x := by rw [hie, List.getD_eq_getElem?_getD, List.getElem?_eq_getElem hjl]; simp
                have hilt : i < ops.length := by
                  have := mem_grp.1 himem
                  rw [Hxs.out] at this
                  exact (acc_mem Hhi.out ops.length (Nat.le_refl _) _ this).2
                obtain ⟨gv, ov, rfl, hgvl, hrow⟩ := hnW (by omega)
                have crow := (hs.b.cell (p := ⟨gv, ov + j, none⟩) hgvl).trans (hrow j hjl)
                rw [← hie] at crow
                have hop := Hh.out.below (hs.b.mono hbw2.size)
                obtain ⟨d0, d1, d2⟩ := hop.op i hilt
                have hS0 := hop.c0
                have ht1 := Htx.out i hilt
                have Hts : Hid ((tsOf ops x).take (j + 1) = (tsOf ops x).take j ++ [(ops.getD i (0, 0, 0)).2.1.toNat]) := by
                  have := tsOf_take (ops := ops) (x := x) (j := j) (by rw [← Hxs.out]; exact hjl)
                  rw [← Hxs.out, ← hie] at this
                  exact this
                obtain ⟨⟨kd, t', x0⟩, ho⟩ : ∃ o, o = ops.getD i (0, 0, 0) := ⟨_, rfl⟩
                rw [← ho] at d0 d1 d2 ht1 Hts
                dsimp only at d0 d1 d2 ht1 Hts
                obtain ⟨t, rfl⟩ : ∃ t : Nat, t' = t := ⟨t'.toNat, by omega⟩
                have htn : t < nT := by simpa using ht1.2
                have HLn : Hid (addAll L x ((tsOf ops x).take (j + 1)) = addSpan (addAll L x ((tsOf ops x).take j)) t x) := by
                  rw [Hts.out, addAll_snoc]
                  simp [Hid]
                obtain ⟨Lj, hLje⟩ : ∃ Lj, Lj = addAll L x ((tsOf ops x).take j) := ⟨_, rfl⟩
                rw [← hLje] at hs hsh hinv hs0L hLj HLn
                clear hie himem ho ht1 Hts hLje hrow hop
                go_upto_region 18 with fail
                have hs4 := hs.alloc hsc (.cells #[.int .u8 kd, .int .i64 (t : Int), .int .i64 x0] 34)
                have hob := Blk.new wr 34 #[.int .u8 kd, .int .i64 (t : Int), .int .i64 x0]
                have hBo : gso < wr.heap.size := hs.size
                generalize wr.alloc (.cells #[.int .u8 kd, .int .i64 (t : Int), .int .i64 x0] 34) = W4 at *
                generalize wr.heap.size = Bo at *
                clear hs d0 d1 d2 crow hS0
                have cq := hs4.so.cellOf (j := t) (by rw [hinv.len]; exact htn)
                have hqr := hinv.rng t htn
                obtain ⟨q, hq⟩ : ∃ q, q = so.getD t 0 := ⟨_, rfl⟩
                rw [← hq] at cq hqr
                have Hq : Hid (q = so.getD t 0) := hq
                have co1 : W4.cell? ⟨Bo, 1, none⟩ = some (.int .i64 (t : Int)) := hob.cellOf (j := 1) rfl
                have cT1 : W4.cell? ⟨T, 1, none⟩ = some (.slice (some ⟨g1, 0, none⟩) (nX + 1) (nX + 1)) := hs4.t.cellOf (j := 1) rfl
                have cs0 := hs4.st.cellOf (j := x) (by rw [hl1']; omega)
                rw [hls0] at cs0
                have it1 : (t : Int) < (nT : Int) := by omega
                have ix1 : (x : Int) < (nX : Int) + 1 := by omega
                clear hq
                obtain ⟨bd, hbd⟩ : ∃ bd, decide (q < (s0 : Int)) = bd := ⟨_, rfl⟩
                go_cut [98] (fun b wc => W4.drew = wc ∧ b = .bool bd)
                case first =>
                  refine wp_region_noPanic ?_
                  refine wp_region_held_drew (S := fun w' => w'.cell? ⟨Bo, 1, none⟩ = some (.int .i64 (t : Int)) ∧ w'.cell? ⟨gso, t, none⟩ = some (.int .i64 q) ∧ w'.cell? ⟨T, 1, none⟩ = some (.slice (some ⟨g1, 0, none⟩) (nX + 1) (nX + 1)) ∧ w'.cell? ⟨g1, x, none⟩ = some (.int .i64 (s0 : Int))) (by kernel_rfl) ⟨co1, cq, cT1, cs0⟩ (fun hHeld => ?_)
                  refine wpAnyH_take (i := 0) (v := .slice (some ⟨gso, 0, none⟩) nT nT) rfl (by kernel_rfl) (by kernel_rfl) (by kernel_rfl) (fun _ _ _ h => h) (Or.inl ⟨by rfl, fun w hSw => by go_simp⟩) hHeld ?_
                  try simp only [Act.put, List.setIfInBounds_toArray, List.set_cons_zero, List.set_cons_succ]
                  refine wpAnyH_take (i := 1) (v := .pointer (some ⟨Bo, 1, none⟩)) rfl (by kernel_rfl) (by kernel_rfl) (by kernel_rfl) (fun _ _ _ h => h) (Or.inl ⟨by rfl, fun w hSw => by go_simp⟩) hHeld ?_
                  try simp only [Act.put, List.setIfInBounds_toArray, List.set_cons_zero, List.set_cons_succ]
                  refine wpAnyH_take (i := 2) (v := .int .i64 (t : Int)) rfl (by kernel_rfl) (by kernel_rfl) (by kernel_rfl) (fun _ _ _ h => h) (Or.inl ⟨by rfl, fun w hSw => by go_simp⟩) hHeld ?_
                  try simp only [Act.put, List.setIfInBounds_toArray, List.set_cons_zero, List.set_cons_succ]
                  refine wpAnyH_take (i := 3) (v := .pointer (some ⟨gso, t, none⟩)) rfl (by kernel_rfl) (by kernel_rfl) (by kernel_rfl) (fun _ _ _ h => h) (Or.inl ⟨by rfl, fun w hSw => by go_simp⟩) hHeld ?_
                  try simp only [Act.put, List.setIfInBounds_toArray, List.set_cons_zero, List.set_cons_succ]
                  refine wpAnyH_take (i := 4) (v := .int .i64 q) rfl (by kernel_rfl) (by kernel_rfl) (by kernel_rfl) (fun _ _ _ h => h) (Or.inl ⟨by rfl, fun w hSw => by go_simp⟩) hHeld ?_
                  try simp only [Act.put, List.setIfInBounds_toArray, List.set_cons_zero, List.set_cons_succ]
                  refine wpAnyH_take (i := 5) (v := .pointer (some ⟨T, 1, none⟩)) rfl (by kernel_rfl) (by kernel_rfl) (by kernel_rfl) (fun _ _ _ h => h) (Or.inl ⟨by rfl, fun w hSw => by go_simp⟩) hHeld ?_
                  try simp only [Act.put, List.setIfInBounds_toArray, List.set_cons_zero, List.set_cons_succ]
                  refine wpAnyH_take (i := 6) (v := .slice (some ⟨g1, 0, none⟩) (nX + 1) (nX + 1)) rfl (by kernel_rfl) (by kernel_rfl) (by kernel_rfl) (fun _ _ _ h => h) (Or.inl ⟨by rfl, fun w hSw => by go_simp⟩) hHeld ?_
                  try simp only [Act.put, List.setIfInBounds_toArray, List.set_cons_zero, List.set_cons_succ]
                  refine wpAnyH_take (i := 7) (v := .int .i64 x) rfl (by kernel_rfl) (by kernel_rfl) (by kernel_rfl) (fun _ _ _ h => h) (Or.inl ⟨by rfl, fun w hSw => by go_simp⟩) hHeld ?_
                  try simp only [Act.put, List.setIfInBounds_toArray, List.set_cons_zero, List.set_cons_succ]
                  refine wpAnyH_take (i := 8) (v := .pointer (some ⟨g1, x, none⟩)) rfl (by kernel_rfl) (by kernel_rfl) (by kernel_rfl) (fun _ _ _ h => h) (Or.inl ⟨by rfl, fun w hSw => by go_simp⟩) hHeld ?_
                  try simp only [Act.put, List.setIfInBounds_toArray, List.set_cons_zero, List.set_cons_succ]
                  refine wpAnyH_take (i := 9) (v := .int .i64 (s0 : Int)) rfl (by kernel_rfl) (by kernel_rfl) (by kernel_rfl) (fun _ _ _ h => h) (Or.inl ⟨by rfl, fun w hSw => by go_simp⟩) hHeld ?_
                  try simp only [Act.put, List.setIfInBounds_toArray, List.set_cons_zero, List.set_cons_succ]
                  refine wpAnyH_ready (rs := [10]) (by kernel_rfl) (by simp) ?_
                  refine AllReadyH.cons rfl (fun K hK => ?_) AllReadyH.nil
                  go_simp
                  refine hK.out _ _ (hHeld) (fun hHeld => ?_)
                  clear hK K
                  try simp only [Act.put, List.setIfInBounds_toArray, List.set_cons_zero, List.set_cons_succ]
                  refine wpAnyH_done (by kernel_rfl) ?_ _
                  refine NoPanic.normal ?_
                  go_wp2_with fail
                  go_meet
                  case rel => exact ⟨rfl, rfl⟩
                case rest =>
                  obtain ⟨rfl, rfl⟩ := hcut
                  have hs5 := hs4.drew
                  have hob5 := hob.drew
                  clear cq co1 cT1 cs0 hs4 hob
                  generalize W4.drew = W5 at *
                  go_upto_if 98 with fail
                  go_cut [] (fun wc => ∃ (Lk : List (Nat × Nat)) (zs so : List Int) (k : Nat), SpSt W W.heap.size T g0 g1 g3 gso nX M vw Lk zs l1' l3' so m wc ∧ Shown Lk zs ∧ SInv x s0 nT Lk so ∧ Lk = addSpan Lj t x ∧ s0 ≤ Lk.length ∧ Lk.length ≤ off xs x + (j + 1) ∧ so.getD t 0 = (k : Int) ∧ k < Lk.length ∧ Blk wc Bo 34 #[.int .u8 kd, .int .i64 (t : Int), .int .i64 x0])
                  case first =>
                    have cT0 : W5.cell? ⟨T, 0, none⟩ = some (.slice (some ⟨g0, 0, none⟩) Lj.length M) := hs5.t.cellOf (j := 0) rfl
                    have co1 : W5.cell? ⟨Bo, 1, none⟩ = some (.int .i64 (t : Int)) := hob5.cellOf (j := 1) rfl
                    have cso5 := hs5.so.cellOf (j := t) (by rw [hinv.len]; exact htn)
                    have fso5 := Blk.frozen hs5.so t
                    cases bd with
                    | true =>
                      have hqs : q < (s0 : Int) := by simpa using hbd
                      have hnew := hinv.new hs0L htn (by rw [← Hq.out]; exact hqs)
                      have hs6 := hs5.setSo hsc t (Lj.length : Int)
                      have hob6 := hob5.setOther (a := ⟨gso, t, none⟩) (by show Bo ≠ gso; omega) (.int .i64 (Lj.length : Int))
                      obtain ⟨i63, hi63, hi63z, hi63s, hi63b⟩ := info_parts info63
                      have hzl : zs.length = Lj.length * 6 := by have := hs5.sp.1; simpa using this
                      clear hbd hqs
                      go_upto_region 20 with fail
                      generalize W5.setCell ⟨gso, t, none⟩ (.int .i64 (Lj.length : Int)) = W6 at *
                      clear cT0 co1 cso5 fso5 hs5 hob5
                      refine spans_push hsc hs6 hob6 hSl Hh.out.c0 (by omega) (by omega) hl (by omega) (by omega) (by omega) (fun wc v118 hsp1 hobn => ?_)
                      go_wp2_with fail
                      go_meet
                      case rel => exact ⟨_, _, _, Lj.length, hsp1, hsh.app hzl t x (i : Int) (ops.length : Int), hnew.2, hnew.1.symm, by simp; omega, by simp; omega, by rw [getD_set _ _ _ _ _ (by rw [hinv.len]; exact htn), if_pos rfl], by simp, hobn⟩
                    | false =>
                      have hqs : (s0 : Int) ≤ q := by simpa using hbd
                      have hold := hinv.old htn (by rw [← Hq.out]; exact hqs)
                      clear hbd
                      go_wp2_with fail
                      go_meet
                      case rel => exact ⟨Lj, zs, so, q.toNat, hs5, hsh, hinv, hold.symm, hs0L, by omega, by rw [← Hq.out]; omega, by omega, hob5⟩
                  case rest =>
                    clear hsh hinv hs0L hLj hob5 hs5 hqr Hq hbd
                    obtain ⟨Lk, zs, so, k, hs6, hsh, hinv, hLk0, hs0L, hLl, hsk, hkl, hob6⟩ := hcut
                    have HLk : Hid (Lk = addSpan Lj t x) := hLk0
                    clear hLk0
                    have ck := hs6.so.cellOf (j := t) (by rw [hinv.len]; exact htn)
                    rw [hsk] at ck
                    have co1 : wc.cell? ⟨Bo, 1, none⟩ = some (.int .i64 (t : Int)) := hob6.cellOf (j := 1) rfl
                    have cT0 : wc.cell? ⟨T, 0, none⟩ = some (.slice (some ⟨g0, 0, none⟩) Lk.length M) := hs6.t.cellOf (j := 0) rfl
                    have hLkb : Lk.length ≤ 1024 := by omega
                    have hzl : zs.length = Lk.length * 6 := by have := hs6.sp.1; simpa using this
                    have Hsk : Hid (so.getD t 0 = (k : Int)) := hsk
                    have ikl : (k : Int) < (Lk.length : Int) := by omega
                    clear hsk
                    go_upto_region 21 with fail
                    go_cut [13] (fun v wc' => wc.drew = wc' ∧ v = .pointer (some ⟨g0, k * 6, none⟩))
                    case first =>
                      refine wp_region_noPanic ?_
                      refine wp_region_held_drew (S := fun w' => w'.cell? ⟨Bo, 1, none⟩ = some (.int .i64 (t : Int)) ∧ w'.cell? ⟨gso, t, none⟩ = some (.int .i64 (k : Int)) ∧ w'.cell? ⟨T, 0, none⟩ = some (.slice (some ⟨g0, 0, none⟩) Lk.length M)) (by kernel_rfl) ⟨co1, ck, cT0⟩ (fun hHeld => ?_)
                      refine wpAnyH_take (i := 0) (v := .pointer (some ⟨T, 0, none⟩)) rfl (by kernel_rfl) (by kernel_rfl) (by kernel_rfl) (fun _ _ _ h => h) (Or.inl ⟨by rfl, fun w hSw => by go_simp⟩) hHeld ?_
                      try simp only [Act.put, List.setIfInBounds_toArray, List.set_cons_zero, List.set_cons_succ]
                      refine wpAnyH_take (i := 1) (v := .slice (some ⟨g0, 0, none⟩) Lk.length M) rfl (by kernel_rfl) (by kernel_rfl) (by kernel_rfl) (fun _ _ _ h => h) (Or.inl ⟨by rfl, fun w hSw => by go_simp⟩) hHeld ?_
                      try simp only [Act.put, List.setIfInBounds_toArray, List.set_cons_zero, List.set_cons_succ]
                      refine wpAnyH_take (i := 2) (v := .slice (some ⟨gso, 0, none⟩) nT nT) rfl (by kernel_rfl) (by kernel_rfl) (by kernel_rfl) (fun _ _ _ h => h) (Or.inl ⟨by rfl, fun w hSw => by go_simp⟩) hHeld ?_
                      try simp only [Act.put, List.setIfInBounds_toArray, List.set_cons_zero, List.set_cons_succ]
                      refine wpAnyH_take (i := 3) (v := .pointer (some ⟨Bo, 1, none⟩)) rfl (by kernel_rfl) (by kernel_rfl) (by kernel_rfl) (fun _ _ _ h => h) (Or.inl ⟨by rfl, fun w hSw => by go_simp⟩) hHeld ?_
                      try simp only [Act.put, List.setIfInBounds_toArray, List.set_cons_zero, List.set_cons_succ]
                      refine wpAnyH_take (i := 4) (v := .int .i64 (t : Int)) rfl (by kernel_rfl) (by kernel_rfl) (by kernel_rfl) (fun _ _ _ h => h) (Or.inl ⟨by rfl, fun w hSw => by go_simp⟩) hHeld ?_
                      try simp only [Act.put, List.setIfInBounds_toArray, List.set_cons_zero, List.set_cons_succ]
                      refine wpAnyH_take (i := 5) (v := .pointer (some ⟨gso, t, none⟩)) rfl (by kernel_rfl) (by kernel_rfl) (by kernel_rfl) (fun _ _ _ h => h) (Or.inl ⟨by rfl, fun w hSw => by go_simp⟩) hHeld ?_
                      try simp only [Act.put, List.setIfInBounds_toArray, List.set_cons_zero, List.set_cons_succ]
                      refine wpAnyH_take (i := 6) (v := .int .i64 (k : Int)) rfl (by kernel_rfl) (by kernel_rfl) (by kernel_rfl) (fun _ _ _ h => h) (Or.inl ⟨by rfl, fun w hSw => by go_simp⟩) hHeld ?_
                      try simp only [Act.put, List.setIfInBounds_toArray, List.set_cons_zero, List.set_cons_succ]
                      refine wpAnyH_ready (rs := [7]) (by kernel_rfl) (by simp) ?_
                      refine AllReadyH.cons rfl (fun K hK => ?_) AllReadyH.nil
                      go_simp
                      refine hK.out _ _ (hHeld) (fun hHeld => ?_)
                      clear hK K
                      try simp only [Act.put, List.setIfInBounds_toArray, List.set_cons_zero, List.set_cons_succ]
                      refine wpAnyH_ready (rs := [8]) (by kernel_rfl) (by simp) ?_
                      refine AllReadyH.cons rfl (fun K hK => ?_) AllReadyH.nil
                      go_simp
                      refine hK.out _ _ (hHeld) (fun hHeld => ?_)
                      clear hK K
                      try simp only [Act.put, List.setIfInBounds_toArray, List.set_cons_zero, List.set_cons_succ]
                      refine wpAnyH_done (by kernel_rfl) ?_ _
                      refine NoPanic.normal ?_
                      go_wp2_with fail
                      go_meet
                      case rel => exact ⟨rfl, rfl⟩
                    case rest =>
                      obtain ⟨rfl, rfl⟩ := hcut
                      have hs7 := hs6.drew
                      have hob7 := hob6.drew
                      clear ck co1 cT0 hs6 hob6
                      generalize wc.drew = W7 at *
                      have hc3 := hs7.sp.cellAt (k * 6 + 3) (by omega)
                      rw [List.getElem?_map, List.getElem?_eq_getElem (show k * 6 + 3 < zs.length by omega)] at hc3
                      simp only [Option.map_some] at hc3
                      have hf3 := hs7.sp.frozenAt (k * 6 + 3)
                      have hs8 := hs7.setSp hsc (k * 6 + 3) (i : Int)
                      obtain ⟨cur0, hg0b, _⟩ := own_blk hs7.sp (k := g0) rfl
                      have hBg0 : Bo ≠ g0 := hob7.ne hg0b (by decide)
                      have hBT : Bo ≠ T := hob7.ne hs7.t (by decide)
                      have hob8 := hob7.setOther (a := ⟨g0, k * 6 + 3, none⟩) hBg0 (.int .i64 (i : Int))
                      have ck0 := hob8.cellOf (j := 0) rfl
                      have hsh8 := hsh.set (k := k) (j := 3) (by omega) (by omega) (i : Int)
                      have hzl8 : (zs.set (k * 6 + 3) (i : Int)).length = Lk.length * 6 := by simp [hzl]
                      generalize hz8 : zs.set (k * 6 + 3) (i : Int) = zs8 at *
                      clear hz8 hsh
                      go_upto_if 135 with fail
                      generalize W7.setCell ⟨g0, k * 6 + 3, none⟩ (.int .i64 (i : Int)) = W8 at *
                      clear hc3 hf3 hs7 hob7 ck0 hg0b
                      have hc5 := hs8.sp.cellAt (k * 6 + 5) (by omega)
                      rw [List.getElem?_map, List.getElem?_eq_getElem (show k * 6 + 5 < zs8.length by omega)] at hc5
                      simp only [Option.map_some] at hc5
                      have hf5 := hs8.sp.frozenAt (k * 6 + 5)
                      obtain ⟨lw, hlw⟩ : ∃ lw, lw = zs8[k * 6 + 5]'(by omega) := ⟨_, rfl⟩
                      rw [← hlw] at hc5
                      clear hlw
                      by_cases hkd : kd = 2
                      · subst hkd
                        by_cases hlw0 : lw < 0
                        · have hdl : decide (lw < 0) = true := by simpa using hlw0
                          clear hlw0
                          have hc4 := hs8.sp.cellAt (k * 6 + 4) (by omega)
                          rw [List.getElem?_map, List.getElem?_eq_getElem (show k * 6 + 4 < zs8.length by omega)] at hc4
                          simp only [Option.map_some] at hc4
                          have hf4 := hs8.sp.frozenAt (k * 6 + 4)
                          have hs9 := hs8.setSp hsc (k * 6 + 4) (i : Int)
                          have hob9 := hob8.setOther (a := ⟨g0, k * 6 + 4, none⟩) hBg0 (.int .i64 (i : Int))
                          have hsh9 := hsh8.set (k := k) (j := 4) (by omega) (by omega) (i : Int)
                          have hzl9 : (zs8.set (k * 6 + 4) (i : Int)).length = Lk.length * 6 := by simp [hzl8]
                          generalize hz9 : zs8.set (k * 6 + 4) (i : Int) = zs9 at *
                          clear hz9
                          go_upto_region 26 with fail
                          generalize W8.setCell ⟨g0, k * 6 + 4, none⟩ (.int .i64 (i : Int)) = W9 at *
                          clear hc5 hf5 hc4 hf4 hs8 hob8 hdl hsh8
                          go_cut [] (fun wc => ∃ vw', SpSt W W.heap.size T g0 g1 g3 gso nX M vw' Lk zs9 l1' l3' so (m + 1) wc)
                          case first =>
                            refine spans_write hsc hs9 hob9 (by rw [hinv.len]; exact htn) Hsk (by omega) htn hT (by omega) (fun wc vw' v146 v152 v153 hsp1 => ?_)
                            go_wp2_with fail
                            go_meet
                            case rel => exact ⟨vw', hsp1⟩
                          case rest =>
                            clear hs9 hob9
                            obtain ⟨vw', hs9⟩ := hcut
                            have hc5 := hs9.sp.cellAt (k * 6 + 5) (by omega)
                            rw [List.getElem?_map, List.getElem?_eq_getElem (show k * 6 + 5 < zs9.length by omega)] at hc5
                            simp only [Option.map_some] at hc5
                            have hf5 := hs9.sp.frozenAt (k * 6 + 5)
                            have hs10 := hs9.setSp hsc (k * 6 + 5) (i : Int)
                            go_wp2_with fail
                            go_roundg ((grp xs x).length - (j + 1))
                            case measure => omega
                            case rel =>
                              have eL : addAll L x ((tsOf ops x).take (j + 1)) = Lk := by rw [HLn.out, HLk.out]
                              have key : SpSt W W.heap.size T g0 g1 g3 gso nX M vw' (addAll L x ((tsOf ops x).take (j + 1))) (zs9.set (k * 6 + 5) (i : Int)) l1' l3' so (m + 1) (wc.setCell ⟨g0, k * 6 + 5, none⟩ (.int .i64 (i : Int))) ∧ Shown (addAll L x ((tsOf ops x).take (j + 1))) (zs9.set (k * 6 + 5) (i : Int)) ∧ SInv x s0 nT (addAll L x ((tsOf ops x).take (j + 1))) so ∧ s0 ≤ (addAll L x ((tsOf ops x).take (j + 1))).length ∧ (addAll L x ((tsOf ops x).take (j + 1))).length ≤ off xs x + (j + 1) ∧ m + 1 ≤ off xs x + (j + 1) := by
                                rw [eL]
                                exact ⟨hs10, hsh9.set (k := k) (j := 5) (by omega) (by omega) (i : Int), hinv, hs0L, hLl, by omega⟩
                              exact ⟨j + 1, vw', zs9.set (k * 6 + 5) (i : Int), so, m + 1, by omega, rfl, by go_num, key⟩
                        · have hdl : decide (lw < 0) = false := by simpa using hlw0
                          clear hlw0
                          have hs9 := hs8.setSp hsc (k * 6 + 5) (i : Int)
                          go_wp2_with fail
                          go_roundg ((grp xs x).length - (j + 1))
                          case measure => omega
                          case rel =>
                            have eL : addAll L x ((tsOf ops x).take (j + 1)) = Lk := by rw [HLn.out, HLk.out]
                            have key : SpSt W W.heap.size T g0 g1 g3 gso nX M vw (addAll L x ((tsOf ops x).take (j + 1))) (zs8.set (k * 6 + 5) (i : Int)) l1' l3' so (m) (W8.setCell ⟨g0, k * 6 + 5, none⟩ (.int .i64 (i : Int))) ∧ Shown (addAll L x ((tsOf ops x).take (j + 1))) (zs8.set (k * 6 + 5) (i : Int)) ∧ SInv x s0 nT (addAll L x ((tsOf ops x).take (j + 1))) so ∧ s0 ≤ (addAll L x ((tsOf ops x).take (j + 1))).length ∧ (addAll L x ((tsOf ops x).take (j + 1))).length ≤ off xs x + (j + 1) ∧ m ≤ off xs x + (j + 1) := by
                              rw [eL]
                              exact ⟨hs9, hsh8.set (k := k) (j := 5) (by omega) (by omega) (i : Int), hinv, hs0L, hLl, by omega⟩
                            exact ⟨j + 1, vw, zs8.set (k * 6 + 5) (i : Int), so, m, by omega, rfl, by go_num, key⟩
                      · have hkd' : (kd == 2) = false := by simpa using hkd
                        clear hkd
                        go_wp2_with fail
                        go_roundg ((grp xs x).length - (j + 1))
                        case measure => omega
                        case rel =>
                          have eL : addAll L x ((tsOf ops x).take (j + 1)) = Lk := by rw [HLn.out, HLk.out]
                          have key : SpSt W W.heap.size T g0 g1 g3 gso nX M vw (addAll L x ((tsOf ops x).take (j + 1))) (zs8) l1' l3' so (m) (W8) ∧ Shown (addAll L x ((tsOf ops x).take (j + 1))) (zs8) ∧ SInv x s0 nT (addAll L x ((tsOf ops x).take (j + 1))) so ∧ s0 ≤ (addAll L x ((tsOf ops x).take (j + 1))).length ∧ (addAll L x ((tsOf ops x).take (j + 1))).length ≤ off xs x + (j + 1) ∧ m ≤ off xs x + (j + 1) := by
                            rw [eL]
                            exact ⟨hs8, hsh8, hinv, hs0L, hLl, by omega⟩
                          exact ⟨j + 1, vw, zs8, so, m, by omega, rfl, by go_num, key⟩
              · obtain rfl : j = (grp xs x).length := by omega
                go_wp2_with fail
                go_roundg (nX - (x + 1))
                case measure => omega
                case rel =>
                  have e : (tsOf ops x).take (grp xs x).length = tsOf ops x := by rw [Hgl.out, List.take_length]
                  rw [e] at hs hsh hinv hLj
                  refine ⟨x + 1, vw, zs, l1', l3', so, m, by omega, rfl, by go_num, ?_, ?_, hl1', hl3', hinv.len, ?_, ?_, ?_⟩
                  · rw [HL1.out]; exact hs
                  · rw [HL1.out]; exact hsh
                  · rw [HL1.out]; exact hinv.rng
                  · rw [HL1.out, off_succ]; exact hLj
                  · rw [off_succ]; exact hmj
          · obtain rfl : x = nX := by omega
            go_wp2_with fail
            go_meet
            case rel => exact ⟨vw, zs, l1, l3, so, m, hs, hsh, hl1, hl3, by have := hoffl x; omega, by have := hoffl x; omega⟩
      case rest =>
        clear hs0 hsl0 Hso0
        obtain ⟨vw, zs, l1, l3, so, m, hs, hsh, hl1, hl3, hLb, hmb⟩ := hcut
        obtain ⟨L, hL⟩ : ∃ L, L = spansUp (tsOf ops) nX := ⟨_, rfl⟩
        rw [← hL] at hs hsh hLb
        have HL : Hid (L = spansUp (tsOf ops) nX) := hL
        clear hL
        obtain ⟨xw, hxw⟩ := hs.wr
        obtain ⟨aw, cw, rfl, _, _⟩ := own_shape hxw
        clear hxw xw
        have iX : (nX : Int) < (nX : Int) + 1 := by omega
        have c1 := hs.st.cellOf (j := nX) (by omega)
        have f1 := Blk.frozen hs.st nX
        have hs1 := (hs.setSt hsc nX (L.length : Int)).drew
        have S0 : wc.drew.cell? ⟨T, 1, none⟩ = some (.slice (some ⟨g1, 0, none⟩) (nX + 1) (nX + 1)) ∧ wc.drew.cell? ⟨S, 2, none⟩ = some (.slice ai nX ci) ∧ wc.drew.cell? ⟨T, 0, none⟩ = some (.slice (some ⟨g0, 0, none⟩) L.length M) := ⟨hs.t.cellOf (j := 1) rfl, (hs.b.cell (p := ⟨S, 2, none⟩) hSl.out).trans Hh.out.c2, hs.t.cellOf (j := 0) rfl⟩
        have HS1 : Hid (_ ∧ _ ∧ _) := ⟨hs1.t.cellOf (j := 1) rfl, (hs1.b.cell (p := ⟨S, 2, none⟩) hSl.out).trans Hh.out.c2, hs1.t.cellOf (j := 0) rfl⟩
        have HS0 : Hid (wc.drew.cell? ⟨T, 1, none⟩ = some (.slice (some ⟨g1, 0, none⟩) (nX + 1) (nX + 1)) ∧ wc.drew.cell? ⟨S, 2, none⟩ = some (.slice ai nX ci) ∧ wc.drew.cell? ⟨T, 0, none⟩ = some (.slice (some ⟨g0, 0, none⟩) L.length M)) := S0
        clear S0
        go_upto_region 30 with fail
        go_cut [] (fun wc' => (wc.setCell ⟨g1, nX, none⟩ (.int .i64 (L.length : Int))).drew = wc')
        case first =>
          refine spans_end1 (m := 0) (cw := 0) (aw := none) (g3 := 0) HS0 HS1 c1 f1 hX (by omega) (by omega) ?_
          unfold Hid
          go_wp2_with fail
          go_meet
          case rel => rfl
        case rest =>
          have hcut' := hcut
          clear HS0 HS1 c1 f1 hs
          rw [hcut'] at hs1
          clear hcut hcut'
          have c3 := hs1.ws.cellOf (j := nX) (by omega)
          have f3 := Blk.frozen hs1.ws nX
          have hs2 := (hs1.setWs hsc nX (m : Int)).drew
          have HS0 : Hid (wc.drew.cell? ⟨T, 3, none⟩ = some (.slice (some ⟨g3, 0, none⟩) (nX + 1) (nX + 1)) ∧ wc.drew.cell? ⟨S, 2, none⟩ = some (.slice ai nX ci) ∧ wc.drew.cell? ⟨T, 2, none⟩ = some (.slice aw m cw)) := ⟨hs1.t.cellOf (j := 3) rfl, (hs1.b.cell (p := ⟨S, 2, none⟩) hSl.out).trans Hh.out.c2, hs1.t.cellOf (j := 2) rfl⟩
          have HS2 : Hid (_ ∧ _ ∧ _) := ⟨hs2.t.cellOf (j := 3) rfl, (hs2.b.cell (p := ⟨S, 2, none⟩) hSl.out).trans Hh.out.c2, hs2.t.cellOf (j := 2) rfl⟩
          go_upto_region 31 with fail
          go_cut [] (fun wc' => (wc.setCell ⟨g3, nX, none⟩ (.int .i64 (m : Int))).drew = wc')
          case first =>
            refine spans_end2 (L := []) (g0 := 0) (g1 := 0) (M := 0) HS0 HS2 c3 f3 hX (by simp) (by omega) ?_
            unfold Hid
            go_wp2_with fail
            go_meet
            case rel => rfl
          case rest =>
            have hcut' := hcut
            clear HS0 HS2 c3 f3 hs1
            rw [hcut'] at hs2
            clear hcut hcut'
            have hLl : L.length ≤ 4096 := by omega
            have hspA := spAt_of hs2 hsh
            have hkeys := txp_keys Hi0.out Htx.out L HL.out hLl
            have hseq := spans1 (w := wc) (n₀ := wc.heap.size) hLl (Nat.le_refl _) hs2.t.lt (hs2.t.cellOf (j := 0) rfl) hspA
            have hgp := groupPairs_any hseq (enters_of Yba.func24 (by kernel_rfl) rfl) (Nat.le_refl _) hT hkeys (by rw [txp_length]; exact hLl)
            rw [txp_length] at hgp
            have Hg : Hid (Calls Yba.prog 23 #[.int .i64 nT, .func (.func 24) #[] #[.pointer (some ⟨T, 0, none⟩)]] wc _) := hgp
            have cS1 := (hs2.b.cell (p := ⟨S, 1, none⟩) hSl.out).trans Hh.out.c1
            have hRw := hR2.below hs2.b hR2.lt
            have hWw := hbw2.size
            have hRT : w.heap.size ≠ T := by have := hsc.ht; have := hR2.lt; omega
            have hRT' : T ≠ w.heap.size := Ne.symm hRT
            have hg0T : g0 ≠ T := by
              obtain ⟨cur, hg0b, _⟩ := own_blk hs2.sp (k := g0) rfl
              exact hg0b.ne hs2.t (by decide)
            have hg0R : g0 ≠ w.heap.size := by
              obtain ⟨cur, hg0b, _⟩ := own_blk hs2.sp (k := g0) rfl
              exact hg0b.ne hRw (by decide)
            have Hbw : Hid (Below w.heap.size w wc) := hbw2.trans (hs2.b.mono hWw)
            have hTge : w.heap.size ≤ T := by have := hsc.ht; omega
            have Hg0 : Hid (w.heap.size ≤ g0) := (by have := hsc.h0; omega : w.heap.size ≤ g0)
            clear hgp hseq hkeys
            go_wp2_with (go_at_call 23; refine Hg.out.mono ?_; rintro e w' ⟨gs, av, st, vs, rfl, hga, hbel⟩; have hT' := hs2.t.below hbel hs2.t.lt; have hR' := hRw.below hbel hRw.lt; have t0 := hT'.cellOf (j := 0) rfl; have t1 := hT'.cellOf (j := 1) rfl; have t2 := hT'.cellOf (j := 2) rfl; have t3 := hT'.cellOf (j := 3) rfl; have t4 := hT'.cellOf (j := 4) rfl; have t5 := hT'.cellOf (j := 5) rfl; have ft4 := hT'.frozen 4; have ft5 := hT'.frozen 5; have r0 := hR'.cellOf (j := 0) rfl; have r1 := hR'.cellOf (j := 1) rfl; have r2 := hR'.cellOf (j := 2) rfl; have r3 := hR'.cellOf (j := 3) rfl; have r4 := hR'.cellOf (j := 4) rfl; have r5 := hR'.cellOf (j := 5) rfl; have f0 := hR'.frozen 0; have f1 := hR'.frozen 1; have f2 := hR'.frozen 2; have f3 := hR'.frozen 3; have f4 := hR'.frozen 4; have f5 := hR'.frozen 5)
            refine bodyPost_ret (v := .agg #[.slice (some ⟨g0, 0, none⟩) L.length M, .slice (some ⟨g1, 0, none⟩) (nX + 1) (nX + 1), .slice aw m cw, .slice (some ⟨g3, 0, none⟩) (nX + 1) (nX + 1), .slice (some ⟨gs, 0, none⟩) (nT + 1) (nT + 1), .slice av L.length L.length]) (by simp [results, go_sem, r0, r1, r2, r3, r4, r5]) rfl ⟨g0, M, some ⟨g1, 0, none⟩, nX + 1, nX + 1, aw, m, cw, some ⟨g3, 0, none⟩, nX + 1, nX + 1, gs, av, st, vs, ?_⟩
            have e := HL.out
            rw [← e]
            refine ⟨rfl, ?_, Hg0.out, ?_, hLl, ?_⟩
            · exact SpAt.mono (((((((((hspA.below hbel).setOther (p := ⟨T, 4, none⟩) hg0T _).setOther (p := ⟨T, 5, none⟩) hg0T _).setOther (p := ⟨w.heap.size, 0, none⟩) hg0R _).setOther (p := ⟨w.heap.size, 1, none⟩) hg0R _).setOther (p := ⟨w.heap.size, 2, none⟩) hg0R _).setOther (p := ⟨w.heap.size, 3, none⟩) hg0R _).setOther (p := ⟨w.heap.size, 4, none⟩) hg0R _).setOther (p := ⟨w.heap.size, 5, none⟩) hg0R _) (by have := hbel.size; simp only [World.setCell, Array.size_modify] at this ⊢; omega)
            · exact GAt.mono ((((((((hga.setLow (p := ⟨T, 4, none⟩) hs2.t.lt _).setLow (p := ⟨T, 5, none⟩) hs2.t.lt _).setLow (p := ⟨w.heap.size, 0, none⟩) hRw.lt _).setLow (p := ⟨w.heap.size, 1, none⟩) hRw.lt _).setLow (p := ⟨w.heap.size, 2, none⟩) hRw.lt _).setLow (p := ⟨w.heap.size, 3, none⟩) hRw.lt _).setLow (p := ⟨w.heap.size, 4, none⟩) hRw.lt _).setLow (p := ⟨w.heap.size, 5, none⟩) hRw.lt _) (Nat.le_of_lt hRw.lt)
            · exact (((((((((Hbw.out.trans (hbel.mono (Nat.le_of_lt hRw.lt))).setCell (p := ⟨T, 4, none⟩) hTge _).setCell (p := ⟨T, 5, none⟩) hTge _).setCell (p := ⟨w.heap.size, 0, none⟩) (Nat.le_refl _) _).setCell (p := ⟨w.heap.size, 1, none⟩) (Nat.le_refl _) _).setCell (p := ⟨w.heap.size, 2, none⟩) (Nat.le_refl _) _).setCell (p := ⟨w.heap.size, 3, none⟩) (Nat.le_refl _) _).setCell (p := ⟨w.heap.size, 4, none⟩) (Nat.le_refl _) _).setCell (p := ⟨w.heap.size, 5, none⟩) (Nat.le_refl _) _)
end Go.Proofs.Ybulkri.A
