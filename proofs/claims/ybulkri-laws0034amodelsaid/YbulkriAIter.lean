/-
  LawS0034AModel: the two iterators (accesses$1, spans$1).
-/
import Derived.RangeFuncNested
import Derived.RangeFuncBound
import Derived.RangeFuncCalls
import Derived.RangeFuncLeaves
import Derived.Shelf.Abstract
import Derived.Shelf.RegionOpen
import Derived.WalkKit
import Derived.OwnWalkIn
import Derived.TacticsInMore
import Derived.LoopNIn
import Derived.LoopIn
import Derived.Test.YbulkriProg
import Derived.Test.YbulkriRange
namespace Go.Proofs.Ybulkri.A
open Go.RowKit Go.Shelf
attribute [local go_sem] Oper.semAt_some

/-- the schedule, as it is read: below n₀ -/
structure SchR (w : World) (n₀ S go co : Nat) (at' : Option Addr) (ct : Nat) (ai : Option Addr) (ci : Nat) (ops : List (Int × Int × Int)) (nT nX : Nat) : Prop where
  hS : S < n₀
  hgo : go < n₀
  c0 : w.cell? ⟨S, 0, none⟩ = some (.slice (some ⟨go, 0, none⟩) ops.length co)
  c1 : w.cell? ⟨S, 1, none⟩ = some (.slice at' nT ct)
  c2 : w.cell? ⟨S, 2, none⟩ = some (.slice ai nX ci)
  op : ∀ p, p < ops.length → w.cell? ⟨go, p * 3, none⟩ = some (.int .u8 (ops.getD p (0, 0, 0)).1) ∧ w.cell? ⟨go, p * 3 + 1, none⟩ = some (.int .i64 (ops.getD p (0, 0, 0)).2.1) ∧ w.cell? ⟨go, p * 3 + 2, none⟩ = some (.int .i64 (ops.getD p (0, 0, 0)).2.2)

theorem SchR.below {w w' : World} {n₀ S go co : Nat} {at' : Option Addr} {ct : Nat} {ai : Option Addr} {ci : Nat} {ops : List (Int × Int × Int)} {nT nX : Nat} (h : SchR w n₀ S go co at' ct ai ci ops nT nX) (hb : Below n₀ w w') : SchR w' n₀ S go co at' ct ai ci ops nT nX :=
  ⟨h.hS, h.hgo, (hb.cell (p := ⟨S, 0, none⟩) h.hS).trans h.c0, (hb.cell (p := ⟨S, 1, none⟩) h.hS).trans h.c1, (hb.cell (p := ⟨S, 2, none⟩) h.hS).trans h.c2,
   fun p hp => ⟨(hb.cell (p := ⟨go, p * 3, none⟩) h.hgo).trans (h.op p hp).1, (hb.cell (p := ⟨go, p * 3 + 1, none⟩) h.hgo).trans (h.op p hp).2.1, (hb.cell (p := ⟨go, p * 3 + 2, none⟩) h.hgo).trans (h.op p hp).2.2⟩⟩

/-- the accesses among the first k operations -/
def acc (ops : List (Int × Int × Int)) : Nat → List (Nat × Nat)
  | 0 => []
  | k + 1 => acc ops k ++ if 0 ≤ (ops.getD k (0, 0, 0)).2.2 then [((ops.getD k (0, 0, 0)).2.2.toNat, k)] else []

theorem acc_prefix (ops : List (Int × Int × Int)) {i j : Nat} (h : i ≤ j) : acc ops i <+: acc ops j := by
  induction j with
  | zero => obtain rfl : i = 0 := by omega
            exact List.prefix_refl _
  | succ j ih =>
    by_cases e : i = j + 1
    · subst e; exact List.prefix_refl _
    · exact (ih (by omega)).trans (List.prefix_append _ _)

set_option maxHeartbeats 400000 in
/-- 'func(o op) bool { return o.item >= 0 }' -/
theorem keep_any (k t x : Int) (w : World) : Calls Yba.prog 14 #[.agg #[.int .u8 k, .int .i64 t, .int .i64 x]] w fun e w' => e = .returned (.bool (decide (0 ≤ x))) ∧ w' = w.alloc (.cells #[.int .u8 k, .int .i64 t, .int .i64 x] 34) := by
  go_enter Yba.func14, Yba.ntmps14
  go_wp2
  go_ret
  exact ⟨rfl, rfl⟩

def enc2 (x : Nat × Nat) : Array Value := #[.int .i64 x.1, .int .i64 x.2]

set_option maxRecDepth 100000 in
set_option maxHeartbeats 2000000 in
theorem accesses1 {w : World} {n₀ S go co : Nat} {at' : Option Addr} {ct : Nat} {ai : Option Addr} {ci : Nat} {ops : List (Int × Int × Int)} {nT nX : Nat} (h : SchR w n₀ S go co at' ct ai ci ops nT nX) (hl : ops.length ≤ 1024) (hn : n₀ ≤ w.heap.size)
    {Bs Bk : Nat} (hBs : Bs < n₀) (hBk : Bk < n₀) (cs : w.cell? ⟨Bs, 0, none⟩ = some (.pointer (some ⟨S, 0, none⟩))) (ck : w.cell? ⟨Bk, 0, none⟩ = some (.func (.func 14) #[] #[])) :
    SeqList Fence.wide 5 Yba.prog 30 #[.pointer (some ⟨Bs, 0, none⟩), .pointer (some ⟨Bk, 0, none⟩)] enc2 n₀ (acc ops ops.length) w := by
  intro l J W hW hJ hY h0
  have h' := h.below (hW.mono hn)
  have cs' := ((hW.mono hn).cell (p := ⟨Bs, 0, none⟩) hBs).trans cs
  have ck' := ((hW.mono hn).cell (p := ⟨Bk, 0, none⟩) hBk).trans ck
  have hsz := hW.size
  have c0 := h'.c0
  refine callsIn_of_wp Yba.func30 rfl trivial ?_ rfl
  simp only [Yba.ntmps30, List.size_toArray, List.length_cons, List.length_nil, Nat.reduceAdd, Nat.reduceSub, Array.replicate_succ, Array.replicate_zero, List.push_toArray, List.append_toArray, List.nil_append, List.cons_append]
  gi_wp2
  gi_loopw [11] (fun i wr => ∃ k : Nat, k ≤ ops.length ∧ i = .int .i64 k ∧ J (acc ops k) wr ∧ Below n₀ W wr)
    (fun i _ => ops.length - (intOf i).toNat)
  case atStart => exact ⟨0, Nat.zero_le _, rfl, h0, Below.refl _ _⟩
  case round =>
    obtain ⟨k, hk, rfl, hJs, hnx⟩ := hrel
    have hsx := hnx.size
    by_cases hlt : k < ops.length
    · have hr := h'.below hnx
      obtain ⟨d0, d1, d2⟩ := hr.op k hlt
      have ck2 := (hnx.cell (p := ⟨Bk, 0, none⟩) hBk).trans ck'
      have HA : Hid (acc ops (k + 1) = acc ops k ++ if 0 ≤ (ops.getD k (0, 0, 0)).2.2 then [((ops.getD k (0, 0, 0)).2.2.toNat, k)] else []) := rfl
      have hpfx := acc_prefix ops (i := k + 1) (j := ops.length) (by omega)
      obtain ⟨⟨ok, ot, ox⟩, ho⟩ : ∃ o, o = ops.getD k (0, 0, 0) := ⟨_, rfl⟩
      rw [← ho] at d0 d1 d2 HA
      dsimp only at d0 d1 d2 HA
      have hpf : acc ops k ++ (if 0 ≤ ox then [(ox.toNat, k)] else []) <+: acc ops ops.length := by rw [← HA.out]; exact hpfx
      clear ho hpfx
      have hJ1 : J (acc ops k) ((wr.alloc (.cells #[.int .u8 ok, .int .i64 ot, .int .i64 ox] 34)).alloc (.cells #[.int .u8 ok, .int .i64 ot, .int .i64 ox] 34)) :=
        hJ _ _ _ none (hJ _ _ _ none hJs (World.grownBy_alloc _ _ none) (by simp)) (World.grownBy_alloc _ _ none) (by simp)
      have hb1 : Below n₀ W ((wr.alloc (.cells #[.int .u8 ok, .int .i64 ot, .int .i64 ox] 34)).alloc (.cells #[.int .u8 ok, .int .i64 ot, .int .i64 ox] 34)) := (hnx.alloc (by omega) _).alloc (by simp; omega) _
      have ck3 : (wr.alloc (.cells #[.int .u8 ok, .int .i64 ot, .int .i64 ox] 34)).cell? ⟨Bk, 0, none⟩ = some (.func (.func 14) #[] #[]) := ((hnx.alloc (by omega) _).cell (p := ⟨Bk, 0, none⟩) hBk).trans ck'
      by_cases hx : 0 ≤ ox
      · obtain ⟨x, rfl⟩ : ∃ x : Nat, ox = x := ⟨ox.toNat, by omega⟩
        rw [if_pos hx] at hpf
        have HA' : Hid (acc ops (k + 1) = acc ops k ++ [(x, k)]) := by
          refine HA.out.trans ?_
          rw [if_pos hx]
          rfl
        have hkp := keep_any ok ot x
        have hdx : decide ((0 : Int) ≤ (x : Int)) = true := by simp
        rw [hdx] at hkp
        obtain ⟨fn, tmps, assign, body, hy, hR⟩ := hY (acc ops k) (x, k) _ hJ1 hpf
        dsimp only [enc2] at hy
        clear HA hx hdx
        gi_wp2_with (refine ⟨trivial, ?_⟩; gi_at_call 14; refine (callsIn_wide.2 (hkp _)).mono ?_; rintro e w' ⟨rfl, rfl⟩)
        refine hR.mono ?_
        rintro e W3 ⟨rfl, hJ3, hk3⟩
        gi_wp2
        go_roundw
        case rel => exact ⟨k + 1, by omega, by go_num, by rw [HA'.out]; exact hJ3, hb1.trans hk3⟩
        case measure => simp [intOf]; omega
      · have HA' : Hid (acc ops (k + 1) = acc ops k) := by
          refine HA.out.trans ?_
          rw [if_neg hx]
          simp
        have hkp := keep_any ok ot ox
        have hdx : decide ((0 : Int) ≤ ox) = false := by simpa using hx
        rw [hdx] at hkp
        clear HA hpf
        gi_wp2_with (refine ⟨trivial, ?_⟩; gi_at_call 14; refine (callsIn_wide.2 (hkp _)).mono ?_; rintro e w' ⟨rfl, rfl⟩)
        refine ⟨fun _ h => (by cases h), ?_⟩
        gi_wp2
        go_roundw
        case rel => exact ⟨k + 1, by omega, by go_num, by rw [HA'.out]; exact hJ1, hb1⟩
        case measure => simp [intOf]; omega
    · obtain rfl : k = ops.length := by omega
      gi_wp2
      go_end0
      exact ⟨⟨_, rfl⟩, hJs⟩

/-- the spans, as they are read: below n₀ -/
def SpAt (w : World) (n₀ : Nat) (ao : Option Addr) (L : List (Nat × Nat)) : Prop :=
  0 < L.length → ∃ g, ao = some ⟨g, 0, none⟩ ∧ g < n₀ ∧ ∀ k, k < L.length → w.cell? ⟨g, k * 6, none⟩ = some (.int .i64 ((L.getD k (0, 0)).1 : Nat)) ∧ w.cell? ⟨g, k * 6 + 1, none⟩ = some (.int .i64 ((L.getD k (0, 0)).2 : Nat)) ∧
    ∃ a b c d : Int, w.cell? ⟨g, k * 6 + 2, none⟩ = some (.int .i64 a) ∧ w.cell? ⟨g, k * 6 + 3, none⟩ = some (.int .i64 b) ∧ w.cell? ⟨g, k * 6 + 4, none⟩ = some (.int .i64 c) ∧ w.cell? ⟨g, k * 6 + 5, none⟩ = some (.int .i64 d)

theorem SpAt.below {w w' : World} {n₀ : Nat} {ao : Option Addr} {L : List (Nat × Nat)} (h : SpAt w n₀ ao L) (hb : Below n₀ w w') : SpAt w' n₀ ao L := by
  intro h0
  obtain ⟨g, rfl, hg, hc⟩ := h h0
  refine ⟨g, rfl, hg, fun k hk => ?_⟩
  obtain ⟨c0, c1, a, b, c, d, c2, c3, c4, c5⟩ := hc k hk
  exact ⟨(hb.cell (p := ⟨g, _, none⟩) hg).trans c0, (hb.cell (p := ⟨g, _, none⟩) hg).trans c1, a, b, c, d, (hb.cell (p := ⟨g, _, none⟩) hg).trans c2, (hb.cell (p := ⟨g, _, none⟩) hg).trans c3, (hb.cell (p := ⟨g, _, none⟩) hg).trans c4, (hb.cell (p := ⟨g, _, none⟩) hg).trans c5⟩

/-- the spans' transactions, each with its index -/
def txp (L : List (Nat × Nat)) (n : Nat) : List (Nat × Nat) := (List.range n).map fun k => ((L.getD k (0, 0)).1, k)

theorem txp_succ (L : List (Nat × Nat)) (n : Nat) : txp L (n + 1) = txp L n ++ [((L.getD n (0, 0)).1, n)] := by simp [txp, List.range_succ]

theorem txp_prefix (L : List (Nat × Nat)) {i j : Nat} (h : i ≤ j) : txp L i <+: txp L j := by
  induction j with
  | zero => obtain rfl : i = 0 := by omega
            exact List.prefix_refl _
  | succ j ih =>
    by_cases e : i = j + 1
    · subst e; exact List.prefix_refl _
    · rw [txp_succ]
      exact (ih (by omega)).trans (List.prefix_append _ _)

set_option maxRecDepth 100000 in
set_option maxHeartbeats 2000000 in
theorem spans1 {w : World} {n₀ T cap : Nat} {ao : Option Addr} {L : List (Nat × Nat)} (hl : L.length ≤ 4096) (hn : n₀ ≤ w.heap.size) (hT : T < n₀) (ct : w.cell? ⟨T, 0, none⟩ = some (.slice ao L.length cap)) (hs : SpAt w n₀ ao L) :
    SeqList Fence.wide 5 Yba.prog 24 #[.pointer (some ⟨T, 0, none⟩)] enc2 n₀ (txp L L.length) w := by
  intro l J W hW hJ hY h0
  have hs' := hs.below (hW.mono hn)
  have ct' := ((hW.mono hn).cell (p := ⟨T, 0, none⟩) hT).trans ct
  have hsz := hW.size
  clear hs ct
  refine callsIn_of_wp Yba.func24 rfl trivial ?_ rfl
  simp only [Yba.ntmps24, List.size_toArray, List.length_cons, List.length_nil, Nat.reduceAdd, Nat.reduceSub, Array.replicate_succ, Array.replicate_zero, List.push_toArray, List.append_toArray, List.nil_append, List.cons_append]
  gi_wp2
  gi_loopw [8] (fun i wr => ∃ k : Nat, k ≤ L.length ∧ i = .int .i64 k ∧ J (txp L k) wr ∧ Below n₀ W wr)
    (fun i _ => L.length - (intOf i).toNat)
  case atStart => exact ⟨0, Nat.zero_le _, rfl, h0, Below.refl _ _⟩
  case round =>
    obtain ⟨k, hk, rfl, hJs, hnx⟩ := hrel
    have hsx := hnx.size
    by_cases hlt : k < L.length
    · obtain ⟨g, rfl, hg, hc⟩ := hs'.below hnx (by omega)
      obtain ⟨c0, c1, a, b, c, d, c2, c3, c4, c5⟩ := hc k hlt
      have HA : Hid (txp L (k + 1) = txp L k ++ [((L.getD k (0, 0)).1, k)]) := txp_succ L k
      have hpfx := txp_prefix L (i := k + 1) (j := L.length) (by omega)
      obtain ⟨⟨t, x⟩, ho⟩ : ∃ o, o = L.getD k (0, 0) := ⟨_, rfl⟩
      rw [← ho] at c0 c1 HA
      dsimp only at c0 c1 HA
      rw [HA.out] at hpfx
      clear ho hc
      have hJ1 : J (txp L k) (wr.alloc (.cells #[.int .i64 t, .int .i64 x, .int .i64 a, .int .i64 b, .int .i64 c, .int .i64 d] 63)) := hJ _ _ _ none hJs (World.grownBy_alloc _ _ none) (by simp)
      have hb1 : Below n₀ W (wr.alloc (.cells #[.int .i64 t, .int .i64 x, .int .i64 a, .int .i64 b, .int .i64 c, .int .i64 d] 63)) := hnx.alloc (by omega) _
      obtain ⟨fn, tmps, assign, body, hy, hR⟩ := hY (txp L k) (t, k) _ hJ1 hpfx
      dsimp only [enc2] at hy
      gi_wp2
      refine hR.mono ?_
      rintro e W3 ⟨rfl, hJ3, hk3⟩
      gi_wp2
      go_roundw
      case rel => exact ⟨k + 1, by omega, by go_num, by rw [HA.out]; exact hJ3, hb1.trans hk3⟩
      case measure => simp [intOf]; omega
    · obtain rfl : k = L.length := by omega
      gi_wp2
      go_end0
      exact ⟨⟨_, rfl⟩, hJs⟩
end Go.Proofs.Ybulkri.A
