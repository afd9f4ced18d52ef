/-
  LawS0034AModel: (spanTable).spanOf.
-/
import Derived.Test.YbulkriAGroups
import Derived.Test.YbulkriATab
namespace Go.Proofs.Ybulkri.A
open Go.RowKit
set_option linter.unusedVariables false
set_option linter.unusedSimpArgs false

theorem isNaN_any (x : Int) (w : World) : Calls Yba.prog 32 #[.int .i64 x] w fun e w' => e = .returned (.bool false) ∧ w' = w := by
  have hx : (x != x) = false := by simp
  go_enter Yba.func32, Yba.ntmps32
  go_wp2
  go_ret
  exact ⟨rfl, rfl⟩

def cmpI (x y : Int) : Int := if x < y then -1 else if y < x then 1 else 0

theorem compare_any (x y : Int) (w : World) : Calls Yba.prog 27 #[.int .i64 x, .int .i64 y] w fun e w' => e = .returned (.int .i64 (cmpI x y)) ∧ w' = w := by
  by_cases h1 : x < y
  · have d1 : decide (x < y) = true := by simpa using h1
    have hc : cmpI x y = -1 := by simp [cmpI, h1]
    rw [hc]
    go_enter Yba.func27, Yba.ntmps27
    go_wp2_with (go_at_call 32; refine (isNaN_any _ _).mono ?_; rintro e w' ⟨rfl, rfl⟩)
    go_ret
    exact ⟨rfl, rfl⟩
  · have d1 : decide (x < y) = false := by simpa using h1
    by_cases h2 : y < x
    · have d2 : decide (y < x) = true := by simpa using h2
      have hc : cmpI x y = 1 := by simp [cmpI, h1, h2]
      rw [hc]
      go_enter Yba.func27, Yba.ntmps27
      go_wp2_with (go_at_call 32; refine (isNaN_any _ _).mono ?_; rintro e w' ⟨rfl, rfl⟩)
      go_ret
      exact ⟨rfl, rfl⟩
    · have d2 : decide (y < x) = false := by simpa using h2
      have hc : cmpI x y = 0 := by simp [cmpI, h1, h2]
      rw [hc]
      go_enter Yba.func27, Yba.ntmps27
      go_wp2_with (go_at_call 32; refine (isNaN_any _ _).mono ?_; rintro e w' ⟨rfl, rfl⟩)
      go_ret
      exact ⟨rfl, rfl⟩

set_option maxHeartbeats 1000000 in
theorem spanOf1_any {w : World} {N T cap : Nat} {ao : Option Addr} {L : List (Nat × Nat)} (ct : w.cell? ⟨T, 0, none⟩ = some (.slice ao L.length cap)) (hs : SpAt w N ao L) (hl : L.length ≤ 4096) {k : Nat} (hk : k < L.length) (x : Int) :
    Calls Yba.prog 26 #[.int .i64 k, .int .i64 x, .pointer (some ⟨T, 0, none⟩)] w fun e w' => e = .returned (.int .i64 (cmpI ((L.getD k (0, 0)).2 : Nat) x)) ∧ w' = w := by
  obtain ⟨g, rfl, _, hc⟩ := hs (by omega)
  have c1 := (hc k hk).2.1
  obtain ⟨X, hX⟩ : ∃ X : Nat, X = (L.getD k (0, 0)).2 := ⟨_, rfl⟩
  rw [← hX] at c1 ⊢
  clear hX hc
  go_enter Yba.func26, Yba.ntmps26
  go_wp2_with (go_at_call 27; refine (compare_any _ _ _).mono ?_; rintro e w' ⟨rfl, rfl⟩)
  go_ret
  exact ⟨rfl, rfl⟩

set_option maxHeartbeats 2000000 in
theorem search_any {w : World} {N T cap cap2 : Nat} {ao ao2 : Option Addr} {L : List (Nat × Nat)} {own : List Nat} (ct : w.cell? ⟨T, 0, none⟩ = some (.slice ao L.length cap)) (hs : SpAt w N ao L) (hl : L.length ≤ 4096) (hol : own.length ≤ 4096) (ho : NatsAt w N ao2 own)
    (hin : ∀ t, t < own.length → own.getD t 0 < L.length) (hmono : ∀ a b, a < b → b < own.length → (L.getD (own.getD a 0) (0, 0)).2 < (L.getD (own.getD b 0) (0, 0)).2) {j0 : Nat} (hj : j0 < own.length) :
    Calls Yba.prog 25 #[.slice ao2 own.length cap2, .int .i64 ((L.getD (own.getD j0 0) (0, 0)).2 : Nat), .func (.func 26) #[] #[.pointer (some ⟨T, 0, none⟩)]] w fun e w' => e = .returned (.tuple #[.int .i64 j0, .bool true]) ∧ w' = w := by
  obtain ⟨g2, o2, rfl, _, hc2⟩ := ho (by omega)
  have Hcmp : Hid (∀ t, t < own.length → Calls Yba.prog 26 #[.int .i64 (own.getD t 0 : Nat), .int .i64 ((L.getD (own.getD j0 0) (0, 0)).2 : Nat), .pointer (some ⟨T, 0, none⟩)] w fun e w' => e = .returned (.int .i64 (cmpI ((L.getD (own.getD t 0) (0, 0)).2 : Nat) ((L.getD (own.getD j0 0) (0, 0)).2 : Nat))) ∧ w' = w) :=
    fun t ht => spanOf1_any ct hs hl (hin t ht) _
  have Hc2 : Hid (∀ i, i < own.length → w.cell? ⟨g2, o2 + i, none⟩ = some (.int .i64 (own.getD i 0 : Nat))) := hc2
  have Hm : Hid (∀ a b, a < b → b < own.length → (L.getD (own.getD a 0) (0, 0)).2 < (L.getD (own.getD b 0) (0, 0)).2) := hmono
  clear hmono hc2 hin hs ct
  obtain ⟨X, hX⟩ : ∃ X : Nat, X = (L.getD (own.getD j0 0) (0, 0)).2 := ⟨_, rfl⟩
  rw [← hX] at Hcmp ⊢
  have HX : Hid (X = (L.getD (own.getD j0 0) (0, 0)).2) := hX
  clear hX
  go_enter Yba.func25, Yba.ntmps25
  go_wp2
  go_loopg [9, 10] own.length (fun g i j wr => w = wr ∧ ∃ lo hi : Nat, i = .int .i64 lo ∧ j = .int .i64 hi ∧ lo ≤ j0 ∧ j0 ≤ hi ∧ hi ≤ own.length ∧ hi - lo ≤ g)
  case atStart => exact ⟨rfl, 0, own.length, rfl, rfl, Nat.zero_le _, by omega, Nat.le_refl _, by omega⟩
  case round =>
    obtain ⟨rfl, lo, hi, rfl, rfl, h1, h2, h3, h4⟩ := hrel
    by_cases hlt : lo < hi
    · have d0 : decide ((lo : Int) < (hi : Int)) = true := by simp; omega
      have cm := Hc2.out ((lo + hi) / 2) (by omega)
      have hcall := Hcmp.out ((lo + hi) / 2) (by omega)
      obtain ⟨y, hy⟩ : ∃ y : Nat, y = own.getD ((lo + hi) / 2) 0 := ⟨_, rfl⟩
      rw [← hy] at cm hcall
      have hm1 : ((lo : Int) + (hi : Int)) / 2 = (((lo + hi) / 2 : Nat) : Int) := by omega
      by_cases hmid : (lo + hi) / 2 < j0
      · have hneg : cmpI ((L.getD y (0, 0)).2 : Nat) (X : Nat) = -1 := by
          have := Hm.out _ _ hmid hj
          rw [hy, HX.out, cmpI, if_pos (by omega)]
        rw [hneg] at hcall
        have HC : Hid (Calls Yba.prog 26 #[.int .i64 (y : Int), .int .i64 (X : Int), .pointer (some ⟨T, 0, none⟩)] w fun e w' => e = .returned (.int .i64 (-1)) ∧ w' = w) := hcall
        have Hm1 : Hid (((lo : Int) + (hi : Int)) / 2 = (((lo + hi) / 2 : Nat) : Int)) := hm1
        clear hy hcall hneg hm1
        go_wp2_with (go_at_call 26; refine HC.out.mono ?_; rintro e w' ⟨rfl, rfl⟩)
        go_roundg (hi - ((lo + hi) / 2 + 1))
        case measure => omega
        case rel => exact ⟨rfl, (lo + hi) / 2 + 1, hi, by rw [Hm1.out]; go_num, rfl, by omega, h2, h3, Nat.le_refl _⟩
      · have hneg : 0 ≤ cmpI ((L.getD y (0, 0)).2 : Nat) (X : Nat) := by
          have hle : X ≤ (L.getD y (0, 0)).2 := by
            by_cases e : (lo + hi) / 2 = j0
            · rw [hy, HX.out, e]
              exact Nat.le_refl _
            · have := Hm.out j0 ((lo + hi) / 2) (by omega) (by omega)
              rw [hy, HX.out]
              omega
          rw [cmpI, if_neg (by omega)]
          split <;> omega
        obtain ⟨c, hc⟩ : ∃ c, cmpI ((L.getD y (0, 0)).2 : Nat) (X : Nat) = c := ⟨_, rfl⟩
        rw [hc] at hcall hneg
        have dc : decide (c < 0) = false := by simp; omega
        have HC : Hid (Calls Yba.prog 26 #[.int .i64 (y : Int), .int .i64 (X : Int), .pointer (some ⟨T, 0, none⟩)] w fun e w' => e = .returned (.int .i64 c) ∧ w' = w) := hcall
        have Hm1 : Hid (((lo : Int) + (hi : Int)) / 2 = (((lo + hi) / 2 : Nat) : Int)) := hm1
        clear hy hcall hneg hm1 hc
        go_wp2_with (go_at_call 26; refine HC.out.mono ?_; rintro e w' ⟨rfl, rfl⟩)
        go_roundg ((lo + hi) / 2 - lo)
        case measure => omega
        case rel => exact ⟨rfl, lo, (lo + hi) / 2, rfl, by rw [Hm1.out], h1, by omega, by omega, Nat.le_refl _⟩
    · obtain rfl : hi = lo := by omega
      obtain rfl : hi = j0 := by omega
      have cm := Hc2.out hi hj
      have hcall := Hcmp.out hi hj
      obtain ⟨y, hy⟩ : ∃ y : Nat, y = own.getD hi 0 := ⟨_, rfl⟩
      rw [← hy] at cm hcall HX
      rw [← HX.out] at hcall
      have hz : cmpI (X : Nat) (X : Nat) = 0 := by simp [cmpI]
      rw [hz] at hcall
      have HC : Hid (Calls Yba.prog 26 #[.int .i64 (y : Int), .int .i64 (X : Int), .pointer (some ⟨T, 0, none⟩)] w fun e w' => e = .returned (.int .i64 0) ∧ w' = w) := hcall
      have d0 : decide ((hi : Int) < (own.length : Int)) = true := by simp; omega
      clear hy hcall hz
      go_wp2_with (go_at_call 26; refine HC.out.mono ?_; rintro e w' ⟨rfl, rfl⟩)
      refine bodyPost_ret (v := .tuple #[.int .i64 hi, .bool true]) (by simp [results, go_sem]) rfl ⟨rfl, rfl⟩

theorem grp_txp (L : List (Nat × Nat)) (t : Nat) : grp (txp L L.length) t = ownOf L t := by
  unfold grp txp ownOf
  rw [List.filter_map, List.map_map]
  have : (fun x : Nat × Nat => x.2) ∘ (fun k => ((L.getD k (0, 0)).1, k)) = id := rfl
  rw [this, List.map_id]
  rfl

theorem SpAt.mono {w : World} {N N' : Nat} {ao : Option Addr} {L : List (Nat × Nat)} (h : SpAt w N ao L) (hN : N ≤ N') : SpAt w N' ao L := by
  intro h0
  obtain ⟨g, e, hg, hc⟩ := h h0
  exact ⟨g, e, by omega, hc⟩
theorem NatsAt.mono {w : World} {N N' : Nat} {ao : Option Addr} {L : List Nat} (h : NatsAt w N ao L) (hN : N ≤ N') : NatsAt w N' ao L := by
  intro h0
  obtain ⟨g, o, e, hg, hc⟩ := h h0
  exact ⟨g, o, e, by omega, hc⟩

theorem txp_length (L : List (Nat × Nat)) (n : Nat) : (txp L n).length = n := by simp [txp]

set_option maxHeartbeats 1000000 in
theorem spanOf_any {w : World} {B nT cap gs : Nat} {ao av a1 a2 a3 : Option Addr} {n1 n2 n3 c1 c2 c3 : Nat} {L : List (Nat × Nat)} {st vs : List Int} (hs : SpAt w w.heap.size ao L) (hg : GAt w B nT (txp L L.length) gs av st vs) (hT : nT ≤ 1024) (hl : L.length ≤ 4096)
    (hnd : L.Nodup) (hso : L.Pairwise (fun a b => a.2 ≤ b.2)) {t x k : Nat} (ht : t < nT) (hk : k < L.length) (hkt : L.getD k (0, 0) = (t, x)) :
    Calls Yba.prog 17 #[.agg #[.slice ao L.length cap, .slice a1 n1 c1, .slice a2 n2 c2, .slice a3 n3 c3, .slice (some ⟨gs, 0, none⟩) (nT + 1) (nT + 1), .slice av L.length L.length], .int .i64 t, .int .i64 x] w fun e w' => e = .returned (.int .i64 k) ∧ Below w.heap.size w w' := by
  have hb1 := (Below.refl w.heap.size w).alloc (Nat.le_refl _) (.cells #[.slice ao L.length cap, .slice a1 n1 c1, .slice a2 n2 c2, .slice a3 n3 c3, .slice (some ⟨gs, 0, none⟩) (nT + 1) (nT + 1), .slice av L.length L.length] 56)
  have hbx := Blk.new w 56 #[.slice ao L.length cap, .slice a1 n1 c1, .slice a2 n2 c2, .slice a3 n3 c3, .slice (some ⟨gs, 0, none⟩) (nT + 1) (nT + 1), .slice av L.length L.length]
  have hsz : (w.alloc (.cells #[.slice ao L.length cap, .slice a1 n1 c1, .slice a2 n2 c2, .slice a3 n3 c3, .slice (some ⟨gs, 0, none⟩) (nT + 1) (nT + 1), .slice av L.length L.length] 56)).heap.size = w.heap.size + 1 := by simp
  have hs1 := hs.below hb1
  have hg1 := hg.below hb1
  have hof := of_any hg1 hT (by rw [txp_length]; exact hl) ht
  rw [txp_length, grp_txp, hsz] at hof
  have hmem : k ∈ ownOf L t := mem_ownOf.2 ⟨hk, by rw [hkt]⟩
  obtain ⟨j0, hj0, hjk⟩ := List.mem_iff_getElem.1 hmem
  have hin : ∀ i, i < (ownOf L t).length → (ownOf L t).getD i 0 < L.length := fun i hi => by
    rw [List.getD_eq_getElem?_getD, List.getElem?_eq_getElem hi]
    exact (mem_ownOf.1 (List.getElem_mem hi)).1
  have hmono : ∀ a b, a < b → b < (ownOf L t).length → (L.getD ((ownOf L t).getD a 0) (0, 0)).2 < (L.getD ((ownOf L t).getD b 0) (0, 0)).2 := fun a b hab hb => by
    have := (List.pairwise_iff_getElem.1 (ownOf_items hnd hso t)) a b (by omega) hb hab
    have ea : (ownOf L t).getD a 0 = (ownOf L t)[a] := by rw [List.getD_eq_getElem?_getD, List.getElem?_eq_getElem (show a < (ownOf L t).length by omega)]; rfl
    have eb : (ownOf L t).getD b 0 = (ownOf L t)[b] := by rw [List.getD_eq_getElem?_getD, List.getElem?_eq_getElem hb]; rfl
    rw [ea, eb]
    exact this
  have hlo : (ownOf L t).length ≤ 4096 := by
    have : (ownOf L t).length ≤ L.length := by
      unfold ownOf
      have := List.length_filter_le (fun k => decide ((L.getD k (0, 0)).1 = t)) (List.range L.length)
      simpa using this
    omega
  have hjk' : (ownOf L t).getD j0 0 = k := by
    rw [List.getD_eq_getElem?_getD, List.getElem?_eq_getElem hj0]
    exact hjk
  have hx : (L.getD ((ownOf L t).getD j0 0) (0, 0)).2 = x := by rw [hjk', hkt]
  have hsearch := fun (W : World) (ao2 : Option Addr) (cap2 : Nat) (ct : W.cell? ⟨w.heap.size, 0, none⟩ = some (.slice ao L.length cap)) (hs : SpAt W (w.heap.size + 1) ao L) (ho : NatsAt W (w.heap.size + 1) ao2 (ownOf L t)) => search_any (cap2 := cap2) ct hs hl hlo ho hin hmono hj0
  rw [hx] at hsearch
  obtain ⟨own, hown⟩ : ∃ own, own = ownOf L t := ⟨_, rfl⟩
  rw [← hown] at hof hsearch hj0 hjk' hlo
  clear hown hmem hjk hin hmono hx
  have c0 := hbx.cellOf (j := 4) rfl
  have c0' := hbx.cellOf (j := 5) rfl
  have Hof : Hid (Calls Yba.prog 16 #[.agg #[.slice (some ⟨gs, 0, none⟩) (nT + 1) (nT + 1), .slice av L.length L.length], .int .i64 t] (w.alloc (.cells #[.slice ao L.length cap, .slice a1 n1 c1, .slice a2 n2 c2, .slice a3 n3 c3, .slice (some ⟨gs, 0, none⟩) (nT + 1) (nT + 1), .slice av L.length L.length] 56)) _) := hof
  have Hse : Hid (∀ (W : World) (ao2 : Option Addr) (cap2 : Nat), W.cell? ⟨w.heap.size, 0, none⟩ = some (.slice ao L.length cap) → SpAt W (w.heap.size + 1) ao L → NatsAt W (w.heap.size + 1) ao2 own → _) := hsearch
  clear hof hsearch
  go_enter Yba.func17, Yba.ntmps17
  go_wp2_with (first
    | (go_at_call 16; refine Hof.out.mono ?_; rintro e w' ⟨ao2, rfl, hnat, hbel, _⟩; have hs2 := (hs1.mono (Nat.le_succ _)).below hbel; have cT := (hbel.cell (p := ⟨w.heap.size, 0, none⟩) (Nat.lt_succ_self _)).trans (hbx.cellOf (j := 0) rfl); have hSE := fun cap2 => Hse.out w' ao2 cap2 cT hs2 hnat; obtain ⟨g2, o2, rfl, _, hc2⟩ := hnat (by omega); have cK := hc2 j0 hj0; rw [hjk'] at cK; clear hc2)
    | (go_at_call 25; refine (hSE _).mono ?_; rintro e w'' ⟨rfl, rfl⟩))
  go_ret
  exact ⟨rfl, hb1.trans (hbel.mono (Nat.le_succ _))⟩
end Go.Proofs.Ybulkri.A
