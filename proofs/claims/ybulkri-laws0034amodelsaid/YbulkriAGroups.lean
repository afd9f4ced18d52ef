/-
  LawS0034AModel: groupPairs, accesses and (groups).of.
-/
import Derived.Test.YbulkriAFill
import Derived.Deep.QuietTactic
import Derived.BigQuiet
import Derived.Laws.ResultCell
namespace Go.Proofs.Ybulkri.A
open Go.RowKit
set_option linter.unusedVariables false
set_option linter.unusedSimpArgs false

/-- what groupPairs hands back, in memory -/
structure GAt (w : World) (B n : Nat) (xs : List (Nat × Nat)) (gs : Nat) (av : Option Addr) (st vs : List Int) : Prop where
  row : IRow w gs st
  le : B ≤ gs
  grp : Grp n xs st vs
  vals : (xs = [] ∧ av = none) ∨ ∃ gv, av = some ⟨gv, 0, none⟩ ∧ IRow w gv vs ∧ B ≤ gv

theorem GAt.lt {w : World} {B n : Nat} {xs : List (Nat × Nat)} {gs : Nat} {av : Option Addr} {st vs : List Int} (h : GAt w B n xs gs av st vs) : gs < w.heap.size := h.row.blk.lt

theorem GAt.below {w w' : World} {B n : Nat} {xs : List (Nat × Nat)} {gs : Nat} {av : Option Addr} {st vs : List Int} (h : GAt w B n xs gs av st vs) (hb : Below w.heap.size w w') : GAt w' B n xs gs av st vs :=
  ⟨Blk.below h.row hb h.lt, h.le, h.grp, by
    rcases h.vals with e | ⟨gv, e, hr, hl⟩
    · exact .inl e
    · exact .inr ⟨gv, e, Blk.below hr hb hr.blk.lt, hl⟩⟩

theorem GAt.mono {w : World} {B B' n : Nat} {xs : List (Nat × Nat)} {gs : Nat} {av : Option Addr} {st vs : List Int} (h : GAt w B n xs gs av st vs) (hb : B' ≤ B) : GAt w B' n xs gs av st vs :=
  ⟨h.row, by have := h.le; omega, h.grp, by
    rcases h.vals with e | ⟨gv, e, hr, hl⟩
    · exact .inl e
    · exact .inr ⟨gv, e, hr, by omega⟩⟩

theorem vals_av {w : World} {xs : List (Nat × Nat)} {vv : Value} {vs : List Int} {G : Nat} (h : (xs = [] ∧ vv = .slice none 0 0) ∨ ∃ gv, vv = .slice (some ⟨gv, 0, none⟩) xs.length xs.length ∧ IRow w gv vs ∧ G < gv) :
    ∃ av, vv = .slice av xs.length xs.length ∧ ((xs = [] ∧ av = none) ∨ ∃ gv, av = some ⟨gv, 0, none⟩ ∧ IRow w gv vs ∧ G < gv) := by
  rcases h with ⟨rfl, rfl⟩ | ⟨gv, rfl, h⟩
  · exact ⟨none, rfl, .inl ⟨rfl, rfl⟩⟩
  · exact ⟨_, rfl, .inr ⟨gv, rfl, h⟩⟩

set_option maxHeartbeats 1000000 in
theorem groupPairs_any {w : World} {n₀ n gf : Nat} {lb : Array Value} {xs : List (Nat × Nat)} (hseq : SeqList Fence.wide 5 Yba.prog gf lb enc2 n₀ xs w) (eg : ∀ args w, (callFunc gf args).run Yba.prog w = .ok (.enter gf args) w)
    (hn₀ : n₀ ≤ w.heap.size) (hn : n ≤ 1024) (hk : ∀ p ∈ xs, p.1 < n ∧ p.2 ≤ 4096) (hl : xs.length ≤ 4096) :
    Calls Yba.prog 23 #[.int .i64 n, .func (.func gf) #[] lb] w fun e w' => ∃ gs av st vs, e = .returned (.agg #[.slice (some ⟨gs, 0, none⟩) (n + 1) (n + 1), .slice av xs.length xs.length]) ∧ GAt w' w.heap.size n xs gs av st vs ∧ Below w.heap.size w w' := by
  have hG : Blk ((w.alloc (.cells #[.slice none 0 0, .slice none 0 0] 54)).alloc (.cells #[.slice none 0 0, .slice none 0 0] 54)) (w.heap.size + 1) 54 #[.slice none 0 0, .slice none 0 0] := by
    have := Blk.new (w.alloc (.cells #[.slice none 0 0, .slice none 0 0] 54)) 54 #[.slice none 0 0, .slice none 0 0]
    rwa [World.size_alloc] at this
  have hR := (Blk.new w 54 #[.slice none 0 0, .slice none 0 0]).alloc (.cells #[.slice none 0 0, .slice none 0 0] 54)
  have hb := ((Below.refl w.heap.size w).alloc (Nat.le_refl _) (.cells #[.slice none 0 0, .slice none 0 0] 54)).alloc (by simp) (.cells #[.slice none 0 0, .slice none 0 0] 54)
  have hfill := fill_any hseq hb eg hn₀ (by omega) hG hn hk hl
  have Hf : Hid (Calls Yba.prog 31 #[.pointer (some ⟨w.heap.size + 1, 0, none⟩), .int .i64 n, .func (.func gf) #[] lb] ((w.alloc (.cells #[.slice none 0 0, .slice none 0 0] 54)).alloc (.cells #[.slice none 0 0, .slice none 0 0] 54)) _) := hfill
  clear hfill hseq eg hk
  go_enter Yba.func23, Yba.ntmps23
  go_wp2_with (go_at_call 31; refine Hf.out.mono ?_; rintro e w' ⟨⟨v, rfl⟩, gs, vv, st, vs, hG', hst, hgs, hbel, hgrp, hvals⟩; obtain ⟨av, rfl, hav⟩ := vals_av hvals; have c0 := hG'.cellOf (j := 0) rfl; have c1 := hG'.cellOf (j := 1) rfl; have hR' := hR.below hbel (Nat.lt_succ_self _); have r0 := hR'.cellOf (j := 0) rfl; have r1 := hR'.cellOf (j := 1) rfl; have f0 := hR'.frozen 0; have f1 := hR'.frozen 1)
  have hne : w.heap.size ≠ gs := by omega
  refine bodyPost_ret (v := .agg #[.slice (some ⟨gs, 0, none⟩) (n + 1) (n + 1), .slice av xs.length xs.length]) (by simp [results, go_sem, r0, r1]) rfl ⟨gs, av, st, vs, rfl, ⟨?_, by omega, hgrp, ?_⟩, ?_⟩
  · exact Blk.setOther (a := ⟨w.heap.size, 1, none⟩) (Blk.setOther (a := ⟨w.heap.size, 0, none⟩) hst (Ne.symm hne) _) (Ne.symm hne) _
  · rcases hav with e | ⟨gv, e, hr, hl'⟩
    · exact .inl e
    · have hne2 : gv ≠ w.heap.size := by omega
      exact .inr ⟨gv, e, Blk.setOther (a := ⟨w.heap.size, 1, none⟩) (Blk.setOther (a := ⟨w.heap.size, 0, none⟩) hr hne2 _) hne2 _, by omega⟩
  · exact ((hb.trans (hbel.mono (Nat.le_succ _))).setCell (p := ⟨w.heap.size, 0, none⟩) (Nat.le_refl _) _).setCell (p := ⟨w.heap.size, 1, none⟩) (Nat.le_refl _) _

theorem acc_mem {ops : List (Int × Int × Int)} {nX : Nat} (hi : ∀ i, i < ops.length → 0 ≤ (ops.getD i (0, 0, 0)).2.2 → (ops.getD i (0, 0, 0)).2.2.toNat < nX) : ∀ k, k ≤ ops.length → ∀ p ∈ acc ops k, p.1 < nX ∧ p.2 < k
  | 0, _, p, hp => by simp [acc] at hp
  | k + 1, hk, p, hp => by
    rw [acc, List.mem_append] at hp
    rcases hp with hp | hp
    · have := acc_mem hi k (by omega) p hp
      exact ⟨this.1, by omega⟩
    · split at hp
      · rename_i h
        simp only [List.mem_singleton] at hp
        subst hp
        exact ⟨hi k (by omega) h, Nat.lt_succ_self _⟩
      · simp at hp

theorem acc_length (ops : List (Int × Int × Int)) : ∀ k, (acc ops k).length ≤ k
  | 0 => by simp [acc]
  | k + 1 => by
    rw [acc, List.length_append]
    have := acc_length ops k
    split <;> simp <;> omega

set_option maxHeartbeats 1000000 in
/-- 's.accesses(keep)' -/
theorem accesses_any {w : World} {S go co : Nat} {at' : Option Addr} {ct : Nat} {ai : Option Addr} {ci : Nat} {ops : List (Int × Int × Int)} {nT nX : Nat} (h : SchR w w.heap.size S go co at' ct ai ci ops nT nX) (hl : ops.length ≤ 1024) (hX : nX ≤ 1024)
    (hi : ∀ i, i < ops.length → 0 ≤ (ops.getD i (0, 0, 0)).2.2 → (ops.getD i (0, 0, 0)).2.2.toNat < nX) :
    Calls Yba.prog 22 #[.pointer (some ⟨S, 0, none⟩), .func (.func 14) #[] #[]] w fun e w' => ∃ gs av st vs, e = .returned (.agg #[.slice (some ⟨gs, 0, none⟩) (nX + 1) (nX + 1), .slice av (acc ops ops.length).length (acc ops ops.length).length]) ∧ GAt w' w.heap.size nX (acc ops ops.length) gs av st vs ∧ Below w.heap.size w w' := by
  have hS := h.hS
  have hgo := h.hgo
  obtain ⟨W1, hW1⟩ : ∃ W1, ((w.alloc (.cells #[.pointer (some ⟨S, 0, none⟩)] 35)).alloc (.cells #[.func (.func 14) #[] #[]] 58)).alloc (.cells #[.slice none 0 0, .slice none 0 0] 54) = W1 := ⟨_, rfl⟩
  have hb : Below w.heap.size w W1 := by
    rw [← hW1]
    exact (((Below.refl w.heap.size w).alloc (Nat.le_refl _) _).alloc (by simp) _).alloc (by simp; omega) _
  have hz : W1.heap.size = w.heap.size + 3 := by rw [← hW1]; simp
  have b1 : Blk W1 w.heap.size 35 #[.pointer (some ⟨S, 0, none⟩)] := by
    rw [← hW1]
    exact ((Blk.new w 35 _).alloc _).alloc _
  have b2 : Blk W1 (w.heap.size + 1) 58 #[.func (.func 14) #[] #[]] := by
    rw [← hW1]
    have := (Blk.new (w.alloc (.cells #[.pointer (some ⟨S, 0, none⟩)] 35)) 58 #[.func (.func 14) #[] #[]]).alloc (.cells #[.slice none 0 0, .slice none 0 0] 54)
    rwa [World.size_alloc] at this
  have b3 : Blk W1 (w.heap.size + 1 + 1) 54 #[.slice none 0 0, .slice none 0 0] := by
    rw [← hW1]
    have := Blk.new ((w.alloc (.cells #[.pointer (some ⟨S, 0, none⟩)] 35)).alloc (.cells #[.func (.func 14) #[] #[]] 58)) 54 #[.slice none 0 0, .slice none 0 0]
    rwa [World.size_alloc, World.size_alloc] at this
  have h' : SchR W1 (w.heap.size + 2) S go co at' ct ai ci ops nT nX := by
    have := h.below hb
    exact ⟨by omega, by omega, this.c0, this.c1, this.c2, this.op⟩
  have hseq := accesses1 h' hl (by omega) (Bs := w.heap.size) (Bk := w.heap.size + 1) (by omega) (by omega) (b1.cellOf rfl) (b2.cellOf rfl)
  have hmem := acc_mem hi ops.length (Nat.le_refl _)
  have hlen := acc_length ops ops.length
  have hgp := groupPairs_any hseq (enters_of Yba.func30 (by kernel_rfl) rfl) (by omega) hX (fun p hp => ⟨(hmem p hp).1, by have := (hmem p hp).2; omega⟩) (by omega)
  have Hg : Hid (Calls Yba.prog 23 #[.int .i64 nX, .func (.func 30) #[] #[.pointer (some ⟨w.heap.size, 0, none⟩), .pointer (some ⟨w.heap.size + 1, 0, none⟩)]] W1 _) := hgp
  have c2 := h'.c2
  have cb1 := b1.cellOf (j := 0) rfl
  clear hgp hseq h
  go_enter Yba.func22, Yba.ntmps22
  go_upto_region 1 with fail
  clear hW1
  go_wp2_with (go_at_call 23; refine Hg.out.mono ?_; rintro e w' ⟨gs, av, st, vs, rfl, hga, hbel⟩; have hR' := b3.below hbel (by omega); have r0 := hR'.cellOf (j := 0) rfl; have r1 := hR'.cellOf (j := 1) rfl; have f0 := hR'.frozen 0; have f1 := hR'.frozen 1)
  have hle := hga.le
  have hne : gs ≠ w.heap.size + 1 + 1 := by omega
  refine bodyPost_ret (v := .agg #[.slice (some ⟨gs, 0, none⟩) (nX + 1) (nX + 1), .slice av (acc ops ops.length).length (acc ops ops.length).length]) (by simp [results, go_sem, r0, r1]) rfl ⟨gs, av, st, vs, rfl, ⟨?_, by omega, hga.grp, ?_⟩, ?_⟩
  · exact Blk.setOther (a := ⟨w.heap.size + 1 + 1, 1, none⟩) (Blk.setOther (a := ⟨w.heap.size + 1 + 1, 0, none⟩) hga.row hne _) hne _
  · rcases hga.vals with e | ⟨gv, e, hr, hl'⟩
    · exact .inl e
    · have hne2 : gv ≠ w.heap.size + 1 + 1 := by omega
      exact .inr ⟨gv, e, Blk.setOther (a := ⟨w.heap.size + 1 + 1, 1, none⟩) (Blk.setOther (a := ⟨w.heap.size + 1 + 1, 0, none⟩) hr hne2 _) hne2 _, by omega⟩
  · exact ((hb.trans (hbel.mono (by omega))).setCell (p := ⟨w.heap.size + 1 + 1, 0, none⟩) (by show w.heap.size ≤ w.heap.size + 1 + 1; omega) _).setCell (p := ⟨w.heap.size + 1 + 1, 1, none⟩) (by show w.heap.size ≤ w.heap.size + 1 + 1; omega) _

/-- a row of indices, as it is read -/
def NatsAt (w : World) (N : Nat) (ao : Option Addr) (L : List Nat) : Prop := 0 < L.length → ∃ g o, ao = some ⟨g, o, none⟩ ∧ g < N ∧ ∀ i, i < L.length → w.cell? ⟨g, o + i, none⟩ = some (.int .i64 (L.getD i 0 : Nat))

theorem NatsAt.below {w w' : World} {N : Nat} {ao : Option Addr} {L : List Nat} (h : NatsAt w N ao L) (hb : Below N w w') : NatsAt w' N ao L := by
  intro h0
  obtain ⟨g, o, rfl, hg, hc⟩ := h h0
  exact ⟨g, o, rfl, hg, fun i hi => (hb.cell (p := ⟨g, o + i, none⟩) hg).trans (hc i hi)⟩

theorem below_drewN {B : Nat} {w W : World} (h : Below B w W) (q : Nat) : Below B w (W.drewN q) := by
  induction q with
  | zero => exact h
  | succ q ih => exact ih.drew

set_option maxHeartbeats 1000000 in
theorem of_any {w : World} {B n : Nat} {xs : List (Nat × Nat)} {gs : Nat} {av : Option Addr} {st vs : List Int} (h : GAt w B n xs gs av st vs) (hn : n ≤ 1024) (hl : xs.length ≤ 4096) {k : Nat} (hk : k < n) :
    Calls Yba.prog 16 #[.agg #[.slice (some ⟨gs, 0, none⟩) (n + 1) (n + 1), .slice av xs.length xs.length], .int .i64 k] w fun e w' => ∃ ao, e = .returned (.slice ao (grp xs k).length (xs.length - off xs k)) ∧ NatsAt w' w.heap.size ao (grp xs k) ∧ Below w.heap.size w w' ∧ ∀ (W0 : World) (B' : Nat), GAt W0 B' n xs gs av st vs → NatsAt W0 W0.heap.size ao (grp xs k) := by
  have hst := Blk.alloc h.row (.cells #[.slice (some ⟨gs, 0, none⟩) (n + 1) (n + 1), .slice av xs.length xs.length] 54)
  have hb1 := (Below.refl w.heap.size w).alloc (Nat.le_refl _) (.cells #[.slice (some ⟨gs, 0, none⟩) (n + 1) (n + 1), .slice av xs.length xs.length] 54)
  have c0 := IRow.cellOf hst (j := k) (by rw [h.grp.len]; omega)
  have c1 := IRow.cellOf hst (j := k + 1) (by rw [h.grp.len]; omega)
  rw [h.grp.at' k (by omega)] at c0
  rw [h.grp.at' (k + 1) (by omega), off_succ] at c1
  have hle := off_le xs (k + 1)
  rw [off_succ] at hle
  have hval := h.grp.val k hk
  have hvl := h.grp.vlen
  have hvals := h.vals
  have hgp : (grp xs k).length ≤ xs.length := by omega
  have Hg0 : Hid (xs = [] → grp xs k = []) := fun e => by rw [e]; rfl
  obtain ⟨L, hL⟩ : ∃ L, L = grp xs k := ⟨_, rfl⟩
  rw [← hL] at c1 hle hval hgp Hg0 ⊢
  obtain ⟨a, ha⟩ : ∃ a, a = off xs k := ⟨_, rfl⟩
  rw [← ha] at c0 c1 hle hval ⊢
  clear hL ha
  have Hval : Hid (∀ i, i < L.length → vs.getD (a + i) 0 = ((L.getD i 0 : Nat) : Int)) := hval
  clear hval
  have hc1 : ((a + L.length : Nat) : Int) = (a : Int) + (L.length : Int) := by omega
  rw [hc1] at c1
  have hw1 : IntKind.i64.wrap ((k : Int) + 1) = (k : Int) + 1 := wrapI _ (by omega)
  have t1 : ((a : Int) + (L.length : Int)).toNat = a + L.length := by omega
  have i1 : (k : Int) < (n : Int) + 1 := by omega
  have i2 : (k : Int) + 1 < (n : Int) + 1 := by omega
  have i3 : (0 : Int) ≤ (k : Int) + 1 := by omega
  have i4 : (0 : Int) ≤ (a : Int) + (L.length : Int) := by omega
  have i5 : (a : Int) ≤ (a : Int) + (L.length : Int) := by omega
  have i6 : (a : Int) + (L.length : Int) ≤ (xs.length : Int) := by omega
  clear hc1
  rcases hvals with ⟨hx, rfl⟩ | ⟨gv, rfl, hrow, hgv⟩
  · have hL0 : L = [] := Hg0.out hx
    subst hL0
    have hN : xs.length = 0 := by rw [hx]; rfl
    have ha0 : a = 0 := by omega
    subst ha0
    have c0 : (w.alloc (.cells #[.slice (some ⟨gs, 0, none⟩) (n + 1) (n + 1), .slice none xs.length xs.length] 54)).cell? ⟨gs, k, none⟩ = some (.int .i64 0) := c0
    have c1 : (w.alloc (.cells #[.slice (some ⟨gs, 0, none⟩) (n + 1) (n + 1), .slice none xs.length xs.length] 54)).cell? ⟨gs, k + 1, none⟩ = some (.int .i64 0) := c1
    rw [hN]
    have hbx := Blk.new w 54 #[.slice (some ⟨gs, 0, none⟩) (n + 1) (n + 1), .slice none 0 0]
    rw [hN] at c0 c1 hb1
    go_enter Yba.func16, Yba.ntmps16
    go_wp2_with fail
    refine wp_region_noPanic ?_
    refine wp_region_held_drew (S := fun w' => w'.cell? ⟨w.heap.size, 0, none⟩ = some (.slice (some ⟨gs, 0, none⟩) (n + 1) (n + 1)) ∧ w'.cell? ⟨w.heap.size, 1, none⟩ = some (.slice none 0 0) ∧ w'.cell? ⟨gs, k, none⟩ = some (.int .i64 (0)) ∧ w'.cell? ⟨gs, k + 1, none⟩ = some (.int .i64 (0))) (by kernel_rfl) ⟨hbx.cellOf (j := 0) rfl, hbx.cellOf (j := 1) rfl, c0, c1⟩ (fun hHeld => ?_)
    refine wpAnyH_take (i := 0) (v := .pointer (some ⟨w.heap.size, 1, none⟩)) rfl (by kernel_rfl) (by kernel_rfl) (by kernel_rfl) (fun _ _ _ h => h) (Or.inl ⟨by rfl, fun w hSw => by go_simp⟩) hHeld ?_
    try simp only [Act.put, List.setIfInBounds_toArray, List.set_cons_zero, List.set_cons_succ]
    refine wpAnyH_take (i := 1) (v := .slice none 0 0) rfl (by kernel_rfl) (by kernel_rfl) (by kernel_rfl) (fun _ _ _ h => h) (Or.inl ⟨by rfl, fun w hSw => by go_simp⟩) hHeld ?_
    try simp only [Act.put, List.setIfInBounds_toArray, List.set_cons_zero, List.set_cons_succ]
    refine wpAnyH_take (i := 2) (v := .pointer (some ⟨w.heap.size, 0, none⟩)) rfl (by kernel_rfl) (by kernel_rfl) (by kernel_rfl) (fun _ _ _ h => h) (Or.inl ⟨by rfl, fun w hSw => by go_simp⟩) hHeld ?_
    try simp only [Act.put, List.setIfInBounds_toArray, List.set_cons_zero, List.set_cons_succ]
    refine wpAnyH_take (i := 3) (v := .slice (some ⟨gs, 0, none⟩) (n + 1) (n + 1)) rfl (by kernel_rfl) (by kernel_rfl) (by kernel_rfl) (fun _ _ _ h => h) (Or.inl ⟨by rfl, fun w hSw => by go_simp⟩) hHeld ?_
    try simp only [Act.put, List.setIfInBounds_toArray, List.set_cons_zero, List.set_cons_succ]
    refine wpAnyH_take (i := 4) (v := .int .i64 k) rfl (by kernel_rfl) (by kernel_rfl) (by kernel_rfl) (fun _ _ _ h => h) (Or.inl ⟨by rfl, fun w hSw => by go_simp⟩) hHeld ?_
    try simp only [Act.put, List.setIfInBounds_toArray, List.set_cons_zero, List.set_cons_succ]
    refine wpAnyH_take (i := 5) (v := .pointer (some ⟨gs, k, none⟩)) rfl (by kernel_rfl) (by kernel_rfl) (by kernel_rfl) (fun _ _ _ h => h) (Or.inl ⟨by rfl, fun w hSw => by go_simp⟩) hHeld ?_
    try simp only [Act.put, List.setIfInBounds_toArray, List.set_cons_zero, List.set_cons_succ]
    refine wpAnyH_take (i := 6) (v := .int .i64 (0)) rfl (by kernel_rfl) (by kernel_rfl) (by kernel_rfl) (fun _ _ _ h => h) (Or.inl ⟨by rfl, fun w hSw => by go_simp⟩) hHeld ?_
    try simp only [Act.put, List.setIfInBounds_toArray, List.set_cons_zero, List.set_cons_succ]
    refine wpAnyH_take (i := 7) (v := .pointer (some ⟨w.heap.size, 0, none⟩)) rfl (by kernel_rfl) (by kernel_rfl) (by kernel_rfl) (fun _ _ _ h => h) (Or.inl ⟨by rfl, fun w hSw => by go_simp⟩) hHeld ?_
    try simp only [Act.put, List.setIfInBounds_toArray, List.set_cons_zero, List.set_cons_succ]
    refine wpAnyH_take (i := 8) (v := .slice (some ⟨gs, 0, none⟩) (n + 1) (n + 1)) rfl (by kernel_rfl) (by kernel_rfl) (by kernel_rfl) (fun _ _ _ h => h) (Or.inl ⟨by rfl, fun w hSw => by go_simp⟩) hHeld ?_
    try simp only [Act.put, List.setIfInBounds_toArray, List.set_cons_zero, List.set_cons_succ]
    refine wpAnyH_take (i := 9) (v := .int .i64 k) rfl (by kernel_rfl) (by kernel_rfl) (by kernel_rfl) (fun _ _ _ h => h) (Or.inl ⟨by rfl, fun w hSw => by go_simp⟩) hHeld ?_
    try simp only [Act.put, List.setIfInBounds_toArray, List.set_cons_zero, List.set_cons_succ]
    refine wpAnyH_take (i := 10) (v := .int .i64 ((k : Int) + 1)) rfl (by kernel_rfl) (by kernel_rfl) (by kernel_rfl) (fun _ _ _ h => h) (Or.inl ⟨by rfl, fun w hSw => by go_simp⟩) hHeld ?_
    try simp only [Act.put, List.setIfInBounds_toArray, List.set_cons_zero, List.set_cons_succ]
    refine wpAnyH_take (i := 11) (v := .pointer (some ⟨gs, k + 1, none⟩)) rfl (by kernel_rfl) (by kernel_rfl) (by kernel_rfl) (fun _ _ _ h => h) (Or.inl ⟨by rfl, fun w hSw => by go_simp⟩) hHeld ?_
    try simp only [Act.put, List.setIfInBounds_toArray, List.set_cons_zero, List.set_cons_succ]
    refine wpAnyH_take (i := 12) (v := .int .i64 (0)) rfl (by kernel_rfl) (by kernel_rfl) (by kernel_rfl) (fun _ _ _ h => h) (Or.inl ⟨by rfl, fun w hSw => by go_simp⟩) hHeld ?_
    try simp only [Act.put, List.setIfInBounds_toArray, List.set_cons_zero, List.set_cons_succ]
    refine wpAnyH_ready (rs := [13]) (by kernel_rfl) (by simp) ?_
    refine AllReadyH.cons rfl (fun K hK => ?_) AllReadyH.nil
    go_simp
    refine hK.out _ _ (hHeld) (fun hHeld => ?_)
    clear hK K
    try simp only [Act.put, List.setIfInBounds_toArray, List.set_cons_zero, List.set_cons_succ]
    refine wpAnyH_ready (rs := [14]) (by kernel_rfl) (by simp) ?_
    refine AllReadyH.cons rfl (fun K hK => ?_) AllReadyH.nil
    go_simp
    refine hK.out _ _ (hHeld) (fun hHeld => ?_)
    clear hK K
    try simp only [Act.put, List.setIfInBounds_toArray, List.set_cons_zero, List.set_cons_succ]
    refine wpAnyH_done (by kernel_rfl) ?_ _
    refine NoPanic.normal ?_
    go_wp2_with fail
    go_ret
    exact ⟨none, rfl, fun h => absurd h (Nat.lt_irrefl _), hb1.drew, fun W0 B' hg h => absurd h (Nat.lt_irrefl _)⟩
  · have hrow' := Blk.alloc hrow (.cells #[.slice (some ⟨gs, 0, none⟩) (n + 1) (n + 1), .slice (some ⟨gv, 0, none⟩)  xs.length xs.length] 54)
    have hcell : NatsAt (w.alloc (.cells #[.slice (some ⟨gs, 0, none⟩) (n + 1) (n + 1), .slice (some ⟨gv, 0, none⟩)  xs.length xs.length] 54)) w.heap.size (some ⟨gv, a, none⟩) L := fun _ => ⟨gv, a, rfl, hrow.blk.lt, fun i hi => by
      rw [← Hval.out i hi]
      exact IRow.cellOf hrow' (by omega)⟩
    have Hcell : Hid (NatsAt (w.alloc (.cells #[.slice (some ⟨gs, 0, none⟩) (n + 1) (n + 1), .slice (some ⟨gv, 0, none⟩)  xs.length xs.length] 54)) w.heap.size (some ⟨gv, a, none⟩) L) := hcell
    clear hcell
    have hbx := Blk.new w 54 #[.slice (some ⟨gs, 0, none⟩) (n + 1) (n + 1), .slice (some ⟨gv, 0, none⟩)  xs.length xs.length]
    obtain ⟨oa, hoa⟩ : ∃ oa, (if xs.length = a then some (⟨gv, 0, none⟩ : Addr) else some ⟨gv, a, none⟩) = oa := ⟨_, rfl⟩
    have Hoa : Hid (0 < L.length → oa = some ⟨gv, a, none⟩) := fun h0 => by rw [← hoa, if_neg (by omega)]
    go_enter Yba.func16, Yba.ntmps16
    go_wp2_with fail
    refine wp_region_noPanic ?_
    refine wp_region_held_drew (S := fun w' => w'.cell? ⟨w.heap.size, 0, none⟩ = some (.slice (some ⟨gs, 0, none⟩) (n + 1) (n + 1)) ∧ w'.cell? ⟨w.heap.size, 1, none⟩ = some (.slice (some ⟨gv, 0, none⟩)  xs.length xs.length) ∧ w'.cell? ⟨gs, k, none⟩ = some (.int .i64 ((a : Int))) ∧ w'.cell? ⟨gs, k + 1, none⟩ = some (.int .i64 ((a : Int) + (L.length : Int)))) (by kernel_rfl) ⟨hbx.cellOf (j := 0) rfl, hbx.cellOf (j := 1) rfl, c0, c1⟩ (fun hHeld => ?_)
    refine wpAnyH_take (i := 0) (v := .pointer (some ⟨w.heap.size, 1, none⟩)) rfl (by kernel_rfl) (by kernel_rfl) (by kernel_rfl) (fun _ _ _ h => h) (Or.inl ⟨by rfl, fun w hSw => by go_simp⟩) hHeld ?_
    try simp only [Act.put, List.setIfInBounds_toArray, List.set_cons_zero, List.set_cons_succ]
    refine wpAnyH_take (i := 1) (v := .slice (some ⟨gv, 0, none⟩)  xs.length xs.length) rfl (by kernel_rfl) (by kernel_rfl) (by kernel_rfl) (fun _ _ _ h => h) (Or.inl ⟨by rfl, fun w hSw => by go_simp⟩) hHeld ?_
    try simp only [Act.put, List.setIfInBounds_toArray, List.set_cons_zero, List.set_cons_succ]
    refine wpAnyH_take (i := 2) (v := .pointer (some ⟨w.heap.size, 0, none⟩)) rfl (by kernel_rfl) (by kernel_rfl) (by kernel_rfl) (fun _ _ _ h => h) (Or.inl ⟨by rfl, fun w hSw => by go_simp⟩) hHeld ?_
    try simp only [Act.put, List.setIfInBounds_toArray, List.set_cons_zero, List.set_cons_succ]
    refine wpAnyH_take (i := 3) (v := .slice (some ⟨gs, 0, none⟩) (n + 1) (n + 1)) rfl (by kernel_rfl) (by kernel_rfl) (by kernel_rfl) (fun _ _ _ h => h) (Or.inl ⟨by rfl, fun w hSw => by go_simp⟩) hHeld ?_
    try simp only [Act.put, List.setIfInBounds_toArray, List.set_cons_zero, List.set_cons_succ]
    refine wpAnyH_take (i := 4) (v := .int .i64 k) rfl (by kernel_rfl) (by kernel_rfl) (by kernel_rfl) (fun _ _ _ h => h) (Or.inl ⟨by rfl, fun w hSw => by go_simp⟩) hHeld ?_
    try simp only [Act.put, List.setIfInBounds_toArray, List.set_cons_zero, List.set_cons_succ]
    refine wpAnyH_take (i := 5) (v := .pointer (some ⟨gs, k, none⟩)) rfl (by kernel_rfl) (by kernel_rfl) (by kernel_rfl) (fun _ _ _ h => h) (Or.inl ⟨by rfl, fun w hSw => by go_simp⟩) hHeld ?_
    try simp only [Act.put, List.setIfInBounds_toArray, List.set_cons_zero, List.set_cons_succ]
    refine wpAnyH_take (i := 6) (v := .int .i64 ((a : Int))) rfl (by kernel_rfl) (by kernel_rfl) (by kernel_rfl) (fun _ _ _ h => h) (Or.inl ⟨by rfl, fun w hSw => by go_simp⟩) hHeld ?_
    try simp only [Act.put, List.setIfInBounds_toArray, List.set_cons_zero, List.set_cons_succ]
    refine wpAnyH_take (i := 7) (v := .pointer (some ⟨w.heap.size, 0, none⟩)) rfl (by kernel_rfl) (by kernel_rfl) (by kernel_rfl) (fun _ _ _ h => h) (Or.inl ⟨by rfl, fun w hSw => by go_simp⟩) hHeld ?_
    try simp only [Act.put, List.setIfInBounds_toArray, List.set_cons_zero, List.set_cons_succ]
    refine wpAnyH_take (i := 8) (v := .slice (some ⟨gs, 0, none⟩) (n + 1) (n + 1)) rfl (by kernel_rfl) (by kernel_rfl) (by kernel_rfl) (fun _ _ _ h => h) (Or.inl ⟨by rfl, fun w hSw => by go_simp⟩) hHeld ?_
    try simp only [Act.put, List.setIfInBounds_toArray, List.set_cons_zero, List.set_cons_succ]
    refine wpAnyH_take (i := 9) (v := .int .i64 k) rfl (by kernel_rfl) (by kernel_rfl) (by kernel_rfl) (fun _ _ _ h => h) (Or.inl ⟨by rfl, fun w hSw => by go_simp⟩) hHeld ?_
    try simp only [Act.put, List.setIfInBounds_toArray, List.set_cons_zero, List.set_cons_succ]
    refine wpAnyH_take (i := 10) (v := .int .i64 ((k : Int) + 1)) rfl (by kernel_rfl) (by kernel_rfl) (by kernel_rfl) (fun _ _ _ h => h) (Or.inl ⟨by rfl, fun w hSw => by go_simp⟩) hHeld ?_
    try simp only [Act.put, List.setIfInBounds_toArray, List.set_cons_zero, List.set_cons_succ]
    refine wpAnyH_take (i := 11) (v := .pointer (some ⟨gs, k + 1, none⟩)) rfl (by kernel_rfl) (by kernel_rfl) (by kernel_rfl) (fun _ _ _ h => h) (Or.inl ⟨by rfl, fun w hSw => by go_simp⟩) hHeld ?_
    try simp only [Act.put, List.setIfInBounds_toArray, List.set_cons_zero, List.set_cons_succ]
    refine wpAnyH_take (i := 12) (v := .int .i64 ((a : Int) + (L.length : Int))) rfl (by kernel_rfl) (by kernel_rfl) (by kernel_rfl) (fun _ _ _ h => h) (Or.inl ⟨by rfl, fun w hSw => by go_simp⟩) hHeld ?_
    try simp only [Act.put, List.setIfInBounds_toArray, List.set_cons_zero, List.set_cons_succ]
    refine wpAnyH_ready (rs := [13]) (by kernel_rfl) (by simp) ?_
    refine AllReadyH.cons rfl (fun K hK => ?_) AllReadyH.nil
    go_simp
    refine hK.out _ _ (hHeld) (fun hHeld => ?_)
    clear hK K
    try simp only [Act.put, List.setIfInBounds_toArray, List.set_cons_zero, List.set_cons_succ]
    refine wpAnyH_ready (rs := [14]) (by kernel_rfl) (by simp) ?_
    refine AllReadyH.cons rfl (fun K hK => ?_) AllReadyH.nil
    go_simp
    refine hK.out _ _ (hHeld) (fun hHeld => ?_)
    clear hK K
    try simp only [Act.put, List.setIfInBounds_toArray, List.set_cons_zero, List.set_cons_succ]
    refine wpAnyH_done (by kernel_rfl) ?_ _
    refine NoPanic.normal ?_
    go_wp2_with fail
    go_ret
    refine ⟨oa, rfl, fun h0 => ?_, hb1.drew, fun W0 B' hg h0 => ?_⟩
    · rw [Hoa.out h0]
      exact Hcell.out h0
    · rw [Hoa.out h0]
      rcases hg.vals with ⟨hx, _⟩ | ⟨gv', e, hr, _⟩
      · have := Hg0.out hx
        rw [this] at h0
        exact absurd h0 (Nat.lt_irrefl _)
      · simp only [Option.some.injEq, Addr.mk.injEq, and_true] at e
        subst e
        exact ⟨gv, a, rfl, hr.blk.lt, fun i hi => by
          rw [← Hval.out i hi]
          exact hr.cellOf (by omega)⟩
end Go.Proofs.Ybulkri.A
