import Derived.Test.YbulkskWalks
import Derived.Test.YbulkskEnc
import Derived.Test.YbulkskDec
import Derived.Test.YbulkskTail
namespace Go.Proofs.Ybulksk
open Go.RowKit
set_option linter.unusedVariables false

set_option maxHeartbeats 1000000 in
set_option maxRecDepth 100000 in
theorem edges0 (v sel : Int) (ao : Option Addr) (len cap : Nat) (ts : List Int) (w : World) (hv1 : -9223372036854775808 ≤ v) (hv2 : v ≤ 9223372036854775807) (hs1 : 0 ≤ sel) (hs2 : sel ≤ 255) (hs : sel % 4 = 0) (ht : TailAt w ao len cap ts) :
    Calls Yba.prog 4 #[.int .i64 v, .int .u8 sel, .slice ao len cap] w fun e w' => e = .returned (.bool true) ∧ Below w.heap.size w w' := by
  have hle := ht.short
  go_enter Yba.func4, Yba.ntmps4
  have hU := IntKind.wrap_u64 v
  have HU : Hid (IntKind.u64.wrap v = v % 18446744073709551616) := hU
  clear hU
  go_wp2_with (first
    | (at_make; refine encMake (w0 := w) rfl _ _ rfl _ _ _ (len + 16) rfl rfl (by omega) (by omega) (Below.refl _ _) ?_; intro w1 henc1 hgrow1)
    | (at_builtin; refine Hid.out ?_))
  unfold Hid
  refine encLit rfl (.tmp 51) (.tmp 75) rfl _ _ _ [] rfl rfl henc1 _ _ _ (2 :: 8 :: SP.oct8 v) _ rfl rfl rfl ?_ (by simp) ?_
  · simp [SP.oct8, HU.out]
  intro w2 henc2 hgrow2
  go_wp2_with (at_builtin; refine Hid.out ?_)
  unfold Hid
  refine encSrc rfl (.tmp 77) (.tmp 78) rfl _ _ _ _ rfl rfl henc2 _ _ _ ts rfl ht.tl ht.nil (ht.later henc2.bel) (by omega) ?_
  intro w3 henc3 hgrow3
  clear hgrow1 hgrow2 hgrow3 henc1 henc2
  obtain ⟨b, cs, hbc, hcl⟩ : ∃ b cs, SP.oct8 v = b :: cs ∧ cs.length = 7 := ⟨_, _, rfl, rfl⟩
  have hpv := SP.pv_oct8 v hv1 hv2
  have hB := SP.oct8_bytes v
  rw [hbc] at henc3 hpv hB
  have Hpv : Hid (SP.pv (b :: cs) = v) := hpv
  have Hcl : Hid (cs.length = 7) := hcl
  have hL : ([] ++ 2 :: 8 :: (b :: cs) ++ ts).length = 10 + len := by simp [hcl, ht.tl]; omega
  have HL : Hid (([] ++ 2 :: 8 :: (b :: cs) ++ ts).length = 10 + len) := hL
  have htl := ht.tl
  have Htl : Hid (ts.length = len) := ht.tl
  clear hbc hpv hcl hL htl
  by_cases hr : -2147483648 ≤ v ∧ v ≤ 2147483647
  · obtain ⟨hr1, hr2⟩ := hr
    have hd := dec_short (L := 10 + len) (ts := ts) henc3 (by simp [Hcl.out]) hB (by have := Hcl.out; omega) HL.out.symm (by have := HL.out; omega) (by omega) (by rw [Hpv.out]; exact hr1) (by rw [Hpv.out]; exact hr2)
    rw [Hpv.out, Hcl.out, Htl.out] at hd
    have Hd := hd
    unfold decW at hd
    have HD : Hid (Calls Yba.prog 5 #[.pointer (some ⟨w3.heap.size, 0, none⟩)] (w3.alloc (.cells #[.slice (some ⟨w.heap.size, 0, none⟩) (10 + len) (len + 16), .bool false] 26)) fun e w' => e = .returned (.int .i32 v) ∧ Left w w3 w' w.heap.size (len + 16) ([] ++ 2 :: 8 :: (b :: cs) ++ ts) (2 + (7 + 1)) len (len + 16 - 2 - (7 + 1)) false) := hd
    clear hd Hd
    go_wp2_with (first
      | (go_at_call 5; refine HD.out.mono ?_; rintro e w4 ⟨rfl, henc4, hblk4⟩; have cr := hblk4.cellOf (j := 0) rfl; have cf := hblk4.cellOf (j := 1) rfl; have h1 := enc_tail henc4 (n := 10) (by simp [Hcl.out]); rw [Htl.out] at h1)
      | (go_at_call 6; refine (eq_same _ ao len _ cap ts _ Htl.out (by omega) h1 (ht.later henc4.bel)).mono ?_; rintro e w5 ⟨rfl, q, rfl⟩))
    go_ret
    exact ⟨rfl, (henc4.drewN q).bel⟩
  · have hN : SP.pv (b :: cs) < -2147483648 ∨ 2147483647 < SP.pv (b :: cs) := by rw [Hpv.out]; omega
    have hd := dec_far (L := 10 + len) (ts := ts) henc3 (by simp [Hcl.out]) hB (by have := Hcl.out; omega) HL.out.symm (by have := HL.out; omega) (by omega) hN
    rw [Hcl.out, Htl.out] at hd
    unfold decW at hd
    have HD : Hid (Calls Yba.prog 5 #[.pointer (some ⟨w3.heap.size, 0, none⟩)] (w3.alloc (.cells #[.slice (some ⟨w.heap.size, 0, none⟩) (10 + len) (len + 16), .bool false] 26)) fun e w' => e = .returned (.int .i32 0) ∧ Left w w3 w' w.heap.size (len + 16) ([] ++ 2 :: 8 :: (b :: cs) ++ ts) (2 + (7 + 1)) len (len + 16 - 2 - (7 + 1)) true) := hd
    clear hd hN
    by_cases hlo : -2147483648 ≤ v
    · have hhi : 2147483647 < v := by omega
      clear hr
      go_wp2_with (first
        | (go_at_call 5; refine HD.out.mono ?_; rintro e w4 ⟨rfl, henc4, hblk4⟩; have cr := hblk4.cellOf (j := 0) rfl; have cf := hblk4.cellOf (j := 1) rfl; have h1 := enc_tail henc4 (n := 10) (by simp [Hcl.out]); rw [Htl.out] at h1)
        | (go_at_call 6; refine (eq_same _ ao len _ cap ts _ Htl.out (by omega) h1 (ht.later henc4.bel)).mono ?_; rintro e w5 ⟨rfl, q, rfl⟩))
      go_ret
      exact ⟨rfl, (henc4.drewN q).bel⟩
    · clear hr
      go_wp2_with (first
        | (go_at_call 5; refine HD.out.mono ?_; rintro e w4 ⟨rfl, henc4, hblk4⟩; have cr := hblk4.cellOf (j := 0) rfl; have cf := hblk4.cellOf (j := 1) rfl; have h1 := enc_tail henc4 (n := 10) (by simp [Hcl.out]); rw [Htl.out] at h1)
        | (go_at_call 6; refine (eq_same _ ao len _ cap ts _ Htl.out (by omega) h1 (ht.later henc4.bel)).mono ?_; rintro e w5 ⟨rfl, q, rfl⟩))
      go_ret
      exact ⟨rfl, (henc4.drewN q).bel⟩

set_option maxHeartbeats 1000000 in
set_option maxRecDepth 100000 in
theorem edges1 (v sel : Int) (ao : Option Addr) (len cap : Nat) (ts : List Int) (w : World) (hs1 : 0 ≤ sel) (hs2 : sel ≤ 255) (hs : sel % 4 = 1) (ht : TailAt w ao len cap ts) :
    Calls Yba.prog 4 #[.int .i64 v, .int .u8 sel, .slice ao len cap] w fun e w' => e = .returned (.bool true) ∧ Below w.heap.size w w' := by
  have hle := ht.short
  go_enter Yba.func4, Yba.ntmps4
  go_wp2_with (first
    | (at_make; refine encMake (w0 := w) rfl _ _ rfl _ _ _ (len + 16) rfl rfl (by omega) (by omega) (Below.refl _ _) ?_; intro w1 henc1 hgrow1)
    | (at_builtin; refine Hid.out ?_))
  unfold Hid
  refine encLit rfl (.tmp 111) (.tmp 114) rfl _ _ _ [] rfl rfl henc1 _ _ _ [4, 1, IntKind.u64.wrap v % 256] _ rfl rfl rfl ?_ (by simp) ?_
  · rfl
  intro w2 henc2 hgrow2
  go_wp2_with (at_builtin; refine Hid.out ?_)
  unfold Hid
  refine encSrc rfl (.tmp 116) (.tmp 117) rfl _ _ _ _ rfl rfl henc2 _ _ _ ts rfl ht.tl ht.nil (ht.later henc2.bel) (by omega) ?_
  intro w3 henc3 hgrow3
  clear hgrow1 hgrow2 hgrow3 henc1 henc2
  have hL : ([] ++ [4, 1, IntKind.u64.wrap v % 256] ++ ts).length = 3 + len := by simp [ht.tl]; omega
  have HL : Hid (([] ++ [4, 1, IntKind.u64.wrap v % 256] ++ ts).length = 3 + len) := hL
  have Htl : Hid (ts.length = len) := ht.tl
  clear hL
  have hd := dec_other (L := 3 + len) (ts := ts) henc3 rfl HL.out.symm (by have := HL.out; omega) (by omega)
  rw [Htl.out] at hd
  unfold decW at hd
  have HD : Hid (Calls Yba.prog 5 #[.pointer (some ⟨w3.heap.size, 0, none⟩)] (w3.alloc (.cells #[.slice (some ⟨w.heap.size, 0, none⟩) (3 + len) (len + 16), .bool false] 26)) fun e w' => e = .returned (.int .i32 0) ∧ Left w w3 w' w.heap.size (len + 16) ([] ++ [4, 1, IntKind.u64.wrap v % 256] ++ ts) 3 len (len + 16 - 3) true) := hd
  clear hd
  go_wp2_with (first
    | (go_at_call 5; refine HD.out.mono ?_; rintro e w4 ⟨rfl, henc4, hblk4⟩; have cr := hblk4.cellOf (j := 0) rfl; have cf := hblk4.cellOf (j := 1) rfl; have h1 := enc_tail henc4 (n := 3) (by simp); rw [Htl.out] at h1)
    | (go_at_call 6; refine (eq_same _ ao len _ cap ts _ Htl.out (by omega) h1 (ht.later henc4.bel)).mono ?_; rintro e w5 ⟨rfl, q, rfl⟩))
  go_ret
  exact ⟨rfl, (henc4.drewN q).bel⟩

set_option maxHeartbeats 1000000 in
set_option maxRecDepth 100000 in
theorem edges2 (v sel : Int) (ao : Option Addr) (len cap : Nat) (ts : List Int) (w : World) (hs1 : 0 ≤ sel) (hs2 : sel ≤ 255) (hs : sel % 4 = 2) (ht : TailAt w ao len cap ts) :
    Calls Yba.prog 4 #[.int .i64 v, .int .u8 sel, .slice ao len cap] w fun e w' => e = .returned (.bool true) ∧ Below w.heap.size w w' := by
  have hle := ht.short
  go_enter Yba.func4, Yba.ntmps4
  go_wp2_with (first
    | (at_make; refine encMake (w0 := w) rfl _ _ rfl _ _ _ (len + 16) rfl rfl (by omega) (by omega) (Below.refl _ _) ?_; intro w1 henc1 hgrow1)
    | (at_builtin; refine Hid.out ?_))
  unfold Hid
  refine encLit rfl (.tmp 136) (.tmp 139) rfl _ _ _ [] rfl rfl henc1 _ _ _ [2, 1, IntKind.u64.wrap v % 256] _ rfl rfl rfl ?_ (by simp) ?_
  · rfl
  intro w2 henc2 hgrow2
  go_wp2_with (at_builtin; refine Hid.out ?_)
  unfold Hid
  refine encSrc rfl (.tmp 141) (.tmp 142) rfl _ _ _ _ rfl rfl henc2 _ _ _ ts rfl ht.tl ht.nil (ht.later henc2.bel) (by omega) ?_
  intro w3 henc3 hgrow3
  clear hgrow1 hgrow2 hgrow3 henc1 henc2
  have hL : ([] ++ [2, 1, IntKind.u64.wrap v % 256] ++ ts).length = 3 + len := by simp [ht.tl]; omega
  have HL : Hid (([] ++ [2, 1, IntKind.u64.wrap v % 256] ++ ts).length = 3 + len) := hL
  have Htl : Hid (ts.length = len) := ht.tl
  clear hL
  have hd := dec_failed (L := 3 + len) henc3
  unfold decW at hd
  have HD : Hid (Calls Yba.prog 5 #[.pointer (some ⟨w3.heap.size, 0, none⟩)] (w3.alloc (.cells #[.slice (some ⟨w.heap.size, 0, none⟩) (3 + len) (len + 16), .bool true] 26)) fun e w' => e = .returned (.int .i32 0) ∧ Left w w3 w' w.heap.size (len + 16) ([] ++ [2, 1, IntKind.u64.wrap v % 256] ++ ts) 0 (3 + len) (len + 16) true) := hd
  clear hd
  go_wp2_with (first
    | (go_at_call 5; refine HD.out.mono ?_; rintro e w4 ⟨rfl, henc4, hblk4⟩; have cr := hblk4.cellOf (j := 0) rfl; have cf := hblk4.cellOf (j := 1) rfl; have h1 := enc_all henc4 HL.out)
    | (go_at_call 6; refine (eq_same _ _ (3 + len) _ _ _ _ HL.out (by omega) h1 h1).mono ?_; rintro e w5 ⟨rfl, q, rfl⟩))
  go_ret
  exact ⟨rfl, (henc4.drewN q).bel⟩

set_option maxHeartbeats 1000000 in
set_option maxRecDepth 100000 in
theorem edges3 (v sel : Int) (ao : Option Addr) (len cap : Nat) (ts : List Int) (w : World) (hs1 : 0 ≤ sel) (hs2 : sel ≤ 255) (hs : sel % 4 = 3) (ht : TailAt w ao len cap ts) :
    Calls Yba.prog 4 #[.int .i64 v, .int .u8 sel, .slice ao len cap] w fun e w' => e = .returned (.bool true) ∧ Below w.heap.size w w' := by
  have hle := ht.short
  go_enter Yba.func4, Yba.ntmps4
  go_wp2_with (first
    | (at_make; refine encMake (w0 := w) rfl _ _ rfl _ _ _ (len + 16) rfl rfl (by omega) (by omega) (Below.refl _ _) ?_; intro w1 henc1 hgrow1)
    | (at_builtin; refine Hid.out ?_))
  unfold Hid
  refine encLit rfl (.tmp 28) (.tmp 29) rfl _ _ _ [] rfl rfl henc1 _ _ _ [2, 0] _ rfl rfl rfl ?_ (by simp) ?_
  · rfl
  intro w2 henc2 hgrow2
  go_wp2_with (at_builtin; refine Hid.out ?_)
  unfold Hid
  refine encSrc rfl (.tmp 31) (.tmp 32) rfl _ _ _ _ rfl rfl henc2 _ _ _ ts rfl ht.tl ht.nil (ht.later henc2.bel) (by omega) ?_
  intro w3 henc3 hgrow3
  clear hgrow1 hgrow2 hgrow3 henc1 henc2
  have hL : ([] ++ [2, 0] ++ ts).length = 2 + len := by simp [ht.tl]; omega
  have HL : Hid (([] ++ [2, 0] ++ ts).length = 2 + len) := hL
  have Htl : Hid (ts.length = len) := ht.tl
  clear hL
  have hd := dec_empty (L := 2 + len) (ts := ts) henc3 rfl HL.out.symm (by have := HL.out; omega) (by omega)
  rw [Htl.out] at hd
  unfold decW at hd
  have HD : Hid (Calls Yba.prog 5 #[.pointer (some ⟨w3.heap.size, 0, none⟩)] (w3.alloc (.cells #[.slice (some ⟨w.heap.size, 0, none⟩) (2 + len) (len + 16), .bool false] 26)) fun e w' => e = .returned (.int .i32 0) ∧ Left w w3 w' w.heap.size (len + 16) ([] ++ [2, 0] ++ ts) 2 len (len + 16 - 2) true) := hd
  clear hd
  go_wp2_with (first
    | (go_at_call 5; refine HD.out.mono ?_; rintro e w4 ⟨rfl, henc4, hblk4⟩; have cr := hblk4.cellOf (j := 0) rfl; have cf := hblk4.cellOf (j := 1) rfl; have h1 := enc_tail henc4 (n := 2) (by simp); rw [Htl.out] at h1)
    | (go_at_call 6; refine (eq_same _ ao len _ cap ts _ Htl.out (by omega) h1 (ht.later henc4.bel)).mono ?_; rintro e w5 ⟨rfl, q, rfl⟩))
  go_ret
  exact ⟨rfl, (henc4.drewN q).bel⟩

set_option maxHeartbeats 400000 in
theorem edges_long (v sel : Int) (ao : Option Addr) (len cap : Nat) (w : World) (hl : 1024 < len) (hm : len ≤ maxLen) :
    Calls Yba.prog 4 #[.int .i64 v, .int .u8 sel, .slice ao len cap] w fun e w' => e = .returned (.bool true) ∧ Below w.heap.size w w' := by
  unfold maxLen at hm
  go_enter Yba.func4, Yba.ntmps4
  go_wp2
  go_ret
  exact ⟨rfl, Below.refl _ _⟩

end Go.Proofs.Ybulksk
