import Derived.Test.YbulkskWalks
import Derived.Test.YbulkskEnc
import Derived.Test.YbulkskDec
import Derived.Test.YbulkskTail
import Derived.Deep.DeepCutAuto
import Derived.Deep.CutBlock
namespace Go.Proofs.Ybulksk
open Go.RowKit
set_option linter.unusedVariables false

theorem oct4_arr (v : Int) : #[Value.int .u8 (v % 4294967296 / 16777216), Value.int .u8 (v % 4294967296 / 65536 % 256), Value.int .u8 (v % 4294967296 / 256 % 256), Value.int .u8 (v % 256)] = ((SP.oct4 v).map (Value.int .u8)).toArray := by
  simp [SP.oct4]
  omega

theorem blk_cells {w : World} {g : Nat} {bs : List Int} (h : Blk w g 5 (bs.map (Value.int .u8)).toArray) {j : Nat} (hj : j < bs.length) : w.cell? ⟨g, j, none⟩ = some (.int .u8 (bs.getD j 0)) := by
  rw [h.cell j]
  simp [hj]

/-- the header -/
def hdr (long : Bool) (n : Int) : List Int := if long then [2, 129, n] else [2, n]

theorem hdr_length (long : Bool) (n : Int) : (hdr long n).length = if long then 3 else 2 := by cases long <;> rfl

theorem round_dec {w0 w : World} {g cap L p : Nat} {long : Bool} {S v : Int} {dr ts : List Int} (hB : SP.Bytes dr) (hd : 0 < dr.length) (h8 : p + dr.length ≤ 8) (hS : S = if v < 0 then 255 else 0) (hv : SP.pv dr = v) (hv1 : -2147483648 ≤ v) (hv2 : v ≤ 2147483647)
    (h : EncAt w0 w g cap (hdr long ((p + dr.length : Nat) : Int) ++ List.replicate p S ++ dr ++ ts)) (hL : L = (hdr long ((p + dr.length : Nat) : Int) ++ List.replicate p S ++ dr ++ ts).length)
    (hcap : (hdr long ((p + dr.length : Nat) : Int) ++ List.replicate p S ++ dr ++ ts).length < cap) (hcm : cap ≤ 100000) :
    ∃ c, Calls Yba.prog 5 #[.pointer (some ⟨w.heap.size, 0, none⟩)] (decW w g L cap false) fun e w' => e = .returned (.int .i32 v) ∧
      Left w0 w w' g cap (hdr long ((p + dr.length : Nat) : Int) ++ List.replicate p S ++ dr ++ ts) (hdr long ((p + dr.length : Nat) : Int) ++ List.replicate p S ++ dr).length ts.length c false := by
  obtain ⟨b', l', rfl⟩ : ∃ b l, dr = b :: l := by
    cases dr with
    | nil => simp at hd
    | cons b l => exact ⟨b, l, rfl⟩
  have hpv : SP.pv (List.replicate p S ++ b' :: l') = v := by
    rw [SP.pv_pad hB (by rw [hv]; exact hS) p]; exact hv
  have hBB : SP.Bytes (List.replicate p S ++ b' :: l') := by
    intro x hx
    rcases List.mem_append.1 hx with hx | hx
    · rw [(List.mem_replicate.1 hx).2, hS]; split <;> omega
    · exact hB x hx
  have hll : (List.replicate p S ++ b' :: l').length = p + (b' :: l').length := by simp
  obtain ⟨b, cs, hbc⟩ : ∃ b cs, List.replicate p S ++ b' :: l' = b :: cs := by
    cases e : List.replicate p S ++ b' :: l' with
    | nil => simp at e
    | cons b cs => exact ⟨b, cs, rfl⟩
  rw [hbc] at hpv hBB hll
  rw [List.append_assoc _ (List.replicate p S), hbc] at h hL hcap ⊢
  have hn : p + (b' :: l').length = cs.length + 1 := by simpa using hll.symm
  rw [hn] at h hL hcap h8 ⊢
  cases long
  · refine ⟨cap - 2 - (cs.length + 1), (dec_short (ts := ts) h ?_ hBB h8 hL hcap hcm (by rw [hpv]; exact hv1) (by rw [hpv]; exact hv2)).mono ?_⟩
    · simp [hdr]
    · rintro e w' ⟨rfl, h1, h2⟩
      refine ⟨by rw [hpv], h1, ?_⟩
      rw [show (hdr false ((cs.length + 1 : Nat) : Int) ++ b :: cs).length = 2 + (cs.length + 1) by simp [hdr]; omega]
      exact h2
  · refine ⟨cap - 2 - 1 - (cs.length + 1), (dec_long (ts := ts) h ?_ hBB h8 hL hcap hcm (by rw [hpv]; exact hv1) (by rw [hpv]; exact hv2)).mono ?_⟩
    · simp [hdr]
    · rintro e w' ⟨rfl, h1, h2⟩
      refine ⟨by rw [hpv], h1, ?_⟩
      rw [show (hdr true ((cs.length + 1 : Nat) : Int) ++ b :: cs).length = 3 + (cs.length + 1) by simp [hdr]; omega]
      exact h2

set_option maxHeartbeats 1000000 in
set_option maxRecDepth 100000 in
theorem round_any (v pad : Int) (long : Bool) (ao : Option Addr) (len cap : Nat) (ts : List Int) (w : World) (hv1 : -2147483648 ≤ v) (hv2 : v ≤ 2147483647) (hp1 : 0 ≤ pad) (hp2 : pad ≤ 255) (ht : TailAt w ao len cap ts) :
    Calls Yba.prog 3 #[.int .i32 v, .int .u8 pad, .bool long, .slice ao len cap] w fun e w' => e = .returned (.bool true) ∧ Below w.heap.size w w' := by
  have hle := ht.short
  go_enter Yba.func3, Yba.ntmps3
  go_upto_block 0 with fail
  have hblk1 := Blk.new w 5 #[Value.int .u8 (v % 4294967296 / 16777216), Value.int .u8 (v % 4294967296 / 65536 % 256), Value.int .u8 (v % 4294967296 / 256 % 256), Value.int .u8 (v % 256)]
  have hbel1 := (Below.refl w.heap.size w).alloc (Nat.le_refl _) (Obj.cells #[Value.int .u8 (v % 4294967296 / 16777216), Value.int .u8 (v % 4294967296 / 65536 % 256), Value.int .u8 (v % 4294967296 / 256 % 256), Value.int .u8 (v % 256)] 5)
  have hsz1 : (w.alloc (Obj.cells #[Value.int .u8 (v % 4294967296 / 16777216), Value.int .u8 (v % 4294967296 / 65536 % 256), Value.int .u8 (v % 4294967296 / 256 % 256), Value.int .u8 (v % 256)] 5)).heap.size = w.heap.size + 1 := by simp
  generalize w.alloc (Obj.cells #[Value.int .u8 (v % 4294967296 / 16777216), Value.int .u8 (v % 4294967296 / 65536 % 256), Value.int .u8 (v % 4294967296 / 256 % 256), Value.int .u8 (v % 256)] 5) = W1 at *
  rw [oct4_arr] at hblk1
  have HB : Hid (SP.Bytes (SP.oct4 v)) := SP.oct4_bytes v
  have HV : Hid (SP.pv (SP.oct4 v) = v) := SP.pv_oct4 v hv1 hv2
  have Hl : Hid ((SP.oct4 v).length = 4) := rfl
  generalize SP.oct4 v = bs at *
  have Hsz : Hid (W1.heap.size = w.heap.size + 1) := hsz1
  clear hsz1
  go_cut [10, 32] (fun s _ wc => W1 = wc ∧ ∃ o : Nat, o ≤ 3 ∧ s = .slice (some ⟨w.heap.size, o, none⟩) (4 - o) (4 - o) ∧ Hid (SP.pv (bs.drop o) = v))
  case first =>
    go_wp2_with fail
    go_loop [10] (fun s => ∃ o : Nat, o ≤ 3 ∧ s = .slice (some ⟨w.heap.size, o, none⟩) (4 - o) (4 - o) ∧ Hid (SP.pv (bs.drop o) = v)) (fun s => match s with | .slice _ n _ => n | _ => 0)
    case atStart => exact ⟨0, by omega, rfl, HV⟩
    case round =>
      obtain ⟨o, ho, rfl, Ho⟩ := hrel
      by_cases ho3 : o = 3
      · subst ho3
        go_wp2_with fail
        go_meet
        case rel => exact ⟨rfl, 3, by omega, rfl, Ho⟩
      · have c0 := blk_cells hblk1 (j := o) (by rw [Hl.out]; omega)
        have c1 := blk_cells hblk1 (j := o + 1) (by rw [Hl.out]; omega)
        have b0 := bytes_getD HB.out (j := o) (by rw [Hl.out]; omega)
        have b1 := bytes_getD HB.out (j := o + 1) (by rw [Hl.out]; omega)
        have HD : Hid (bs.drop o = bs.getD o 0 :: bs.getD (o + 1) 0 :: bs.drop (o + 2)) := by
          show bs.drop o = _
          rw [List.drop_eq_getElem_cons (by rw [Hl.out]; omega), List.drop_eq_getElem_cons (by rw [Hl.out]; omega)]
          simp [List.getD_eq_getElem?_getD, List.getElem?_eq_getElem (show o < bs.length by rw [Hl.out]; omega), List.getElem?_eq_getElem (show o + 1 < bs.length by rw [Hl.out]; omega)]
        have HD2 : Hid (bs.drop (o + 1) = bs.getD (o + 1) 0 :: bs.drop (o + 2)) := by
          show bs.drop (o + 1) = _
          rw [List.drop_eq_getElem_cons (by rw [Hl.out]; omega)]
          simp [List.getD_eq_getElem?_getD, List.getElem?_eq_getElem (show o + 1 < bs.length by rw [Hl.out]; omega)]
        generalize bs.getD o 0 = x0 at *
        generalize bs.getD (o + 1) 0 = x1 at *
        have e1 := and128 x1 b1.1 b1.2
        obtain ⟨b01, b02⟩ := b0
        obtain ⟨b11, b12⟩ := b1
        have hlen : decide ((1 : Int) < ((4 - o : Nat) : Int)) = true := by simp; omega
        by_cases hx1 : x1 < 128
        · rw [if_pos hx1] at e1
          by_cases hx0 : x0 = 0
          · have HX : Hid (x0 = 0) := hx0
            have hx0' : (x0 == 0) = true := by simpa using hx0
            clear hx0
            go_wp2_with fail
            go_round
            case rel => exact ⟨o + 1, by omega, by simp; omega, by show SP.pv _ = v; rw [HD2.out, ← SP.pv_cons (.inl ⟨HX.out, hx1⟩), ← HD.out]; exact Ho.out⟩
            case measure => simp; omega
          · have hx0' : (x0 == 0) = false := by simpa using hx0
            go_wp2_with fail
            all_goals
              go_meet
              case rel => exact ⟨rfl, o, ho, rfl, Ho⟩
        · rw [if_neg hx1] at e1
          by_cases hx0 : x0 = 255
          · have HX : Hid (x0 = 255) := hx0
            have hx0' : (x0 == 255) = true := by simpa using hx0
            have hx0'' : (x0 == 0) = false := by simp; omega
            clear hx0
            go_wp2_with fail
            go_round
            case rel => exact ⟨o + 1, by omega, by simp; omega, by show SP.pv _ = v; rw [HD2.out, ← SP.pv_cons (.inr ⟨HX.out, hx1⟩), ← HD.out]; exact Ho.out⟩
            case measure => simp; omega
          · have hx0' : (x0 == 255) = false := by simpa using hx0
            go_wp2_with fail
            all_goals
              go_meet
              case rel => exact ⟨rfl, o, ho, rfl, Ho⟩
  case rest =>
    obtain ⟨rfl, o, ho, rfl, Ho⟩ := hcut
    go_upto_if 66 with fail
    go_cut [11] (fun s wc => W1 = wc ∧ s = .int .u8 (if v < 0 then 255 else 0))
    case first =>
      by_cases hneg : v < 0
      · go_wp2_with fail
        go_meet
        case rel => exact ⟨rfl, by rw [if_pos hneg]⟩
      · go_wp2_with fail
        go_meet
        case rel => exact ⟨rfl, by rw [if_neg (by omega)]⟩
    case rest =>
      obtain ⟨rfl, hs11⟩ := hcut
      obtain ⟨S, hS⟩ : ∃ S : Int, S = (if v < 0 then 255 else 0) := ⟨_, rfl⟩
      rw [← hS] at hs11
      subst hs11
      have HS : Hid (S = (if v < 0 then 255 else 0)) := hS
      have hS1 : 0 ≤ S ∧ S ≤ 255 := by rw [hS]; split <;> omega
      clear hS
      obtain ⟨hS1, hS2⟩ := hS1
      go_upto_if 85 with (first
        | (at_make; refine encMake (w0 := w) rfl _ _ rfl _ _ _ (len + 16) rfl rfl (by omega) (by omega) hbel1 ?_; intro w1 henc1 hgrow1)
        | (at_builtin; refine Hid.out ?_))
      unfold Hid
      refine encLit rfl (.tmp 82) (.tmp 83) rfl _ _ _ [] rfl rfl henc1 _ _ _ [2] _ rfl rfl rfl rfl (by simp) ?_
      intro w2 henc2 hgrow2
      have hne : (some w.heap.size : Option Nat) ≠ some W1.heap.size := by rw [Hsz.out]; simp
      have hblk2 := ((hblk1.grown hgrow1 (by simp)).alloc _).grown hgrow2 hne
      clear hgrow1 hgrow2 henc1 hblk1
      go_upto_if 85 with fail
      obtain ⟨p, hp, hp4⟩ : ∃ p : Nat, pad % 5 = (p : Int) ∧ p ≤ 4 := ⟨(pad % 5).toNat, by omega, by omega⟩
      rw [hp]
      clear hp hp1 hp2
      go_cut [13] (fun s wc => s = .slice (some ⟨W1.heap.size, 0, none⟩) (hdr long ((p + (4 - o) : Nat) : Int)).length (len + 16) ∧ EncAt w wc W1.heap.size (len + 16) (hdr long ((p + (4 - o) : Nat) : Int)) ∧ Blk wc w.heap.size 5 (bs.map (Value.int .u8)).toArray)
      case first =>
        cases long
        · go_wp2_with (at_builtin; refine Hid.out ?_)
          unfold Hid
          refine encLit rfl (.tmp 94) (.tmp 100) rfl _ _ _ [2] rfl rfl henc2 _ _ _ [((p + (4 - o) : Nat) : Int)] _ rfl rfl rfl ?_ (by simp) ?_
          · simp
          intro w3 henc3 hgrow3
          have hblk3 := (hblk2.alloc _).grown hgrow3 hne
          go_wp2_with fail
          go_meet
          case rel => exact ⟨rfl, henc3, hblk3⟩
        · go_wp2_with (at_builtin; refine Hid.out ?_)
          unfold Hid
          refine encLit rfl (.tmp 86) (.tmp 92) rfl _ _ _ [2] rfl rfl henc2 _ _ _ [129, ((p + (4 - o) : Nat) : Int)] _ rfl rfl rfl ?_ (by simp) ?_
          · simp
          intro w3 henc3 hgrow3
          have hblk3 := (hblk2.alloc _).grown hgrow3 hne
          go_wp2_with fail
          go_meet
          case rel => exact ⟨rfl, henc3, hblk3⟩
      case rest =>
        clear henc2 hblk2
        obtain ⟨rfl, henc3, hblk3⟩ := hcut
        have HH : Hid ((hdr long ((p + (4 - o) : Nat) : Int)).length ≤ 3) := by show _ ≤ 3; cases long <;> simp [hdr]
        generalize hhd : hdr long ((p + (4 - o) : Nat) : Int) = H at *
        have Hhd : Hid (hdr long ((p + (4 - o) : Nat) : Int) = H) := hhd
        have hH3 : H.length ≤ 3 := HH.out
        clear hhd HH
        go_wp2_with fail
        go_loopw [13, 14] (fun s i wr => ∃ j : Nat, j ≤ p ∧ i = .int .i64 j ∧ s = .slice (some ⟨W1.heap.size, 0, none⟩) (H.length + j) (len + 16) ∧ EncAt w wr W1.heap.size (len + 16) (H ++ List.replicate j S) ∧ Blk wr w.heap.size 5 (bs.map (Value.int .u8)).toArray) (fun _ i _ => p - (intOf i).toNat)
        case atStart => exact ⟨0, by omega, rfl, rfl, by simpa using henc3, hblk3⟩
        case round =>
          obtain ⟨j, hj, rfl, rfl, hencj, hblkj⟩ := hrel
          by_cases hlt : j < p
          · go_wp2_with (at_builtin; refine Hid.out ?_)
            unfold Hid
            refine encLit rfl (.tmp 107) (.tmp 109) rfl _ _ _ _ rfl (by simp) hencj _ _ _ [S] _ rfl rfl rfl rfl (by omega) ?_
            intro w4 henc4 hgrow4
            have hblk4 := (hblkj.alloc _).grown hgrow4 hne
            go_wp2_with fail
            go_roundw
            case rel => exact ⟨j + 1, by omega, by go_num, rfl, by rw [List.replicate_succ', ← List.append_assoc]; exact henc4, hblk4⟩
            case measure => simp [intOf]; omega
          · obtain rfl : j = p := by omega
            go_wp2_with (at_builtin; refine Hid.out ?_)
            unfold Hid
            have hdl : (bs.drop o).length = 4 - o := by rw [List.length_drop, Hl.out]
            have Hdl : Hid ((bs.drop o).length = 4 - o) := hdl
            have hsrc : 0 < 4 - o → ∃ b off, (some ⟨w.heap.size, o, none⟩ : Option Addr) = some ⟨b, off, none⟩ ∧ ∀ j, j < 4 - o → wr.cell? ⟨b, off + j, none⟩ = some (.int .u8 ((bs.drop o).getD j 0)) := by
              intro _
              refine ⟨_, _, rfl, fun j hj => ?_⟩
              rw [blk_cells hblkj (by rw [Hl.out]; omega)]
              simp
            refine encSrc rfl (.tmp 111) (.tmp 112) rfl _ _ _ _ rfl (by simp) hencj _ _ _ (bs.drop o) rfl hdl (fun e => by cases e) hsrc (by omega) ?_
            intro w4 henc4 hgrow4
            clear hsrc hdl hgrow4 hencj hblkj
            go_wp2_with (at_builtin; refine Hid.out ?_)
            unfold Hid
            refine encSrc rfl (.tmp 114) (.tmp 115) rfl _ _ _ _ rfl (by simp [Hdl.out]; omega) henc4 _ _ _ ts rfl ht.tl ht.nil (ht.later henc4.bel) (by omega) ?_
            intro w5 henc5 hgrow5
            clear hgrow5 henc4
            have Htl : Hid (ts.length = len) := ht.tl
            rw [← Hhd.out, show 4 - o = (bs.drop o).length from Hdl.out.symm] at henc5
            have hhl := hdr_length long ((j + (bs.drop o).length : Nat) : Int)
            have HHl : Hid ((hdr long ((j + (bs.drop o).length : Nat) : Int)).length = H.length) := by show _ = H.length; rw [← Hhd.out, Hdl.out]
            have hLL : (hdr long ((j + (bs.drop o).length : Nat) : Int) ++ List.replicate j S ++ bs.drop o ++ ts).length = H.length + j + (4 - o) + len := by
              rw [List.length_append, List.length_append, List.length_append, HHl.out, Hdl.out, Htl.out, List.length_replicate]
            obtain ⟨c, hd⟩ := round_dec (L := H.length + j + (4 - o) + len) (fun x hx => HB.out x (List.mem_of_mem_drop hx)) (by rw [Hdl.out]; omega) (by rw [Hdl.out]; omega) HS.out Ho.out hv1 hv2 henc5 hLL.symm (by rw [hLL]; omega) (by omega)
            unfold decW at hd
            rw [Htl.out] at hd
            generalize hpre : hdr long ((j + (bs.drop o).length : Nat) : Int) ++ List.replicate j S ++ bs.drop o = pre at *
            have HD := hd
            have HD : Hid (Calls Yba.prog 5 #[.pointer (some ⟨w5.heap.size, 0, none⟩)] (w5.alloc (.cells #[.slice (some ⟨W1.heap.size, 0, none⟩) (H.length + j + (4 - o) + len) (len + 16), .bool false] 26)) fun e w' => e = .returned (.int .i32 v) ∧ Left w w5 w' W1.heap.size (len + 16) (pre ++ ts) pre.length len c false) := hd
            clear hd hhl hLL hpre
            go_wp2_with (first
              | (go_at_call 5; refine HD.out.mono ?_; rintro e w6 ⟨rfl, henc6, hblk6⟩; have cr := hblk6.cellOf (j := 0) rfl; have cf := hblk6.cellOf (j := 1) rfl; have h1 := enc_tail henc6 rfl; rw [Htl.out] at h1)
              | (go_at_call 6; refine (eq_same _ ao len _ cap ts _ Htl.out (by omega) h1 (ht.later henc6.bel)).mono ?_; rintro e w7 ⟨rfl, q, rfl⟩))
            go_ret
            exact ⟨rfl, (henc6.drewN q).bel⟩

set_option maxHeartbeats 400000 in
theorem round_long (v pad : Int) (long : Bool) (ao : Option Addr) (len cap : Nat) (w : World) (hl : 1024 < len) (hm : len ≤ maxLen) :
    Calls Yba.prog 3 #[.int .i32 v, .int .u8 pad, .bool long, .slice ao len cap] w fun e w' => e = .returned (.bool true) ∧ Below w.heap.size w w' := by
  unfold maxLen at hm
  go_enter Yba.func3, Yba.ntmps3
  go_wp2
  go_ret
  exact ⟨rfl, Below.refl _ _⟩
end Go.Proofs.Ybulksk
