/-
  'd := decoder{rest: enc}; got := d.integer()': what comes back, and where the decoder is left.
-/
import Derived.Test.YbulkskWalks
import Derived.Test.YbulkskEnc
namespace Go.Proofs.Ybulksk
open Go.RowKit
set_option linter.unusedVariables false

theorem Blk.drewN {w : World} {g : Nat} {e : TypeId} {cur : Array Value} (h : Blk w g e cur) (q : Nat) : Blk (w.drewN q) g e cur := by
  induction q with
  | zero => exact h
  | succ q ih => exact ih

theorem EncAt.setCell {w0 w : World} {g cap : Nat} {bs : List Int} (h : EncAt w0 w g cap bs) {a : Addr} (ha : w0.heap.size ≤ a.block) (hne : a.block ≠ g) (u : Value) : EncAt w0 (w.setCell a u) g cap bs :=
  ⟨own_setOther h.own (by simp only [Value.ownBlock]; simpa using hne) u, h.bel.setCell ha u⟩

/-- the world in which the decoder has been made -/
def decW (w : World) (g L cap : Nat) (f : Bool) : World := w.alloc (.cells #[.slice (some ⟨g, 0, none⟩) L cap, .bool f] 26)

section
variable {w0 w : World} {g cap L n : Nat} {bs ts : List Int}

/-- what is left behind: the decoder's two fields -/
def Left (w0 w w' : World) (g cap : Nat) (bs : List Int) (o len c : Nat) (f : Bool) : Prop :=
  EncAt w0 w' g cap bs ∧ Blk w' w.heap.size 26 #[.slice (some ⟨g, o, none⟩) len c, .bool f]

theorem dec_blk (w : World) (g L cap : Nat) (f : Bool) : Blk (decW w g L cap f) w.heap.size 26 #[.slice (some ⟨g, 0, none⟩) L cap, .bool f] := Blk.new _ _ _

theorem left_mk (h : EncAt w0 w g cap bs) (f : Bool) (v : Value) (q : Nat) : EncAt w0 (((decW w g L cap f).setCell ⟨w.heap.size, 0, none⟩ v).drewN q) g cap bs :=
  ((h.alloc _).setCell (a := ⟨w.heap.size, 0, none⟩) h.bel.size (fun e => by have := h.le.2; simp at e; omega) v).drewN q

theorem left_mk2 (h : EncAt w0 w g cap bs) (f : Bool) (v u : Value) (q : Nat) : EncAt w0 ((((decW w g L cap f).setCell ⟨w.heap.size, 0, none⟩ v).setCell ⟨w.heap.size, 1, none⟩ u).drewN q) g cap bs :=
  (((h.alloc _).setCell (a := ⟨w.heap.size, 0, none⟩) h.bel.size (fun e => by have := h.le.2; simp at e; omega) v).setCell (a := ⟨w.heap.size, 1, none⟩) h.bel.size (fun e => by have := h.le.2; simp at e; omega) u).drewN q

theorem getD_cons_app (b : Int) (cs ts : List Int) (pre : List Int) (j : Nat) (hj : j < cs.length) : (pre ++ (b :: cs) ++ ts).getD (pre.length + 1 + j) 0 = cs.getD j 0 := by
  simp only [List.getD_eq_getElem?_getD, List.append_assoc]
  rw [List.getElem?_append_right (by omega), show pre.length + 1 + j - pre.length = j + 1 by omega]
  simp [List.getElem?_append_left hj]

/-- the content's octets, as parseInt wants them -/
theorem parse_at (h : EncAt w0 w g cap bs) {pre cs : List Int} {b : Int} {q : Nat} {v : Value} (hbs : bs = pre ++ (b :: cs) ++ ts) (hB : SP.Bytes (b :: cs)) (h8 : cs.length + 1 ≤ 8) (hcap : bs.length < cap) (hcm : cap ≤ 100000) {c : Nat} (hc : c = cap - pre.length) (f : Bool) :
    Calls Yba.prog 7 #[.slice (some ⟨g, pre.length, none⟩) (cs.length + 1) c] (((decW w g L cap f).setCell ⟨w.heap.size, 0, none⟩ v).drewN q) fun e w' => e = .returned (.tuple #[.int .i64 (SP.pv (b :: cs)), .bool true]) ∧ w' = ((decW w g L cap f).setCell ⟨w.heap.size, 0, none⟩ v).drewN q := by
  have hl := left_mk (L := L) h f v q
  have hlen : bs.length = pre.length + (cs.length + 1) + ts.length := by rw [hbs]; simp; omega
  refine parseInt_ok g pre.length (cs.length + 1) c b cs _ rfl h8 (by omega) (by omega) hB ?_ ?_
  · rw [hl.cell (by omega), hbs]
    simp [List.getD_eq_getElem?_getD]
  · intro j hj
    rw [hl.cell (by omega), hbs, getD_cons_app b cs ts pre j hj]

/-- an INTEGER of short length, in the range of int32 -/
theorem dec_short (h : EncAt w0 w g cap bs) {cs : List Int} {b : Int} (hbs : bs = 2 :: ((cs.length + 1 : Nat) : Int) :: b :: cs ++ ts) (hB : SP.Bytes (b :: cs)) (h8 : cs.length + 1 ≤ 8) (hL : L = bs.length) (hcap : bs.length < cap) (hcm : cap ≤ 100000)
    (h1 : -2147483648 ≤ SP.pv (b :: cs)) (h2 : SP.pv (b :: cs) ≤ 2147483647) :
    Calls Yba.prog 5 #[.pointer (some ⟨w.heap.size, 0, none⟩)] (decW w g L cap false) fun e w' => e = .returned (.int .i32 (SP.pv (b :: cs))) ∧ Left w0 w w' g cap bs (2 + (cs.length + 1)) ts.length (cap - 2 - (cs.length + 1)) false := by
  subst hL
  have hlen : bs.length = 2 + (cs.length + 1) + ts.length := by rw [hbs]; simp; omega
  have ha := h.alloc (.cells #[.slice (some ⟨g, 0, none⟩) bs.length cap, .bool false] 26)
  have k0 : (decW w g bs.length cap false).cell? ⟨g, 0, none⟩ = some (.int .u8 2) := (ha.cell (j := 0) (by omega)).trans (by rw [hbs]; rfl)
  have k1 : (decW w g bs.length cap false).cell? ⟨g, 0 + 1, none⟩ = some (.int .u8 ((cs.length + 1 : Nat) : Int)) := (ha.cell (j := 1) (by omega)).trans (by rw [hbs]; rfl)
  have hr := read_ok (by omega) (by omega) (readAny_short w.heap.size g 0 bs.length cap (cs.length + 1) 2 _ (dec_blk _ _ _ _ _) (by omega) hcap hcm (by omega) (by omega) (by omega) (by omega) k0 k1)
  refine (integer_ok h1 h2 hr (fun q => parse_at (pre := [2, ((cs.length + 1 : Nat) : Int)]) h hbs hB h8 hcap hcm rfl false)).mono ?_
  rintro e w' ⟨rfl, q, rfl⟩
  refine ⟨rfl, left_mk h _ _ q, ?_⟩
  have hb := ((dec_blk w g bs.length cap false).set 0 (.slice (some ⟨g, 0 + 2 + (cs.length + 1), none⟩) (bs.length - 2 - (cs.length + 1)) (cap - 2 - (cs.length + 1)))).drewN q
  rw [show bs.length - 2 - (cs.length + 1) = ts.length by omega, show 0 + 2 + (cs.length + 1) = 2 + (cs.length + 1) by omega] at hb
  rw [show bs.length - 2 - (cs.length + 1) = ts.length by omega, show 0 + 2 + (cs.length + 1) = 2 + (cs.length + 1) by omega]
  exact hb

/-- .. of long length, one octet -/
theorem dec_long (h : EncAt w0 w g cap bs) {cs : List Int} {b : Int} (hbs : bs = 2 :: 129 :: ((cs.length + 1 : Nat) : Int) :: b :: cs ++ ts) (hB : SP.Bytes (b :: cs)) (h8 : cs.length + 1 ≤ 8) (hL : L = bs.length) (hcap : bs.length < cap) (hcm : cap ≤ 100000)
    (h1 : -2147483648 ≤ SP.pv (b :: cs)) (h2 : SP.pv (b :: cs) ≤ 2147483647) :
    Calls Yba.prog 5 #[.pointer (some ⟨w.heap.size, 0, none⟩)] (decW w g L cap false) fun e w' => e = .returned (.int .i32 (SP.pv (b :: cs))) ∧ Left w0 w w' g cap bs (3 + (cs.length + 1)) ts.length (cap - 2 - 1 - (cs.length + 1)) false := by
  subst hL
  have hlen : bs.length = 3 + (cs.length + 1) + ts.length := by rw [hbs]; simp; omega
  have ha := h.alloc (.cells #[.slice (some ⟨g, 0, none⟩) bs.length cap, .bool false] 26)
  have k0 : (decW w g bs.length cap false).cell? ⟨g, 0, none⟩ = some (.int .u8 2) := (ha.cell (j := 0) (by omega)).trans (by rw [hbs]; rfl)
  have k1 : (decW w g bs.length cap false).cell? ⟨g, 0 + 1, none⟩ = some (.int .u8 129) := (ha.cell (j := 1) (by omega)).trans (by rw [hbs]; rfl)
  have k2 : (decW w g bs.length cap false).cell? ⟨g, 0 + 2, none⟩ = some (.int .u8 ((cs.length + 1 : Nat) : Int)) := (ha.cell (j := 2) (by omega)).trans (by rw [hbs]; rfl)
  have hr := read_ok (by omega) (by omega) (readAny_long w.heap.size g 0 bs.length cap (cs.length + 1) 2 _ (dec_blk _ _ _ _ _) (by omega) hcap hcm (by omega) (by omega) (by omega) (by omega) k0 k1 k2)
  refine (integer_ok h1 h2 hr (fun q => parse_at (pre := [2, 129, ((cs.length + 1 : Nat) : Int)]) h hbs hB h8 hcap hcm (show cap - 2 - 1 = cap - 3 by omega) false)).mono ?_
  rintro e w' ⟨rfl, q, rfl⟩
  refine ⟨rfl, left_mk h _ _ q, ?_⟩
  have hb := ((dec_blk w g bs.length cap false).set 0 (.slice (some ⟨g, 0 + 2 + 1 + (cs.length + 1), none⟩) (bs.length - 2 - 1 - (cs.length + 1)) (cap - 2 - 1 - (cs.length + 1)))).drewN q
  rw [show bs.length - 2 - 1 - (cs.length + 1) = ts.length by omega, show 0 + 2 + 1 + (cs.length + 1) = 3 + (cs.length + 1) by omega] at hb
  rw [show bs.length - 2 - 1 - (cs.length + 1) = ts.length by omega, show 0 + 2 + 1 + (cs.length + 1) = 3 + (cs.length + 1) by omega]
  exact hb

/-- .. beyond int32 -/
theorem dec_far (h : EncAt w0 w g cap bs) {cs : List Int} {b : Int} (hbs : bs = 2 :: ((cs.length + 1 : Nat) : Int) :: b :: cs ++ ts) (hB : SP.Bytes (b :: cs)) (h8 : cs.length + 1 ≤ 8) (hL : L = bs.length) (hcap : bs.length < cap) (hcm : cap ≤ 100000)
    (hN : SP.pv (b :: cs) < -2147483648 ∨ 2147483647 < SP.pv (b :: cs)) :
    Calls Yba.prog 5 #[.pointer (some ⟨w.heap.size, 0, none⟩)] (decW w g L cap false) fun e w' => e = .returned (.int .i32 0) ∧ Left w0 w w' g cap bs (2 + (cs.length + 1)) ts.length (cap - 2 - (cs.length + 1)) true := by
  subst hL
  have hlen : bs.length = 2 + (cs.length + 1) + ts.length := by rw [hbs]; simp; omega
  have ha := h.alloc (.cells #[.slice (some ⟨g, 0, none⟩) bs.length cap, .bool false] 26)
  have k0 : (decW w g bs.length cap false).cell? ⟨g, 0, none⟩ = some (.int .u8 2) := (ha.cell (j := 0) (by omega)).trans (by rw [hbs]; rfl)
  have k1 : (decW w g bs.length cap false).cell? ⟨g, 0 + 1, none⟩ = some (.int .u8 ((cs.length + 1 : Nat) : Int)) := (ha.cell (j := 1) (by omega)).trans (by rw [hbs]; rfl)
  have hr := read_ok (by omega) (by omega) (readAny_short w.heap.size g 0 bs.length cap (cs.length + 1) 2 _ (dec_blk _ _ _ _ _) (by omega) hcap hcm (by omega) (by omega) (by omega) (by omega) k0 k1)
  have hb := (dec_blk w g bs.length cap false).set 0 (.slice (some ⟨g, 0 + 2 + (cs.length + 1), none⟩) (bs.length - 2 - (cs.length + 1)) (cap - 2 - (cs.length + 1)))
  refine (integer_far hN hb hr (fun q => parse_at (pre := [2, ((cs.length + 1 : Nat) : Int)]) h hbs hB h8 hcap hcm rfl false)).mono ?_
  rintro e w' ⟨rfl, q, rfl⟩
  refine ⟨rfl, left_mk2 h _ _ _ q, ?_⟩
  have hb2 := (hb.set 1 (.bool true)).drewN q
  rw [show bs.length - 2 - (cs.length + 1) = ts.length by omega, show 0 + 2 + (cs.length + 1) = 2 + (cs.length + 1) by omega] at hb2
  rw [show bs.length - 2 - (cs.length + 1) = ts.length by omega, show 0 + 2 + (cs.length + 1) = 2 + (cs.length + 1) by omega]
  exact hb2

/-- an empty INTEGER -/
theorem dec_empty (h : EncAt w0 w g cap bs) (hbs : bs = 2 :: 0 :: ts) (hL : L = bs.length) (hcap : bs.length < cap) (hcm : cap ≤ 100000) :
    Calls Yba.prog 5 #[.pointer (some ⟨w.heap.size, 0, none⟩)] (decW w g L cap false) fun e w' => e = .returned (.int .i32 0) ∧ Left w0 w w' g cap bs 2 ts.length (cap - 2) true := by
  subst hL
  have hlen : bs.length = 2 + ts.length := by rw [hbs]; simp; omega
  have ha := h.alloc (.cells #[.slice (some ⟨g, 0, none⟩) bs.length cap, .bool false] 26)
  have k0 : (decW w g bs.length cap false).cell? ⟨g, 0, none⟩ = some (.int .u8 2) := (ha.cell (j := 0) (by omega)).trans (by rw [hbs]; rfl)
  have k1 : (decW w g bs.length cap false).cell? ⟨g, 0 + 1, none⟩ = some (.int .u8 ((0 : Nat) : Int)) := (ha.cell (j := 1) (by omega)).trans (by rw [hbs]; rfl)
  have hr := read_ok (by omega) (by omega) (readAny_short w.heap.size g 0 bs.length cap 0 2 _ (dec_blk _ _ _ _ _) (by omega) hcap hcm (by omega) (by omega) (by omega) (by omega) k0 k1)
  have hb := (dec_blk w g bs.length cap false).set 0 (.slice (some ⟨g, 0 + 2 + 0, none⟩) (bs.length - 2 - 0) (cap - 2 - 0))
  refine (integer_none hb hr).mono ?_
  rintro e w' ⟨rfl, q, rfl⟩
  refine ⟨rfl, left_mk2 h _ _ _ q, ?_⟩
  have hb2 := (hb.set 1 (.bool true)).drewN q
  rw [show bs.length - 2 - 0 = ts.length by omega] at hb2
  rw [show bs.length - 2 - 0 = ts.length by omega]
  exact hb2

/-- another tag, one octet -/
theorem dec_other (h : EncAt w0 w g cap bs) {x : Int} (hbs : bs = 4 :: 1 :: x :: ts) (hL : L = bs.length) (hcap : bs.length < cap) (hcm : cap ≤ 100000) :
    Calls Yba.prog 5 #[.pointer (some ⟨w.heap.size, 0, none⟩)] (decW w g L cap false) fun e w' => e = .returned (.int .i32 0) ∧ Left w0 w w' g cap bs 3 ts.length (cap - 3) true := by
  subst hL
  have hlen : bs.length = 3 + ts.length := by rw [hbs]; simp; omega
  have ha := h.alloc (.cells #[.slice (some ⟨g, 0, none⟩) bs.length cap, .bool false] 26)
  have k0 : (decW w g bs.length cap false).cell? ⟨g, 0, none⟩ = some (.int .u8 4) := (ha.cell (j := 0) (by omega)).trans (by rw [hbs]; rfl)
  have k1 : (decW w g bs.length cap false).cell? ⟨g, 0 + 1, none⟩ = some (.int .u8 ((1 : Nat) : Int)) := (ha.cell (j := 1) (by omega)).trans (by rw [hbs]; rfl)
  have hr := read_other (tag := 2) (by omega) (dec_blk w g bs.length cap false) (readAny_short w.heap.size g 0 bs.length cap 1 4 _ (dec_blk _ _ _ _ _) (by omega) hcap hcm (by omega) (by omega) (by omega) (by omega) k0 k1)
  have hb := ((dec_blk w g bs.length cap false).set 0 (.slice (some ⟨g, 0 + 2 + 1, none⟩) (bs.length - 2 - 1) (cap - 2 - 1))).set 1 (.bool true)
  refine (integer_none hb hr).mono ?_
  rintro e w' ⟨rfl, q, rfl⟩
  have hb2 := (hb.set 1 (.bool true)).drewN q
  have hne : w.heap.size ≠ g := fun e => by have := h.le.2; omega
  refine ⟨rfl, ((((h.alloc _).setCell (a := ⟨w.heap.size, 0, none⟩) h.bel.size hne _).setCell (a := ⟨w.heap.size, 1, none⟩) h.bel.size hne _).setCell (a := ⟨w.heap.size, 1, none⟩) h.bel.size hne _).drewN q, ?_⟩
  rw [show bs.length - 2 - 1 = ts.length by omega] at hb2
  rw [show bs.length - 2 - 1 = ts.length by omega]
  exact hb2

/-- a decoder that has failed -/
theorem dec_failed (h : EncAt w0 w g cap bs) :
    Calls Yba.prog 5 #[.pointer (some ⟨w.heap.size, 0, none⟩)] (decW w g L cap true) fun e w' => e = .returned (.int .i32 0) ∧ Left w0 w w' g cap bs 0 L cap true := by
  have hr := read_failed (dec_blk w g L cap true)
  have hb := ((dec_blk w g L cap true).set 1 (.bool true)).set 1 (.bool true)
  refine (integer_none (c := 0) hb (hr.mono (fun e w' ⟨h1, h2⟩ => ⟨h1, 0, h2⟩))).mono ?_
  rintro e w' ⟨rfl, q, rfl⟩
  have hb2 := (hb.set 1 (.bool true)).drewN q
  have hne : w.heap.size ≠ g := fun e => by have := h.le.2; omega
  exact ⟨rfl, ((((h.alloc _).setCell (a := ⟨w.heap.size, 1, none⟩) h.bel.size hne _).setCell (a := ⟨w.heap.size, 1, none⟩) h.bel.size hne _).setCell (a := ⟨w.heap.size, 1, none⟩) h.bel.size hne _).drewN q, hb2⟩
end

end Go.Proofs.Ybulksk
