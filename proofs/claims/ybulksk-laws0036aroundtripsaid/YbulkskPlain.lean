/-
  PLAIN: two's complement in octets. No Go in sight.
-/
namespace Go.Proofs.Ybulksk.SP

/-- an octet as int8 -/
def sgn (b : Int) : Int := if b < 128 then b else b - 256
def pf (n : Int) (l : List Int) : Int := l.foldl (fun n c => n * 256 + c) n
/-- the integer that the octets hold -/
def pv : List Int → Int
  | [] => 0
  | b :: l => pf (sgn b) l

def Bytes (l : List Int) : Prop := ∀ b ∈ l, 0 ≤ b ∧ b ≤ 255

theorem pf_snoc (n : Int) (l : List Int) (c : Int) : pf n (l ++ [c]) = pf n l * 256 + c := by simp [pf]

theorem pf_bound (l : List Int) : ∀ (n M : Int), Bytes l → 0 ≤ M → -M ≤ n → n < M → -(M * 256 ^ l.length) ≤ pf n l ∧ pf n l < M * 256 ^ l.length := by
  induction l with
  | nil => intro n M _ _ h1 h2; simp [pf]; omega
  | cons c l ih =>
    intro n M hb hM h1 h2
    have hc := hb c (by simp)
    have := ih (n * 256 + c) (M * 256) (fun b h => hb b (by simp [h])) (by omega) (by omega) (by omega)
    have e : M * 256 ^ (c :: l).length = M * 256 * 256 ^ l.length := by
      rw [List.length_cons, Int.pow_succ, Int.mul_assoc, Int.mul_comm 256]
    rw [e]
    exact this

theorem sgn_bound {b : Int} (h1 : 0 ≤ b) (h2 : b ≤ 255) : -128 ≤ sgn b ∧ sgn b < 128 := by unfold sgn; split <;> omega

theorem pow_le (k : Nat) (h : k ≤ 6) : (128 : Int) * 256 ^ k ≤ 36028797018963968 := by
  match k, h with
  | 0, _ => decide
  | 1, _ => decide
  | 2, _ => decide
  | 3, _ => decide
  | 4, _ => decide
  | 5, _ => decide
  | 6, _ => decide

theorem pf_small {b : Int} {l : List Int} (hb1 : 0 ≤ b) (hb2 : b ≤ 255) (hl : Bytes l) (h6 : l.length ≤ 6) : -36028797018963968 ≤ pf (sgn b) l ∧ pf (sgn b) l < 36028797018963968 := by
  have h := pf_bound l (sgn b) 128 hl (by omega) (sgn_bound hb1 hb2).1 (sgn_bound hb1 hb2).2
  have := pow_le l.length h6
  omega

/-- the sign stands in the first octet -/
theorem pf_sign (l : List Int) : ∀ n : Int, Bytes l → (pf n l < 0 ↔ n < 0) := by
  induction l with
  | nil => intro n _; exact Iff.rfl
  | cons c l ih =>
    intro n hb
    have hc := hb c (by simp)
    have := ih (n * 256 + c) (fun b h => hb b (by simp [h]))
    show pf (n * 256 + c) l < 0 ↔ n < 0
    rw [this]
    omega

theorem pv_sign {b : Int} {l : List Int} (hl : Bytes l) : pv (b :: l) < 0 ↔ ¬ b < 128 ∧ b < 256 ∨ b < 0 := by
  show pf (sgn b) l < 0 ↔ _
  rw [pf_sign l _ hl]
  unfold sgn
  split <;> omega

/-- one redundant sign octet more or less -/
theorem pv_cons {s b : Int} {l : List Int} (h : (s = 0 ∧ b < 128) ∨ (s = 255 ∧ ¬ b < 128)) : pv (s :: b :: l) = pv (b :: l) := by
  show pf (sgn s * 256 + b) l = pf (sgn b) l
  have : sgn s * 256 + b = sgn b := by
    rcases h with ⟨rfl, h⟩ | ⟨rfl, h⟩
    · simp [sgn, h]
    · simp [sgn, h]; omega
  rw [this]

theorem pv_pad {s b : Int} {l : List Int} (hl : Bytes (b :: l)) (hs : s = if pv (b :: l) < 0 then 255 else 0) (k : Nat) : pv (List.replicate k s ++ b :: l) = pv (b :: l) := by
  have hb := hl b (by simp)
  have hsg := pv_sign (b := b) (l := l) (fun x hx => hl x (by simp [hx]))
  have hsb : (s = 0 ∧ b < 128) ∨ (s = 255 ∧ ¬ b < 128) := by
    by_cases hn : pv (b :: l) < 0
    · rw [if_pos hn] at hs
      have := hsg.1 hn
      omega
    · rw [if_neg hn] at hs
      have : ¬ (¬ b < 128 ∧ b < 256 ∨ b < 0) := fun h => hn (hsg.2 h)
      omega
  induction k with
  | zero => simp
  | succ k ih =>
    rw [List.replicate_succ, List.cons_append]
    cases k with
    | zero => simpa using pv_cons hsb
    | succ k =>
      rw [List.replicate_succ, List.cons_append] at ih ⊢
      rw [← ih]
      refine pv_cons ?_
      rcases hsb with ⟨rfl, _⟩ | ⟨rfl, _⟩ <;> omega

/-- the four octets of an int32 -/
def oct4 (v : Int) : List Int := [v % 4294967296 / 16777216 % 256, v % 4294967296 / 65536 % 256, v % 4294967296 / 256 % 256, v % 4294967296 % 256]
theorem oct4_bytes (v : Int) : Bytes (oct4 v) := by
  intro b hb
  simp only [oct4, List.mem_cons, List.mem_nil_iff, or_false] at hb
  omega
theorem pv_oct4 (v : Int) (h1 : -2147483648 ≤ v) (h2 : v ≤ 2147483647) : pv (oct4 v) = v := by
  show ((sgn (v % 4294967296 / 16777216 % 256) * 256 + v % 4294967296 / 65536 % 256) * 256 + v % 4294967296 / 256 % 256) * 256 + v % 4294967296 % 256 = v
  unfold sgn
  split <;> omega

/-- the eight octets of an int64 -/
def oct8 (v : Int) : List Int := [v % 18446744073709551616 / 72057594037927936 % 256, v % 18446744073709551616 / 281474976710656 % 256, v % 18446744073709551616 / 1099511627776 % 256, v % 18446744073709551616 / 4294967296 % 256,
  v % 18446744073709551616 / 16777216 % 256, v % 18446744073709551616 / 65536 % 256, v % 18446744073709551616 / 256 % 256, v % 18446744073709551616 % 256]
theorem oct8_bytes (v : Int) : Bytes (oct8 v) := by
  intro b hb
  simp only [oct8, List.mem_cons, List.mem_nil_iff, or_false] at hb
  omega
theorem pv_oct8 (v : Int) (h1 : -9223372036854775808 ≤ v) (h2 : v ≤ 9223372036854775807) : pv (oct8 v) = v := by
  show ((((((sgn (v % 18446744073709551616 / 72057594037927936 % 256) * 256 + v % 18446744073709551616 / 281474976710656 % 256) * 256 + v % 18446744073709551616 / 1099511627776 % 256) * 256 + v % 18446744073709551616 / 4294967296 % 256) * 256 +
    v % 18446744073709551616 / 16777216 % 256) * 256 + v % 18446744073709551616 / 65536 % 256) * 256 + v % 18446744073709551616 / 256 % 256) * 256 + v % 18446744073709551616 % 256 = v
  unfold sgn
  split <;> omega

end Go.Proofs.Ybulksk.SP
