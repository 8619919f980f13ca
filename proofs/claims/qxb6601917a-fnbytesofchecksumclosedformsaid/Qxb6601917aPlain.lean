/-
  Plain mathematics: sums of bytes. No Go in sight.
-/
namespace Go.Proofs.Qxb6601917a.Plain
/-- The sum of the first k numbers. -/
def S (f : Nat → Int) : Nat → Int
  | 0 => 0
  | k + 1 => S f k + f k
theorem S_bd (f : Nat → Int) (n : Nat) (h : ∀ i, i < n → 0 ≤ f i ∧ f i ≤ 255) : ∀ k, k ≤ n → 0 ≤ S f k ∧ S f k ≤ 255 * (k : Int)
  | 0, _ => by simp [S]
  | k + 1, hk => by
    have ih := S_bd f n h k (by omega)
    have := h k (by omega)
    rw [S]
    omega
theorem S_const (b : Int) : ∀ n : Nat, S (fun _ => b) n = (n : Int) * b
  | 0 => by simp [S]
  | n + 1 => by
    have ih := S_const b n
    have e : ((n + 1 : Nat) : Int) * b = (n : Int) * b + b := by rw [Int.natCast_add, Int.add_mul]; simp
    rw [S, ih, e]
theorem S_next_mod (f : Nat → Int) (k : Nat) : S f (k + 1) % 256 = (S f k % 256 + f k) % 256 := by rw [S]; omega
/-- What 'checksum' answers. -/
def chk (f : Nat → Int) (n : Nat) : Int := (-(S f n)) % 256
theorem chk_bd (f : Nat → Int) (n : Nat) : 0 ≤ chk f n ∧ chk f n ≤ 255 := by unfold chk; omega
theorem chk_sum (f : Nat → Int) (n : Nat) : (S f n + chk f n) % 256 = 0 := by unfold chk; omega
theorem neg_mod (x : Int) : (-(x % 256)) % 256 = (-x) % 256 := by omega
theorem closed (x : Int) : (-x) % 256 = (256 - x % 256) % 256 := by omega
end Go.Proofs.Qxb6601917a.Plain
