/-
  THE PLAIN FUNCTIONS OF SEAT b6612367a: the binary search, the block, the answer. No Go in sight.
-/
import Derived.Below
namespace Go.Proofs.Qxb6612367a

/-- Go's binary search over [i, j): 'p h': does the element at h lie ahead of the target? -/
def bs (p : Nat → Bool) : Nat → Nat → Nat → Nat
  | 0, i, _ => i
  | f + 1, i, j => if i < j then (if p ((i + j) / 2) = true then bs p f ((i + j) / 2 + 1) j else bs p f i ((i + j) / 2)) else i

theorem bs_done (p : Nat → Bool) (f i : Nat) : bs p f i i = i := by
  cases f <;> simp [bs]

theorem bs_le (p : Nat → Bool) : ∀ (f i j : Nat), i ≤ j → bs p f i j ≤ j
  | 0, i, j, h => by simpa [bs] using h
  | f + 1, i, j, h => by
    unfold bs
    split
    · split
      · exact bs_le p f _ _ (by omega)
      · exact Nat.le_trans (bs_le p f _ _ (by omega)) (by omega)
    · exact h

theorem bs_fuel (p : Nat → Bool) : ∀ (f g i j : Nat), j - i ≤ f → j - i ≤ g → bs p f i j = bs p g i j
  | 0, g, i, j, hf, _ => by
    cases g with
    | zero => rfl
    | succ g => unfold bs; rw [if_neg (by omega)]
  | f + 1, 0, i, j, _, hg => by unfold bs; rw [if_neg (by omega)]
  | f + 1, g + 1, i, j, hf, hg => by
    unfold bs
    split
    · split
      · exact bs_fuel p f g _ _ (by omega) (by omega)
      · exact bs_fuel p f g _ _ (by omega) (by omega)
    · rfl

theorem bs_up (p : Nat → Bool) (n i j : Nat) (hlt : i < j) (hn : j - i ≤ n) (hp : p ((i + j) / 2) = true) : bs p n i j = bs p n ((i + j) / 2 + 1) j := by
  cases n with
  | zero => omega
  | succ n =>
    rw [bs_fuel p (n + 1) n ((i + j) / 2 + 1) j (by omega) (by omega)]
    conv => lhs; unfold bs
    rw [if_pos hlt, if_pos hp]

theorem bs_down (p : Nat → Bool) (n i j : Nat) (hlt : i < j) (hn : j - i ≤ n) (hp : p ((i + j) / 2) = false) : bs p n i j = bs p n i ((i + j) / 2) := by
  cases n with
  | zero => omega
  | succ n =>
    rw [bs_fuel p (n + 1) n i ((i + j) / 2) (by omega) (by omega)]
    conv => lhs; unfold bs
    rw [if_pos hlt, if_neg (by simp [hp])]

/-- Where a search for t ends in the keys ks. -/
def place (ks : List Int) (t : Int) : Nat := bs (fun h => decide (ks.getD h 0 < t)) ks.length 0 ks.length
/-- Does the key at that place equal t? -/
def hit (ks : List Int) (t : Int) : Bool := decide (place ks t < ks.length) && decide (ks.getD (place ks t) 0 = t)

theorem place_le (ks : List Int) (t : Int) : place ks t ≤ ks.length := bs_le _ _ _ _ (Nat.zero_le _)
theorem hit_lt {ks : List Int} {t : Int} (h : hit ks t = true) : place ks t < ks.length := by
  simp [hit] at h
  exact h.1

/-- How many blocks begin at or ahead of t. -/
def after (ids : List Int) (t : Int) : Nat := if hit ids t = true then place ids t + 1 else place ids t
theorem after_le (ids : List Int) (t : Int) : after ids t ≤ ids.length := by
  unfold after
  split
  · rename_i h; have := hit_lt h; omega
  · exact place_le ids t

/-- The block that can hold t. -/
def blockOf (es ids : List Int) (t : Int) : List Int := if after ids t = 0 then [] else (es.drop ((after ids t - 1) * 128)).take 128

/-- The identities of a list of words. -/
def keysOf (zs : List Int) : List Int := zs.map (fun x => x / 256)
end Go.Proofs.Qxb6612367a
