namespace Go.Proofs.Qxb6616510a.Cnt

def span (a b : Int) : Int := if b < a then 0 else b - a + 1
def tens (a b : Int) : Int := if b < a then 0 else b / 10 - (a + 9) / 10 + 1
def mn (a b : Int) : Int := if a < b then a else b
def mx (a b : Int) : Int := if b < a then a else b

/-- how many of lo, .., lo + k - 1 are: below 10; valid; above the cap; not in units -/
def cB (lo k : Int) : Int := span lo (mn (lo + k - 1) 9)
def cV (lo k : Int) : Int := tens (mx lo 10) (mn (lo + k - 1) 10000)
def cA (lo k : Int) : Int := tens (mx lo 10001) (lo + k - 1)
def cU (lo k : Int) : Int := span (mx lo 10) (lo + k - 1) - tens (mx lo 10) (lo + k - 1)

theorem zero (lo : Int) : cB lo 0 = 0 ∧ cV lo 0 = 0 ∧ cA lo 0 = 0 ∧ cU lo 0 = 0 := by
  unfold cB cV cA cU span tens mn mx; omega

theorem bounds (lo k : Int) (h : 0 ≤ k) : (0 ≤ cB lo k ∧ cB lo k ≤ k) ∧ (0 ≤ cV lo k ∧ cV lo k ≤ k) ∧ (0 ≤ cA lo k ∧ cA lo k ≤ k) ∧ (0 ≤ cU lo k ∧ cU lo k ≤ k) := by
  unfold cB cV cA cU span tens mn mx; omega

theorem stepB (lo k : Int) (h : 0 ≤ k) (h1 : lo + k < 10) : cB lo (k + 1) = cB lo k + 1 ∧ cV lo (k + 1) = cV lo k ∧ cA lo (k + 1) = cA lo k ∧ cU lo (k + 1) = cU lo k := by
  unfold cB cV cA cU span tens mn mx; omega
theorem stepU (lo k : Int) (h : 0 ≤ k) (h1 : 10 ≤ lo + k) (h2 : (lo + k) % 10 ≠ 0) : cB lo (k + 1) = cB lo k ∧ cV lo (k + 1) = cV lo k ∧ cA lo (k + 1) = cA lo k ∧ cU lo (k + 1) = cU lo k + 1 := by
  unfold cB cV cA cU span tens mn mx; omega
theorem stepA (lo k : Int) (h : 0 ≤ k) (h1 : 10000 < lo + k) (h2 : (lo + k) % 10 = 0) : cB lo (k + 1) = cB lo k ∧ cV lo (k + 1) = cV lo k ∧ cA lo (k + 1) = cA lo k + 1 ∧ cU lo (k + 1) = cU lo k := by
  unfold cB cV cA cU span tens mn mx; omega
theorem stepV (lo k : Int) (h : 0 ≤ k) (h0 : 10 ≤ lo + k) (h1 : lo + k ≤ 10000) (h2 : (lo + k) % 10 = 0) : cB lo (k + 1) = cB lo k ∧ cV lo (k + 1) = cV lo k + 1 ∧ cA lo (k + 1) = cA lo k ∧ cU lo (k + 1) = cU lo k := by
  unfold cB cV cA cU span tens mn mx; omega
end Go.Proofs.Qxb6616510a.Cnt
