import Derived.Test.Qxb6618400aSeqA
/-! The series at 700 and at 715, reckoned by the kernel; what it gives for every number. -/
namespace Go.Proofs.Qxb6618400a.Fl
open Ieee

/-- Go on with a number that has been reckoned. -/
def force {α : Type} (n : Nat) (f : Nat → α) : α :=
  match n with
  | 0 => f 0
  | m + 1 => f (m + 1)
theorem force_eq {α : Type} (n : Nat) (f : Nat → α) : force n f = f n := by cases n <;> rfl

def go (x : Nat) : Nat → Nat → Nat → Nat → Nat × Nat
  | 0, _, t, s => (t, s)
  | n + 1, k, t, s => force (k + 1) fun k' => force (mulR t (fac x k')) fun t' => force (addR s t') fun s' => go x n k' t' s'

theorem go_eq (x n : Nat) : ∀ k, go x n k (T x k) (S x k) = (T x (k + n), S x (k + n)) := by
  induction n with
  | zero => intro k; rfl
  | succ n ih =>
    intro k
    show force (k + 1) _ = _
    rw [force_eq, force_eq, force_eq]
    have := ih (k + 1)
    rw [show k + (n + 1) = k + 1 + n by omega]
    exact this

theorem go_eq0 (x n : Nat) : go x n 0 one one = (T x n, S x n) := by
  have := go_eq x n 0
  rw [Nat.zero_add] at this
  exact this

def c700 : Nat := 4649368480934526976
def c715 : Nat := 4649500422329860096

set_option maxRecDepth 100000 in
theorem at715 : (go c715 1000 0 one one).1 ≤ c17 ∧ (go c715 1000 0 one one).2 = INF := by decide +kernel
/-- 1e301 -/
def c301 : Nat := 9110180938284831491
set_option maxRecDepth 100000 in
theorem at700 : c301 ≤ (go c700 1000 0 one one).2 ∧ (go c700 1000 0 one one).2 < INF := by decide +kernel

theorem T_of (x n c : Nat) (h : (go x n 0 one one).1 ≤ c) : T x n ≤ c := by rw [go_eq0] at h; exact h
theorem S_of (x n c : Nat) (h : (go x n 0 one one).2 = c) : S x n = c := by rw [go_eq0] at h; exact h
theorem S_of2 (x n c d : Nat) (h : c ≤ (go x n 0 one one).2 ∧ (go x n 0 one one).2 < d) : c ≤ S x n ∧ S x n < d := by rw [go_eq0] at h; exact h
theorem T715 : T c715 1000 ≤ c17 := T_of c715 1000 c17 at715.1
theorem S715 : S c715 1000 = INF := S_of c715 1000 INF at715.2
theorem S700 : c301 ≤ S c700 1000 ∧ S c700 1000 < INF := S_of2 c700 1000 c301 INF at700

/-- The answer of the program's series at a finite number. -/
def Bes (x : Nat) : Nat := S x 1000

theorem stop1000 {x : Nat} (hx : x < INF) : Stop x 1000 := by
  unfold Stop
  rcases Nat.le_total x c715 with h | h
  · have h1 : T x 1000 ≤ T c715 1000 := T_mono 1000 (by decide) h (by decide)
    have h2 : mulR one c17 ≤ mulR (S x 1000) c17 := mulR_mono (one_le_S 1000 (by decide) hx) (Nat.le_refl _) (S_le 1000 (by decide) hx) (by decide)
    rw [one_mulR c17 (by decide)] at h2
    exact Nat.le_trans h1 (Nat.le_trans T715 h2)
  · have h1 : S c715 1000 ≤ S x 1000 := S_mono 1000 (by decide) h hx
    rw [S715] at h1
    have h2 := S_le 1000 (by decide) hx
    rw [show S x 1000 = INF by omega, mulR_inf_left c17 (by decide) (by decide)]
    exact T_le 1000 (by decide) hx

/-- The round at which the loop ends. -/
theorem ends {x : Nat} (hx : x < INF) : ∃ n, n ≤ 1000 ∧ Stop x n ∧ ∀ j, j < n → ¬ Stop x j := by
  have key : ∀ n, Stop x n → ∃ m, m ≤ n ∧ Stop x m ∧ ∀ j, j < m → ¬ Stop x j := by
    intro n
    induction n using Nat.strongRecOn with
    | _ n ih =>
      intro hs
      by_cases h : ∃ j, j < n ∧ Stop x j
      · obtain ⟨j, hj, hsj⟩ := h
        obtain ⟨m, hm, h1, h2⟩ := ih j hj hsj
        exact ⟨m, by omega, h1, h2⟩
      · exact ⟨n, Nat.le_refl n, hs, fun j hj hsj => h ⟨j, hj, hsj⟩⟩
  exact key 1000 (stop1000 hx)

theorem bes_of_stop {x n : Nat} (hx : x < INF) (hn : n ≤ 1000) (hs : Stop x n) : S x n = Bes x := by
  have := still hx hn hs (1000 - n) (by omega)
  rw [show n + (1000 - n) = 1000 by omega] at this
  exact this.symm
theorem bes_mono {x y : Nat} (h : x ≤ y) (hy : y < INF) : Bes x ≤ Bes y := S_mono 1000 (by decide) h hy
theorem bes_le {x : Nat} (hx : x < INF) : Bes x ≤ INF := S_le 1000 (by decide) hx
theorem bes_715 {x : Nat} (h : c715 ≤ x) (hx : x < INF) : Bes x = INF := by
  have := bes_mono h hx
  have h2 := bes_le hx
  have h3 : Bes c715 = INF := S715
  omega
theorem bes_700 {x : Nat} (h : c700 ≤ x) (hx : x < INF) : c301 ≤ Bes x := Nat.le_trans S700.1 (bes_mono h hx)
theorem bes_fin {x : Nat} (h : x ≤ c700) : Bes x < INF := Nat.lt_of_le_of_lt (bes_mono h (by decide)) S700.2
end Go.Proofs.Qxb6618400a.Fl
