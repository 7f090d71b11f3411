import Derived.Test.YbulkcdcoTar
namespace Go.Proofs.Ybulkcdco

/-- A sum over the numbers below N. -/
def sumTo (f : Nat → Nat) : Nat → Nat
  | 0 => 0
  | n + 1 => sumTo f n + f n
theorem sumTo_congr {f g : Nat → Nat} : ∀ n, (∀ x, x < n → f x = g x) → sumTo f n = sumTo g n
  | 0, _ => rfl
  | n + 1, h => by simp only [sumTo]; rw [sumTo_congr n (fun x hx => h x (by omega)), h n (by omega)]
theorem sumTo_one {f g : Nat → Nat} {w c : Nat} : ∀ n, w < n → (∀ x, x ≠ w → g x = f x) → g w + c = f w → sumTo g n + c = sumTo f n
  | 0, h, _, _ => by omega
  | n + 1, h, he, hc => by
    simp only [sumTo]
    by_cases e : w = n
    · subst e
      rw [sumTo_congr (f := g) (g := f) w (fun x hx => he x (by omega))]; omega
    · have := sumTo_one n (by omega) he hc
      rw [he n (fun h => e h.symm)]; omega

/-- What the visit has still to do. -/
def mu (adj : Nat → List Nat) (N : Nat) (ix ne : Nat → Nat) (pn : List Nat) : Nat :=
  sumTo (fun v => if ix v = 0 then (adj v).length + 2 else 0) N + (pn.map fun v => (adj v).length - ne v + 1).sum

section
variable {adj : Nat → List Nat} {N : Nat} {ix ne : Nat → Nat} {pn : List Nat}
theorem map_upd_off {v z : Nat} (hv : v ∉ pn) : (pn.map fun x => (adj x).length - upd ne v z x + 1) = pn.map fun x => (adj x).length - ne x + 1 := by
  apply List.map_congr_left
  intro x hx
  rw [upd_ne ne z (fun e : x = v => hv (e ▸ hx))]
theorem mu_enter {w z : Nat} (hw : w < N) (h0 : ix w = 0) (hz : z ≠ 0) (hp : w ∉ pn) : mu adj N (upd ix w z) (upd ne w 0) (pn ++ [w]) + 1 = mu adj N ix ne pn := by
  unfold mu
  have h1 := sumTo_one (f := fun v => if ix v = 0 then (adj v).length + 2 else 0) (g := fun v => if upd ix w z v = 0 then (adj v).length + 2 else 0) (w := w) (c := (adj w).length + 2) N hw (fun x hx => by simp only [upd_ne ix z hx]) (by simp only [upd_same, h0]; simp [hz])
  rw [List.map_append, List.sum_append, map_upd_off hp]
  simp only [List.map_cons, List.map_nil, List.sum_cons, List.sum_nil, upd_same]
  omega
theorem mu_next {p0 : List Nat} {v : Nat} (hv : v ∉ p0) (hn : ne v < (adj v).length) : mu adj N ix (upd ne v (ne v + 1)) (p0 ++ [v]) + 1 = mu adj N ix ne (p0 ++ [v]) := by
  unfold mu
  rw [List.map_append, List.sum_append, List.map_append, List.sum_append, map_upd_off hv]
  simp only [List.map_cons, List.map_nil, List.sum_cons, List.sum_nil, upd_same]
  omega
theorem mu_pop {p0 : List Nat} {v : Nat} : mu adj N ix ne p0 + 1 ≤ mu adj N ix ne (p0 ++ [v]) := by
  unfold mu
  rw [List.map_append, List.sum_append]
  simp only [List.map_cons, List.map_nil, List.sum_cons, List.sum_nil]
  omega
end
end Go.Proofs.Ybulkcdco
