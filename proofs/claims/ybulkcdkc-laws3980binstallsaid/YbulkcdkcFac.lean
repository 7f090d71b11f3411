import Derived.Test.YbulkcdkcLa5
namespace Go.Proofs.Ybulkcdkc
open Go.RowKit

/-- A list of the law's names. -/
def Nm (n : Nat) (l : List ByteArray) : Prop := l.length ≤ n ∧ ∀ x ∈ l, x.size = 1
theorem Nm.mono {n m : Nat} {l : List ByteArray} (h : Nm n l) (hn : n ≤ m) : Nm m l := ⟨Nat.le_trans h.1 hn, h.2⟩
theorem Nm.nl (mask : Nat) : Nm 6 (nl mask 6) := ⟨nl_len mask 6, fun x hx => by
  unfold Ybulkcdkc.nl at hx
  obtain ⟨i, _, rfl⟩ := List.mem_map.1 hx
  exact nmB_size i⟩
theorem Nm.after {n k : Nat} {fr : ByteArray} {ss : List ByteArray} (h : Nm n ss) (hf : fr.size = 1) : Nm (n + 1) (afterL k fr ss) := by
  refine ⟨Nat.le_trans (afterL_len k fr ss) (by have := h.1; omega), fun x hx => ?_⟩
  unfold afterL at hx
  split at hx
  · rcases List.mem_append.1 hx with hx | hx
    · exact h.2 x hx
    · rw [List.mem_singleton.1 hx]; exact hf
  · split at hx
    · exact h.2 x (List.mem_filter.1 hx).1
    · exact h.2 x hx
theorem run_nm (p : Nat) : ∀ (ds : List Dec) (c : List ByteArray × List (List ByteArray)) (n : Nat), (∀ d ∈ ds, d.fr.size = 1) → Nm n c.1 → (∀ l ∈ c.2, Nm n l) → Nm (n + ds.length) (run p c ds).1 ∧ ∀ l ∈ (run p c ds).2, Nm (n + ds.length) l
  | [], _, _, _, h1, h2 => ⟨h1, h2⟩
  | d :: ds, c, n, hd, h1, h2 => by
    have hd0 := hd d List.mem_cons_self
    have hd' : ∀ d ∈ ds, d.fr.size = 1 := fun e he => hd e (List.mem_cons_of_mem _ he)
    have key : ∀ c' : List ByteArray × List (List ByteArray), Nm (n + 1) c'.1 → (∀ l ∈ c'.2, Nm (n + 1) l) → Nm (n + (d :: ds).length) (run p c' ds).1 ∧ ∀ l ∈ (run p c' ds).2, Nm (n + (d :: ds).length) l := fun c' a b => by
      have := run_nm p ds c' (n + 1) hd' a b
      rw [show n + (d :: ds).length = n + 1 + ds.length by simp; omega]
      exact this
    unfold run
    refine key _ ?_ ?_
    · split
      · exact h1.after hd0
      · exact h1.mono (by omega)
    · split
      · intro l hl
        dsimp only at hl
        unfold leftL at hl
        split at hl
        · cases hl
        · split at hl
          · rcases List.mem_append.1 hl with hl | hl
            · exact (h2 l hl).mono (by omega)
            · rw [List.mem_singleton.1 hl]; exact h1.mono (by omega)
          · exact (h2 l hl).mono (by omega)
      · exact fun l hl => (h2 l hl).mono (by omega)
theorem decOf_sz {sts : List (Nat × Nat × Nat × Nat)} {d : Dec} (h : d ∈ sts.map decOf) : d.fr.size = 1 := by
  obtain ⟨s, _, rfl⟩ := List.mem_map.1 h
  exact nmB_size _
/-- The law's own bounds. -/
theorem law_bounds {mp vmask n : Nat} {ms : List Nat} {sts : List (Nat × Nat × Nat × Nat)} (hl : sts.length = n) (hn : n ≤ 300) (hm : ms.length ≤ 300) :
    (run mp (nl vmask 6, ms.map (nl · 6)) ((sts.take n).map decOf)).1.length ≤ 400 ∧ (run mp (nl vmask 6, ms.map (nl · 6)) ((sts.take n).map decOf)).2.length ≤ 1000 ∧ ∀ l ∈ (run mp (nl vmask 6, ms.map (nl · 6)) ((sts.take n).map decOf)).2, l.length ≤ 1000 ∧ ∀ x ∈ l, x.size ≤ maxLen := by
  have h := run_nm mp ((sts.take n).map decOf) (nl vmask 6, ms.map (nl · 6)) 6 (fun d hd => decOf_sz hd) (Nm.nl vmask) (fun l hl => by
    obtain ⟨m, _, rfl⟩ := List.mem_map.1 hl
    exact Nm.nl m)
  have h2 := (run_len mp ((sts.take n).map decOf) (nl vmask 6, ms.map (nl · 6))).2
  have e : ((sts.take n).map decOf).length = n := by simp [hl]
  rw [e] at h h2
  simp only [List.length_map] at h2
  refine ⟨by have := h.1.1; omega, by omega, fun l hl => ⟨by have := (h.2 l hl).1; omega, fun x hx => ?_⟩⟩
  rw [(h.2 l hl).2 x hx]
  unfold maxLen; omega
end Go.Proofs.Ybulkcdkc
