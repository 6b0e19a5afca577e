import Derived.Test.Qxb6612538aHubA
namespace Go.Proofs.Qxb6612538a
open Go.ChangeShapes Go.WideShapes Go.ChangeAt Go.RowKit

/-- The sum of the first u lengths. -/
def pre (T : Nat → List Nat) : Nat → Nat
  | 0 => 0
  | u + 1 => pre T u + (T u).length

theorem pre_mono (T : Nat → List Nat) : ∀ u v, u ≤ v → pre T u ≤ pre T v
  | u, 0, h => by obtain rfl : u = 0 := by omega
                  exact Nat.le_refl _
  | u, v + 1, h => by
    by_cases e : u = v + 1
    · subst e; exact Nat.le_refl _
    · have := pre_mono T u v (by omega)
      show _ ≤ pre T v + _
      omega

/-- The graph's rows: what a search reads of it. P: the hub's number; T: each node's targets; M: how many steps. -/
structure Graph (w : World) (Gr st ps pd : Nat) (sa : Option Addr) (sc : Nat) (P M : Nat) (T : Nat → List Nat) (fr to : Nat → Nat) (p0 : Nat) (pe : List Nat) : Prop where
  start : w.cell? ⟨Gr, 0, none⟩ = some (.slice (some ⟨st, 0, none⟩) (P + 2) (P + 2))
  pstart : w.cell? ⟨Gr, 1, none⟩ = some (.slice (some ⟨ps, 0, none⟩) (P + 2) (P + 2))
  steps : w.cell? ⟨Gr, 2, none⟩ = some (.slice sa M sc)
  pred : w.cell? ⟨Gr, 3, none⟩ = some (.slice (some ⟨pd, 0, none⟩) M M)
  plain : w.cell? ⟨Gr, 4, none⟩ = some (.int .i64 P)
  kinds : ∀ k, k < 5 → w.cell? ⟨Gr, 5 + k, none⟩ = some (.int .i64 P)
  kind5 : w.cell? ⟨Gr, 10, none⟩ = some (.int .i64 ((P : Int) + 1))
  starts : ∀ u, u < P + 2 → w.cell? ⟨st, u, none⟩ = some (.int .i64 (pre T u))
  row : (M = 0 ∧ sa = none ∧ sc = 0) ∨ (0 < M ∧ ∃ bs, sa = some ⟨bs, 0, none⟩ ∧ Steps w bs 0 M fr to)
  total : pre T (P + 1) = M
  cap : M ≤ sc ∧ sc ≤ maxLen
  small : M ≤ 1048576 ∧ P ≤ 65536
  froms : ∀ u, u ≤ P → ∀ j, j < (T u).length → fr (pre T u + j) = u
  tos : ∀ u, u ≤ P → ∀ j, j < (T u).length → to (pre T u + j) = (T u).getD j 0
  sorted : ∀ u, u ≤ P → ∀ i j, i < j → j < (T u).length → (T u).getD i 0 < (T u).getD j 0
  pstart0 : w.cell? ⟨ps, P, none⟩ = some (.int .i64 p0)
  pstart1 : w.cell? ⟨ps, P + 1, none⟩ = some (.int .i64 ((p0 + pe.length : Nat) : Int))
  preds : ∀ j, j < pe.length → w.cell? ⟨pd, p0 + j, none⟩ = some (.int .i64 (pe.getD j 0))
  pfits : p0 + pe.length ≤ M
  pin : ∀ j, j < pe.length → pe.getD j 0 < M
  psorted : ∀ i j, i < j → j < pe.length → fr (pe.getD i 0) < fr (pe.getD j 0)

section
variable {w : World} {Gr st ps pd : Nat} {sa : Option Addr} {sc P M : Nat} {T : Nat → List Nat} {fr to : Nat → Nat} {p0 : Nat} {pe : List Nat}

theorem Graph.later {w' : World} (h : Graph w Gr st ps pd sa sc P M T fr to p0 pe) (hb : Below w.heap.size w w') : Graph w' Gr st ps pd sa sc P M T fr to p0 pe := by
  refine ⟨cell_later hb h.start, cell_later hb h.pstart, cell_later hb h.steps, cell_later hb h.pred, cell_later hb h.plain, fun k hk => cell_later hb (h.kinds k hk), cell_later hb h.kind5, fun u hu => cell_later hb (h.starts u hu), ?_, h.total, h.cap, h.small, h.froms, h.tos, h.sorted,
    cell_later hb h.pstart0, cell_later hb h.pstart1, fun j hj => cell_later hb (h.preds j hj), h.pfits, h.pin, h.psorted⟩
  rcases h.row with h0 | ⟨hM, bs, hs, h1⟩
  · exact .inl h0
  · exact .inr ⟨hM, bs, hs, h1.later hb⟩

theorem Graph.seg (h : Graph w Gr st ps pd sa sc P M T fr to p0 pe) {u : Nat} (hu : u ≤ P) : pre T u + (T u).length ≤ M := by
  have := pre_mono T (u + 1) (P + 1) (by omega)
  rw [h.total] at this
  exact this

/-- What 'from' gives: the steps of node u. -/
def FromPost (w : World) (bs s n : Nat) (e : Ending) (w' : World) : Prop := ∃ a c, e = .returned (.slice a n c) ∧ n ≤ c ∧ c ≤ maxLen ∧ (0 < n → a = some ⟨bs, s * 6, none⟩) ∧ ((a = none ∧ c = 0) ∨ ∃ o, a = some ⟨bs, o, none⟩) ∧ ∃ q, w' = w.drewN q

set_option maxHeartbeats 1000000 in
theorem from37 (bs : Nat) (hb : sa = some ⟨bs, 0, none⟩) (h : Graph w Gr st ps pd sa sc P M T fr to p0 pe) (u : Nat) (hu : u ≤ P) :
    Calls Try.prog 37 #[.pointer (some ⟨Gr, 0, none⟩), .int .i64 u] w fun e w' => FromPost w bs (pre T u) (T u).length e w' := by
  have c1 := h.steps
  have c2 := h.start
  have c3 := h.starts u (by omega)
  have c4 := h.starts (u + 1) (by omega)
  have hs := h.seg hu
  have hc := h.cap
  have hm := h.small
  rw [show pre T (u + 1) = pre T u + (T u).length from rfl] at c4
  subst hb
  clear h
  unfold maxLen at hc
  generalize pre T u = s at *
  generalize (T u).length = n at *
  have u0 : (0 : Int) ≤ (u : Int) := by omega
  have u1 : (u : Int) < (P : Int) + 2 := by omega
  have u2 : (u : Int) + 1 < (P : Int) + 2 := by omega
  go_enter Try.func37, Try.ntmps37
  go_wp2_with fail
  go_quiet (fail)
  go_wp2_with fail
  · go_ret
    exact ⟨_, _, rfl, by omega, by unfold maxLen; omega, fun h => by omega, .inr ⟨_, rfl⟩, nq, rfl⟩
  · go_ret
    exact ⟨_, _, rfl, by omega, by unfold maxLen; omega, fun _ => rfl, .inr ⟨_, rfl⟩, nq, rfl⟩

set_option maxHeartbeats 1000000 in
theorem from37_nil (h : Graph w Gr st ps pd none 0 P 0 T fr to p0 pe) (u : Nat) (hu : u ≤ P) :
    Calls Try.prog 37 #[.pointer (some ⟨Gr, 0, none⟩), .int .i64 u] w fun e w' => FromPost w 0 (pre T u) (T u).length e w' := by
  have c1 := h.steps
  have c2 := h.start
  have c3 := h.starts u (by omega)
  have c4 := h.starts (u + 1) (by omega)
  have hs := h.seg hu
  have hm := h.small
  rw [show pre T (u + 1) = pre T u + (T u).length from rfl] at c4
  rw [show pre T u = 0 by omega, show (T u).length = 0 by omega] at c4
  rw [show pre T u = 0 by omega] at c3
  have HN : Hid (pre T u = 0 ∧ (T u).length = 0) := ⟨by omega, by omega⟩
  clear h hs
  have u0 : (0 : Int) ≤ (u : Int) := by omega
  have u1 : (u : Int) < (P : Int) + 2 := by omega
  have u2 : (u : Int) + 1 < (P : Int) + 2 := by omega
  go_enter Try.func37, Try.ntmps37
  go_wp2_with fail
  go_quiet (fail)
  go_wp2_with fail
  go_ret
  unfold FromPost
  rw [HN.out.1, HN.out.2]
  exact ⟨_, _, rfl, by omega, by unfold maxLen; omega, fun h => by omega, .inl ⟨rfl, rfl⟩, nq, rfl⟩

/-- The block of the steps' row. -/
def stepsAt (sa : Option Addr) : Nat := match sa with | some a => a.block | none => 0

theorem from37' (h : Graph w Gr st ps pd sa sc P M T fr to p0 pe) (u : Nat) (hu : u ≤ P) :
    Calls Try.prog 37 #[.pointer (some ⟨Gr, 0, none⟩), .int .i64 u] w fun e w' => FromPost w (stepsAt sa) (pre T u) (T u).length e w' := by
  rcases h.row with ⟨h1, h2, h3⟩ | ⟨_, bs, h2, _⟩
  · subst h1 h2 h3
    exact from37_nil h u hu
  · rw [show stepsAt sa = bs by rw [h2]; rfl]
    exact from37 bs h2 h u hu

/-- The steps of node u, as the search meets them. -/
theorem Graph.rowAt (h : Graph w Gr st ps pd sa sc P M T fr to p0 pe) {u : Nat} (hu : u ≤ P) (hn : 0 < (T u).length) : Steps w (stepsAt sa) (pre T u * 6) (T u).length (fun _ => u) (fun j => (T u).getD j 0) := by
  have hs := h.seg hu
  rcases h.row with ⟨h1, _, _⟩ | ⟨_, bs, h2, h3⟩
  · omega
  · rw [show stepsAt sa = bs by rw [h2]; rfl]
    intro j hj
    obtain ⟨k, q, s, p, e0, e1, e2, e3, e4, e5⟩ := h3 (pre T u + j) (by omega)
    rw [h.froms u hu j hj] at e0
    rw [h.tos u hu j hj] at e1
    have ea : 0 + (pre T u + j) * 6 = pre T u * 6 + j * 6 := by omega
    rw [ea] at e0 e1 e2 e3 e4 e5
    exact ⟨k, q, s, p, e0, e1, e2, e3, e4, e5⟩

set_option maxHeartbeats 1000000 in
theorem stepTo36 (h : Graph w Gr st ps pd sa sc P M T fr to p0 pe) (u : Nat) (hu : u ≤ P) (t : Int) :
    Calls Try.prog 36 #[.pointer (some ⟨Gr, 0, none⟩), .int .i64 u, .int .i64 t] w fun e w' => Searched (fun j => (T u).getD j 0) (T u).length t w e w' := by
  have HG : Hid (Graph w Gr st ps pd sa sc P M T fr to p0 pe) := h
  have hseg := h.seg hu
  have hsm := h.small
  clear h
  go_enter Try.func36, Try.ntmps36
  go_wp2_with fail
  refine (from37' HG.out u hu).mono ?_
  rintro e w1 ⟨a, c, rfl, hc1, hc2, ha, _, q, hw⟩
  subst hw
  have HB1 : Hid (Below w.heap.size w (w.drewN q)) := below_drewN (Below.refl _ _) q
  have HG1 := (show Hid _ from HG.out.later HB1.out)
  generalize w.drewN q = w1 at HB1 HG1 ⊢
  have HS : Hid (∀ i j, i < j → j < (T u).length → (T u).getD i 0 < (T u).getD j 0) := HG.out.sorted u hu
  by_cases hn : 0 < (T u).length
  · rw [ha hn]
    have HR : Hid (Steps w1 (stepsAt sa) (pre T u * 6) (T u).length (fun _ => u) (fun j => (T u).getD j 0)) := HG1.out.rowAt hu hn
    have hl : (T u).length ≤ 1048576 := by omega
    clear HG HG1 ha hc1 hc2
    obtain ⟨n, hN⟩ : ∃ n, n = (T u).length := ⟨_, rfl⟩
    rw [← hN] at HR HS hl hn hseg ⊢
    have HNN : Hid (n = (T u).length) := hN
    clear hN
    go_wp2_with fail
    refine (bsf43 _ _ _ _ _ _ _ hl HS.out _ HR.out).mono ?_
    rintro e w2 ⟨i, found, rfl, hp, hB2⟩
    have HP := (show Hid _ from hp)
    have HB2 : Hid (Below w.heap.size w w2) := HB1.out.trans (hB2.mono HB1.out.size)
    clear hp hB2
    rw [HNN.out] at HP
    go_wp2_with fail
    go_ret2
    exact ⟨i, found, rfl, HP.out, HB2.out⟩
  · have hz : (T u).length = 0 := by omega
    rw [hz]
    have HNN : Hid (0 = (T u).length) := hz.symm
    clear HG HG1 ha hc1 hc2 hseg hn hz
    go_wp2_with fail
    refine (bsf43_empty _ _ (fun j => (T u).getD j 0) _ _ _).mono ?_
    rintro e w2 ⟨i, found, rfl, hp, hB2⟩
    have HP : Hid (Place (fun j => (T u).getD j 0) (T u).length t i found) := by rw [show (T u).length = 0 from HNN.out.symm]; exact hp
    have HB2 : Hid (Below w.heap.size w w2) := HB1.out.trans (hB2.mono HB1.out.size)
    clear hp hB2
    go_wp2_with fail
    go_ret2
    exact ⟨i, found, rfl, HP.out, HB2.out⟩

theorem leads41 (h : Graph w Gr st ps pd sa sc P M T fr to p0 pe) (u : Nat) (hu : u ≤ P) (v : Nat) :
    Calls Try.prog 41 #[.pointer (some ⟨Gr, 0, none⟩), .int .i64 u, .int .i64 v] w fun e w' => e = .returned (.bool (decide (v ∈ T u))) ∧ Below w.heap.size w w' := by
  have HG : Hid (Graph w Gr st ps pd sa sc P M T fr to p0 pe) := h
  clear h
  go_enter Try.func41, Try.ntmps41
  go_wp2_with fail
  refine (stepTo36 HG.out u hu v).mono ?_
  rintro e w2 ⟨i, found, rfl, hp, hB2⟩
  have HB2 : Hid (Below w.heap.size w w2) := hB2
  have HF : Hid (found = decide (v ∈ T u)) := by
    show _ = _
    rw [Bool.eq_iff_iff, hp.hit, decide_eq_true_iff, List.mem_iff_getElem]
    constructor
    · rintro ⟨h1, h2⟩
      refine ⟨i, h1, ?_⟩
      simp only [List.getD, List.getElem?_eq_getElem h1, Option.getD_some] at h2
      omega
    · rintro ⟨j, hj, hjv⟩
      have hg : (T u).getD j 0 = v := by simp [List.getD, List.getElem?_eq_getElem hj, hjv]
      have h1 : ¬ j < i := fun hlt => by
        have := hp.low j hlt
        simp only [hg] at this
        omega
      have h2 : ¬ i < j := fun hlt => by
        have := hp.high i (Nat.le_refl _) (by omega)
        have h3 := HG.out.sorted u hu i j hlt hj
        rw [hg] at h3
        have h4 : (v : Int) ≤ ((T u).getD i 0 : Nat) := this
        omega
      obtain rfl : i = j := by omega
      exact ⟨hj, by simp only [hg]⟩
  clear hp hB2
  go_wp2_with fail
  go_ret
  rw [← HF.out]
  exact ⟨rfl, HB2.out⟩
end

end Go.Proofs.Qxb6612538a
