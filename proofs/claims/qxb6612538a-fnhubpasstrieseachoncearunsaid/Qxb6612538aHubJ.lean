import Derived.Test.Qxb6612538aHubB
namespace Go.Proofs.Qxb6612538a

/-! ### Plain: the edges of a graph, in order -/
/-- The edges of the first u nodes. -/
def edges (T : Nat → List Nat) : Nat → List (Nat × Nat)
  | 0 => []
  | u + 1 => edges T u ++ (T u).map fun v => (u, v)
/-- .. and the first j of node u. -/
def edgesTo (T : Nat → List Nat) (u j : Nat) : List (Nat × Nat) := edges T u ++ ((T u).take j).map fun v => (u, v)

theorem edges_length (T : Nat → List Nat) : ∀ u, (edges T u).length = pre T u
  | 0 => rfl
  | u + 1 => by simp [edges, pre, edges_length T u]

theorem edgesTo_zero (T : Nat → List Nat) (u : Nat) : edgesTo T u 0 = edges T u := by simp [edgesTo]
theorem edgesTo_all (T : Nat → List Nat) (u : Nat) : edgesTo T u (T u).length = edges T (u + 1) := by simp [edgesTo, edges]
theorem edgesTo_succ (T : Nat → List Nat) (u j : Nat) (h : j < (T u).length) : edgesTo T u (j + 1) = edgesTo T u j ++ [(u, (T u).getD j 0)] := by
  unfold edgesTo
  rw [List.take_succ_eq_append_getElem h, List.map_append, ← List.append_assoc]
  congr 1
  simp [List.getD, List.getElem?_eq_getElem h]
theorem edgesTo_length (T : Nat → List Nat) (u j : Nat) (h : j ≤ (T u).length) : (edgesTo T u j).length = pre T u + j := by
  simp [edgesTo, edges_length]; omega

/-- The first u nodes' edges are a head of all. -/
theorem edges_take (T : Nat → List Nat) : ∀ u n, u ≤ n → (edges T n).take (pre T u) = edges T u
  | u, 0, h => by obtain rfl : u = 0 := by omega
                  rfl
  | u, n + 1, h => by
    by_cases e : u = n + 1
    · subst e; rw [← edges_length T (n + 1), List.take_length]
    · have hm := pre_mono T u n (by omega)
      have := edges_take T u n (by omega)
      show (edges T n ++ _).take _ = _
      rw [List.take_append_of_le_length (by rw [edges_length]; exact hm)]
      exact this

theorem edgesTo_take (T : Nat → List Nat) (u j n : Nat) (hu : u < n) (hj : j ≤ (T u).length) : (edges T n).take (pre T u + j) = edgesTo T u j := by
  have h1 := edges_take T (u + 1) n (by omega)
  have h2 : (edges T n).take (pre T u + j) = ((edges T n).take (pre T (u + 1))).take (pre T u + j) := by
    rw [List.take_take, Nat.min_eq_left (by show _ ≤ pre T u + _; omega)]
  rw [h2, h1]
  show (edges T u ++ _).take _ = _
  rw [List.take_append, edges_length, List.take_of_length_le (by rw [edges_length]; omega), show pre T u + j - pre T u = j by omega, ← List.map_take]
  rfl

theorem edges_get (T : Nat → List Nat) (u j n : Nat) (hu : u < n) (hj : j < (T u).length) : (edges T n).getD (pre T u + j) (0, 0) = (u, (T u).getD j 0) := by
  have h := edgesTo_take T u (j + 1) n hu hj
  have hl : pre T u + j < (edges T n).length := by
    rw [edges_length]
    have := pre_mono T (u + 1) n hu
    have e : pre T (u + 1) = pre T u + (T u).length := rfl
    omega
  have h2 : ((edges T n).take (pre T u + (j + 1)))[pre T u + j]? = (edges T n)[pre T u + j]? := by
    rw [List.getElem?_take, if_pos (by omega)]
  rw [h, edgesTo_succ T u j hj, List.getElem?_append_right (by rw [edgesTo_length T u j (by omega)]; exact Nat.le_refl _), edgesTo_length T u j (by omega), Nat.sub_self] at h2
  simp only [List.getD, ← h2]
  rfl

/-- Every edge lies in some node's row. -/
theorem edges_at (T : Nat → List Nat) : ∀ n e, e < (edges T n).length → ∃ u j, u < n ∧ j < (T u).length ∧ e = pre T u + j
  | 0, e, h => by simp [edges] at h
  | n + 1, e, h => by
    rw [edges_length] at h
    by_cases hlt : e < pre T n
    · obtain ⟨u, j, h1, h2, h3⟩ := edges_at T n e (by rw [edges_length]; exact hlt)
      exact ⟨u, j, by omega, h2, h3⟩
    · have hp : pre T (n + 1) = pre T n + (T n).length := rfl
      exact ⟨n, e - pre T n, by omega, by omega, by omega⟩

/-- How many lead to v; how many lead below v. -/
def cntE (l : List (Nat × Nat)) (v : Nat) : Nat := (l.filter fun e => e.2 == v).length
def lowE (l : List (Nat × Nat)) (v : Nat) : Nat := (l.filter fun e => decide (e.2 < v)).length

theorem cntE_snoc (l : List (Nat × Nat)) (x : Nat × Nat) (v : Nat) : cntE (l ++ [x]) v = cntE l v + if x.2 = v then 1 else 0 := by
  unfold cntE
  rw [List.filter_append, List.length_append, List.filter_cons, List.filter_nil]
  by_cases h : x.2 = v <;> simp [h]

theorem lowE_succ (v : Nat) : ∀ l : List (Nat × Nat), lowE l (v + 1) = lowE l v + cntE l v
  | [] => rfl
  | x :: l => by
    have ih := lowE_succ v l
    unfold lowE cntE at *
    simp only [List.filter_cons]
    rcases Nat.lt_trichotomy x.2 v with h | h | h
    · have h1 : decide (x.2 < v + 1) = true := by simp; omega
      have h2 : decide (x.2 < v) = true := by simp [h]
      have h3 : (x.2 == v) = false := by simp; omega
      simp only [h1, h2, h3, if_true, List.length_cons, ih]
      simp
      omega
    · have h1 : decide (x.2 < v + 1) = true := by simp; omega
      have h2 : decide (x.2 < v) = false := by simp; omega
      have h3 : (x.2 == v) = true := by simp [h]
      simp only [h1, h2, h3, if_true, List.length_cons, ih]
      simp
      omega
    · have h1 : decide (x.2 < v + 1) = false := by simp; omega
      have h2 : decide (x.2 < v) = false := by simp; omega
      have h3 : (x.2 == v) = false := by simp; omega
      simp only [h1, h2, h3]
      simpa using ih

theorem lowE_zero (l : List (Nat × Nat)) : lowE l 0 = 0 := by simp [lowE]
theorem lowE_mono (l : List (Nat × Nat)) : ∀ u v, u ≤ v → lowE l u ≤ lowE l v
  | u, 0, h => by obtain rfl : u = 0 := by omega
                  exact Nat.le_refl _
  | u, v + 1, h => by
    by_cases e : u = v + 1
    · subst e; exact Nat.le_refl _
    · have := lowE_mono l u v (by omega)
      rw [lowE_succ]
      omega
theorem lowE_all (l : List (Nat × Nat)) (n : Nat) (h : ∀ e, e ∈ l → e.2 < n) : lowE l n = l.length := by
  unfold lowE
  rw [List.filter_eq_self.2]
  intro a ha
  simpa using h a ha

theorem cntE_le (l : List (Nat × Nat)) (v : Nat) : cntE l v ≤ l.length := List.length_filter_le _ _

/-- The head's count is less where one that leads to v comes after. -/
theorem cntE_take_lt (l : List (Nat × Nat)) (e : Nat) (he : e < l.length) (v : Nat) (hv : (l.getD e (0, 0)).2 = v) : cntE (l.take e) v < cntE l v := by
  have h1 : l = l.take e ++ l[e] :: l.drop (e + 1) := by
    have := List.take_append_drop e l
    rw [List.drop_eq_getElem_cons he] at this
    exact this.symm
  have hg : l[e].2 = v := by
    simp only [List.getD, List.getElem?_eq_getElem he, Option.getD_some] at hv
    exact hv
  have h2 : cntE l v = cntE (l.take e ++ l[e] :: l.drop (e + 1)) v := by rw [← h1]
  rw [h2]
  unfold cntE
  rw [List.filter_append, List.length_append, List.filter_cons]
  simp [hg]

theorem cntE_take_mono (l : List (Nat × Nat)) (a b : Nat) (h : a ≤ b) (v : Nat) : cntE (l.take a) v ≤ cntE (l.take b) v := by
  have : l.take b = l.take a ++ (l.take b).drop a := by
    have := List.take_append_drop a (l.take b)
    rw [List.take_take, Nat.min_eq_left h] at this
    exact this.symm
  rw [this]
  unfold cntE
  rw [List.filter_append, List.length_append]
  omega

/-- The place of edge e in the row of predecessors. -/
def posE (l : List (Nat × Nat)) (e : Nat) : Nat := lowE l (l.getD e (0, 0)).2 + cntE (l.take e) (l.getD e (0, 0)).2

theorem posE_lt (l : List (Nat × Nat)) (n e : Nat) (he : e < l.length) (h : ∀ x, x ∈ l → x.2 < n) : posE l e < l.length := by
  unfold posE
  have h1 := cntE_take_lt l e he _ rfl
  have h2 := lowE_succ (l.getD e (0, 0)).2 l
  have hm : l.getD e (0, 0) ∈ l := by simp [List.getD, List.getElem?_eq_getElem he]
  have h3 := lowE_mono l ((l.getD e (0, 0)).2 + 1) n (h _ hm)
  rw [lowE_all l n h] at h3
  omega

theorem posE_inj (l : List (Nat × Nat)) (a b : Nat) (ha : a < b) (hb : b < l.length) : posE l a ≠ posE l b := by
  unfold posE
  have ca := cntE_take_lt l a (by omega) _ rfl
  have cb := cntE_take_lt l b hb _ rfl
  have la := lowE_succ (l.getD a (0, 0)).2 l
  have lb := lowE_succ (l.getD b (0, 0)).2 l
  rcases Nat.lt_trichotomy (l.getD a (0, 0)).2 (l.getD b (0, 0)).2 with h | h | h
  · have := lowE_mono l ((l.getD a (0, 0)).2 + 1) (l.getD b (0, 0)).2 h
    omega
  · have hlt : cntE (l.take a) (l.getD a (0, 0)).2 < cntE (l.take b) (l.getD a (0, 0)).2 := by
      have h1 := cntE_take_lt (l.take b) a (by simp; omega) (l.getD a (0, 0)).2 (by simp [List.getD, ha])
      rw [List.take_take, Nat.min_eq_left (by omega)] at h1
      exact h1
    rw [← h]
    omega
  · have := lowE_mono l ((l.getD b (0, 0)).2 + 1) (l.getD a (0, 0)).2 h
    omega

end Go.Proofs.Qxb6612538a
