import Derived.Test.Qxb6612538aHubM
import Derived.Test.Qxb6612538aHubD
namespace Go.Proofs.Qxb6612538a
open Go.ChangeShapes Go.WideShapes Go.ChangeAt Go.RowKit

/-! ### Plain: positions in a filtered range -/
theorem range_filter_at (p : Nat → Bool) : ∀ M j, j < ((List.range M).filter p).length → ∃ e, ((List.range M).filter p).getD j 0 = e ∧ e < M ∧ p e = true ∧ ((List.range e).filter p).length = j
  | 0, j, h => by simp at h
  | M + 1, j, h => by
    rw [List.range_succ, List.filter_append] at h ⊢
    by_cases hj : j < ((List.range M).filter p).length
    · obtain ⟨e, h1, h2, h3, h4⟩ := range_filter_at p M j hj
      refine ⟨e, ?_, by omega, h3, h4⟩
      rw [← h1]
      simp [List.getD, List.getElem?_append_left hj]
    · cases hp : p M with
      | false => simp [hp] at h; omega
      | true =>
        simp [hp] at h
        obtain rfl : j = ((List.range M).filter p).length := by omega
        refine ⟨M, ?_, by omega, hp, rfl⟩
        simp [List.getD, hp]

theorem range_filter_incr (p : Nat → Bool) (M i j : Nat) (hij : i < j) (hj : j < ((List.range M).filter p).length) : ((List.range M).filter p).getD i 0 < ((List.range M).filter p).getD j 0 := by
  obtain ⟨a, ha1, ha2, ha3, ha4⟩ := range_filter_at p M i (by omega)
  obtain ⟨b, hb1, hb2, hb3, hb4⟩ := range_filter_at p M j hj
  rw [ha1, hb1]
  rcases Nat.lt_or_ge a b with h | h
  · exact h
  · exfalso
    have : ((List.range b).filter p).length ≤ ((List.range a).filter p).length := by
      have e : List.range a = List.range b ++ (List.range (a - b)).map (b + ·) := by
        rw [← List.range_add]
        congr 1
        omega
      rw [e, List.filter_append, List.length_append]
      omega
    omega

theorem cntE_range (E : List (Nat × Nat)) (v : Nat) : ∀ e, e ≤ E.length → cntE (E.take e) v = ((List.range e).filter fun i => (E.getD i (0, 0)).2 == v).length
  | 0, _ => by simp [cntE]
  | e + 1, h => by
    rw [List.take_succ_eq_append_getElem (by omega), cntE_snoc, cntE_range E v e (by omega), List.range_succ, List.filter_append, List.length_append]
    have hg : E.getD e (0, 0) = E[e] := by simp [List.getD, List.getElem?_eq_getElem (show e < E.length by omega)]
    congr 1
    rw [List.filter_cons, hg]
    by_cases hv : E[e].2 = v <;> simp [hv]

theorem filter_by_index {α : Type} (l : List α) (d : α) (p : α → Bool) : ((List.range l.length).filter fun e => p (l.getD e d)).map (fun e => l.getD e d) = l.filter p := by
  have h : l = (List.range l.length).map fun i => l.getD i d := by
    apply List.ext_getElem?
    intro i
    by_cases hi : i < l.length
    · simp [hi, List.getD]
    · simp [hi]
  have h2 : l.filter p = ((List.range l.length).map fun i => l.getD i d).filter p := by rw [← h]
  rw [h2, List.filter_map]
  rfl

/-! ### The steps into the hub -/
section
variable {D : ND} {P : Nat}

theorem tgt_lt (hO : ∀ i, i < P → NextOK P i (D.nx i)) : ∀ u, u < P + 1 → ∀ j, j < (tgt D P u).length → (tgt D P u).getD j 0 < P + 1 := by
  intro u hu j hj
  have hm : (tgt D P u).getD j 0 ∈ tgt D P u := by simp [List.getD, List.getElem?_eq_getElem hj]
  generalize (tgt D P u).getD j 0 = x at hm
  unfold tgt at hm
  split at hm
  · rename_i hup
    rw [List.mem_append, List.mem_map] at hm
    rcases hm with ⟨y, hy, rfl⟩ | hm
    · obtain ⟨i, hi, rfl⟩ := mem_getD.1 hy
      have h1 := (hO u hup).low i hi
      have h2 := (hO u hup).high i hi
      omega
    · split at hm <;> simp at hm
      omega
  · rw [List.mem_filter, List.mem_range] at hm
    omega

theorem nx_nat {u : Nat} {j : Nat} (hj : j < (D.nx u).length) : ((D.nx u).map Int.toNat).getD j 0 = ((D.nx u).getD j 0).toNat := by
  simp [List.getD, List.getElem?_eq_getElem hj]

theorem tgt_sorted (hO : ∀ i, i < P → NextOK P i (D.nx i)) : ∀ u, u ≤ P → ∀ i j, i < j → j < (tgt D P u).length → (tgt D P u).getD i 0 < (tgt D P u).getD j 0 := by
  intro u hu i j hij hj
  by_cases hup : u < P
  · have hs := (hO u hup).sorted
    have hlo := (hO u hup).low
    have hhi := (hO u hup).high
    have hT : tgt D P u = (D.nx u).map Int.toNat ++ (if D.into u = true then [P] else []) := by simp [tgt, hup]
    rw [hT] at hj ⊢
    by_cases hjl : j < (D.nx u).length
    · have e1 : ∀ k, k < (D.nx u).length → ((D.nx u).map Int.toNat ++ (if D.into u = true then [P] else [])).getD k 0 = ((D.nx u).getD k 0).toNat := fun k hk => by
        rw [← nx_nat hk]
        simp [List.getD, List.getElem?_append_left (show k < ((D.nx u).map Int.toNat).length by simpa using hk)]
      rw [e1 i (by omega), e1 j hjl]
      have h1 := hs i j hij hjl
      have h2 := hlo i (by omega)
      omega
    · cases hin : D.into u with
      | false => simp [hin] at hj; omega
      | true =>
        simp [hin] at hj
        have ej : j = (D.nx u).length := by omega
        have h1 : ((D.nx u).map Int.toNat ++ (if D.into u = true then [P] else [])).getD j 0 = P := by
          rw [hin, ej]
          simp [List.getD]
        have h2 : ((D.nx u).map Int.toNat ++ (if D.into u = true then [P] else [])).getD i 0 = ((D.nx u).getD i 0).toNat := by
          rw [← nx_nat (show i < (D.nx u).length by omega)]
          simp [List.getD, List.getElem?_append_left (show i < ((D.nx u).map Int.toNat).length by simp; omega)]
        rw [hin] at h1 h2
        rw [h1, h2]
        have h3 := hlo i (by omega)
        have h4 := hhi i (by omega)
        omega
  · have hT : tgt D P u = (List.range P).filter D.frm := by simp [tgt, hup]
    rw [hT] at hj ⊢
    exact range_filter_incr D.frm P i j hij hj

theorem into_edges (hO : ∀ i, i < P → NextOK P i (D.nx i)) : ∀ k, k ≤ P → ((edges (tgt D P) k).filter fun e => e.2 == P).map (·.1) = (List.range k).filter D.into
  | 0, _ => rfl
  | k + 1, hk => by
    have ih := into_edges hO k (by omega)
    show ((edges (tgt D P) k ++ _).filter _).map _ = _
    rw [List.filter_append, List.map_append, ih, List.range_succ, List.filter_append]
    congr 1
    have hT : tgt D P k = (D.nx k).map Int.toNat ++ (if D.into k = true then [P] else []) := by simp [tgt, show k < P by omega]
    rw [hT, List.map_append, List.filter_append]
    have h1 : (((D.nx k).map Int.toNat).map fun v => (k, v)).filter (fun e => e.2 == P) = [] := by
      rw [List.filter_eq_nil_iff]
      intro a ha
      obtain ⟨y, hy, rfl⟩ := List.mem_map.1 ha
      obtain ⟨z, hz, rfl⟩ := List.mem_map.1 hy
      obtain ⟨i, hi, rfl⟩ := mem_getD.1 hz
      have h1 := (hO k (by omega)).low i hi
      have h2 := (hO k (by omega)).high i hi
      show ¬ ((((D.nx k).getD i 0).toNat == P) = true)
      rw [beq_iff_eq]
      omega
    rw [h1]
    cases hin : D.into k <;> simp [hin]

theorem into_edges_all (hO : ∀ i, i < P → NextOK P i (D.nx i)) : ((edges (tgt D P) (P + 1)).filter fun e => e.2 == P).map (·.1) = (List.range P).filter D.into := by
  have ih := into_edges hO P (Nat.le_refl _)
  show ((edges (tgt D P) P ++ _).filter _).map _ = _
  rw [List.filter_append, List.map_append, ih]
  have h1 : ((tgt D P P).map fun v => (P, v)).filter (fun e => e.2 == P) = [] := by
    rw [List.filter_eq_nil_iff]
    intro a ha
    obtain ⟨y, hy, rfl⟩ := List.mem_map.1 ha
    simp [tgt] at hy
    simp
    omega
  rw [h1]
  simp

theorem pre_tot : ∀ k, k ≤ P → 8 * pre (tgt D P) k ≤ tot D k
  | 0, _ => Nat.zero_le _
  | k + 1, h => by
    have ih := pre_tot k (by omega)
    have hT : (tgt D P k).length ≤ (D.nx k).length + 1 := by
      have : tgt D P k = (D.nx k).map Int.toNat ++ (if D.into k = true then [P] else []) := by simp [tgt, show k < P by omega]
      rw [this]
      split <;> simp
    show 8 * (pre (tgt D P) k + _) ≤ tot D k + _
    omega
theorem tot_ge (D : ND) : ∀ k, 32 * k ≤ tot D k
  | 0 => Nat.zero_le _
  | k + 1 => by have := tot_ge D k; show _ ≤ tot D k + _; omega
theorem tot_len (D : ND) (i : Nat) : ∀ k, i < k → 8 * (D.nx i).length ≤ tot D k
  | 0, h => by omega
  | k + 1, h => by
    by_cases e : i = k
    · subst e; show _ ≤ tot D i + _; omega
    · have := tot_len D i k (by omega)
      show _ ≤ tot D k + _
      omega
theorem pre_small (h : tot D P ≤ 1048576) : pre (tgt D P) (P + 1) ≤ 262144 ∧ P ≤ 32768 := by
  have h1 := pre_tot (D := D) (P := P) P (Nat.le_refl _)
  have h2 := tot_ge D P
  have h3 : (tgt D P P).length ≤ P := by
    have : tgt D P P = (List.range P).filter D.frm := by simp [tgt]
    rw [this]
    have := List.length_filter_le D.frm (List.range P)
    simpa using this
  have e : pre (tgt D P) (P + 1) = pre (tgt D P) P + (tgt D P P).length := rfl
  omega

/-- The numbers of the steps into the hub. -/
def intoP (D : ND) (P : Nat) : List Nat := (List.range (pre (tgt D P) (P + 1))).filter fun e => ((edges (tgt D P) (P + 1)).getD e (0, 0)).2 == P
def frE (D : ND) (P e : Nat) : Nat := ((edges (tgt D P) (P + 1)).getD e (0, 0)).1
def toE (D : ND) (P e : Nat) : Nat := ((edges (tgt D P) (P + 1)).getD e (0, 0)).2

theorem intoP_map (hO : ∀ i, i < P → NextOK P i (D.nx i)) : (intoP D P).map (frE D P) = (List.range P).filter D.into := by
  rw [← into_edges_all hO, ← filter_by_index (edges (tgt D P) (P + 1)) (0, 0) (fun e => e.2 == P), List.map_map, edges_length]
  rfl

theorem intoP_length : (intoP D P).length = cntE (edges (tgt D P) (P + 1)) P := by
  have h := cntE_range (edges (tgt D P) (P + 1)) P _ (Nat.le_refl _)
  rw [List.take_length, edges_length] at h
  rw [h]
  rfl

/-- The graph, out of its rows and its struct. -/
theorem graph_of {w : World} {Gr A S Q : Nat} {sa : Option Addr} {sc : Nat} (hO : ∀ i, i < P → NextOK P i (D.nx i)) (ht : tot D P ≤ 1048576)
    (hr : CsrRows w (P + 1) P (tgt D P) A S Q (.slice sa (pre (tgt D P) (P + 1)) sc))
    (hg : GrSt w Gr P (.slice (some ⟨A, 0, none⟩) (P + 1 + 1) (P + 1 + 1)) (.slice (some ⟨S, 0, none⟩) (P + 1 + 1) (P + 1 + 1)) (.slice sa (pre (tgt D P) (P + 1)) sc) (.slice (some ⟨Q, 0, none⟩) (pre (tgt D P) (P + 1)) (pre (tgt D P) (P + 1)))) :
    Graph w Gr A S Q sa sc P (pre (tgt D P) (P + 1)) (tgt D P) (frE D P) (toE D P) (lowE (edges (tgt D P) (P + 1)) P) (intoP D P) := by
  have hsm := pre_small ht
  have hlow : lowE (edges (tgt D P) (P + 1)) (P + 1) = lowE (edges (tgt D P) (P + 1)) P + (intoP D P).length := by rw [lowE_succ, intoP_length]
  have hall : lowE (edges (tgt D P) (P + 1)) (P + 1) = pre (tgt D P) (P + 1) := by rw [lowE_all _ _ (edges_lt (tgt_lt hO)), edges_length]
  obtain ⟨base, hown⟩ := hr.steps
  have hcap : pre (tgt D P) (P + 1) ≤ sc ∧ sc ≤ maxLen := by
    rcases hown.2 with ⟨h1, h2⟩ | ⟨g, cap, cur, h1, _, _, h3, h4, _⟩
    · simp only [Value.slice.injEq] at h1
      rw [h2, h1.2.2]
      exact ⟨Nat.le_refl _, by unfold maxLen; omega⟩
    · simp only [Value.slice.injEq] at h1
      rw [h1.2.2]
      exact ⟨h3, h4⟩
  refine ⟨hg.c0, hg.c1, hg.c2, hg.c3, hg.c4, hg.kinds, hg.kind5, fun u hu => hr.start.cell u (by omega), ?_, rfl, hcap, by omega, fun u hu j hj => ?_, fun u hu j hj => ?_, tgt_sorted hO, hr.pstart.cell P (by omega), ?_, fun j hj => ?_, by omega, fun j hj => ?_, fun i j hij hj => ?_⟩
  · by_cases h0 : pre (tgt D P) (P + 1) = 0
    · have := hr.nil h0
      simp only [Value.slice.injEq] at this
      exact .inl ⟨h0, this.1, this.2.2⟩
    · refine .inr ⟨by omega, ?_⟩
      rcases hown.2 with ⟨h1, h2⟩ | ⟨g, cap, cur, h1, _⟩
      · omega
      · simp only [Value.slice.injEq] at h1
        refine ⟨g, h1.1, ?_⟩
        have ho := hown
        rw [h1.1] at ho
        exact steps_of_owns (edges_length _ _).symm ho
  · unfold frE; rw [edges_get _ u j (P + 1) (by omega) hj]
  · unfold toE; rw [edges_get _ u j (P + 1) (by omega) hj]
  · rw [← hlow]
    exact hr.pstart.cell (P + 1) (by omega)
  · obtain ⟨fQ, hq, hf⟩ := hr.pred
    obtain ⟨e, h1, h2, h3, h4⟩ := range_filter_at _ _ j hj
    have h1' : (intoP D P).getD j 0 = e := h1
    have h3' : ((edges (tgt D P) (P + 1)).getD e (0, 0)).2 = P := by simpa using h3
    have hpos : posE (edges (tgt D P) (P + 1)) e = lowE (edges (tgt D P) (P + 1)) P + j := by
      unfold posE
      rw [h3', cntE_range _ _ e (by rw [edges_length]; omega), h4]
    rw [h1']
    have hc := hq.cell (lowE (edges (tgt D P) (P + 1)) P + j) (by omega)
    have hfe := hf e h2
    rw [hpos] at hfe
    rw [hfe] at hc
    exact hc
  · obtain ⟨e, h1, h2, _⟩ := range_filter_at _ _ j hj
    have h1' : (intoP D P).getD j 0 = e := h1
    rw [h1']
    exact h2
  · have hlt := range_filter_incr _ _ i j hij hj
    obtain ⟨a, a1, a2, a3, _⟩ := range_filter_at _ _ i (Nat.lt_trans hij hj)
    obtain ⟨b, b1, b2, b3, _⟩ := range_filter_at _ _ j hj
    rw [a1, b1] at hlt
    have a1' : (intoP D P).getD i 0 = a := a1
    have b1' : (intoP D P).getD j 0 = b := b1
    rw [a1', b1']
    obtain ⟨u1, j1, hu1, hj1, rfl⟩ := edges_at (tgt D P) (P + 1) a (by rw [edges_length]; exact a2)
    obtain ⟨u2, j2, hu2, hj2, rfl⟩ := edges_at (tgt D P) (P + 1) b (by rw [edges_length]; exact b2)
    have a3' : ((edges (tgt D P) (P + 1)).getD (pre (tgt D P) u1 + j1) (0, 0)).2 = P := by simpa using a3
    have b3' : ((edges (tgt D P) (P + 1)).getD (pre (tgt D P) u2 + j2) (0, 0)).2 = P := by simpa using b3
    rw [edges_get _ u1 j1 (P + 1) hu1 hj1] at a3'
    rw [edges_get _ u2 j2 (P + 1) hu2 hj2] at b3'
    unfold frE
    rw [edges_get _ u1 j1 (P + 1) hu1 hj1, edges_get _ u2 j2 (P + 1) hu2 hj2]
    show u1 < u2
    rcases Nat.lt_trichotomy u1 u2 with h | h | h
    · exact h
    · subst h
      have := tgt_sorted hO u1 (by omega) j1 j2 (by omega) hj2
      simp only at a3' b3'
      omega
    · have h5 := pre_mono (tgt D P) (u2 + 1) u1 h
      have h6 : pre (tgt D P) (u2 + 1) = pre (tgt D P) u2 + (tgt D P u2).length := rfl
      omega
end

end Go.Proofs.Qxb6612538a
