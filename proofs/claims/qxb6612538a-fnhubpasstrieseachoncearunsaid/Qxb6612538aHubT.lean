import Derived.Test.Qxb6612538aHubS
import Derived.Test.Qxb6612538aHubN
namespace Go.Proofs.Qxb6612538a
open Go.ChangeShapes Go.WideShapes Go.ChangeAt Go.RowKit

section
variable {D : ND} {P : Nat}

theorem mem_tgt (hO : ∀ i, i < P → NextOK P i (D.nx i)) {u v : Nat} (hu : u < P) (hv : v < P) : v ∈ tgt D P u ↔ (v : Int) ∈ D.nx u := by
  have hT : tgt D P u = (D.nx u).map Int.toNat ++ (if D.into u = true then [P] else []) := by simp [tgt, hu]
  have hlo := (hO u hu).low
  rw [hT, List.mem_append, List.mem_map]
  constructor
  · rintro (⟨x, hx, rfl⟩ | h)
    · obtain ⟨j, hj, rfl⟩ := mem_getD.1 hx
      have := hlo j hj
      have e : (((D.nx u).getD j 0).toNat : Int) = (D.nx u).getD j 0 := by omega
      rw [e]
      exact hx
    · split at h
      · simp at h; omega
      · simp at h
  · intro h
    exact .inl ⟨_, h, by simp⟩

theorem jb_jn (hO : ∀ i, i < P → NextOK P i (D.nx i)) {n m : Nat} (hn : n < P) (hm : m < P) (fwd : Bool) : jb (tgt D P) fwd n m = jn D fwd n m := by
  unfold jb jn joinB
  cases fwd with
  | true =>
    have e : (n == m) = (m == n) := by rw [Bool.eq_iff_iff]; simp; omega
    simp only [if_true, mem_tgt hO hn hm, e]
  | false => simp [mem_tgt hO hm hn]

/-- The candidates, plainly. -/
def side (D : ND) (fwd : Bool) (m : Nat) : Bool := if fwd then D.frm m else D.into m
def cl (D : ND) (P : Nat) (fwd : Bool) (low : Int) : List Nat := (List.range P).filter fun m => decide (low ≤ (m : Int)) && side D fwd m

theorem candL_eq (hO : ∀ i, i < P → NextOK P i (D.nx i)) (fwd : Bool) (low : Int) : candL (tgt D P) (frE D P) (intoP D P) P fwd low = cl D P fwd low := by
  unfold candL cl side
  cases fwd with
  | true =>
    have : tgt D P P = (List.range P).filter D.frm := by simp [tgt]
    simp only [if_true, this, List.filter_filter]
  | false =>
    simp only [Bool.false_eq_true, if_false]
    rw [intoP_map hO, List.filter_filter]

theorem cl_any (fwd : Bool) (low : Int) : (cl D P fwd low).any D.acc = modelK D low fwd P := by
  unfold cl modelK cand side
  rw [List.any_filter]
  congr 1
  funext m
  cases decide (low ≤ (m : Int)) <;> cases D.acc m <;> simp

theorem cl_lt (fwd : Bool) (low : Int) : ∀ m ∈ cl D P fwd low, m < P := fun m hm => by
  unfold cl at hm
  simp at hm
  exact hm.1

theorem cl_taken (hO : ∀ i, i < P → NextOK P i (D.nx i)) (fwd : Bool) (low : Int) {n : Nat} (hn : n < P) : (cl D P fwd low).filter (fun m => D.acc m && jb (tgt D P) fwd n m) = modelL D low fwd n P := by
  unfold cl modelL
  rw [List.filter_filter]
  refine List.filter_congr fun m hm => ?_
  have hmP : m < P := by simpa using hm
  rw [jb_jn hO hn hmP]
  unfold cand side
  cases decide (low ≤ (m : Int)) <;> cases D.acc m <;> simp [Bool.and_comm]

theorem cl_second (hO : ∀ i, i < P → NextOK P i (D.nx i)) (fwd : Bool) (low : Int) {n1 n2 : Nat} (hn1 : n1 < P) (hn2 : n2 < P) :
    (((cl D P fwd low).filter (fun m => D.acc m && !jb (tgt D P) fwd n1 m)).filter fun m => D.acc m && jb (tgt D P) fwd n2 m) = (modelL D low fwd n2 P).filter fun m => !jn D fwd n1 m := by
  rw [← cl_taken hO fwd low hn2, List.filter_filter, List.filter_filter]
  refine List.filter_congr fun m hm => ?_
  have hmP : m < P := cl_lt fwd low m hm
  rw [jb_jn hO hn1 hmP, jb_jn hO hn2 hmP]
  cases D.acc m <;> cases jn D fwd n1 m <;> cases jn D fwd n2 m <;> rfl

theorem cl_second_any (T : Nat → List Nat) (fwd : Bool) (low : Int) (n1 : Nat) :
    ((cl D P fwd low).any D.acc || ((cl D P fwd low).filter (fun m => D.acc m && !jb T fwd n1 m)).any D.acc) = modelK D low fwd P := by
  rw [cl_any]
  cases h : modelK D low fwd P with
  | true => rfl
  | false =>
    rw [← cl_any, List.any_eq_false] at h
    rw [Bool.false_or, List.any_eq_false]
    intro m hm
    simp at hm
    exact h m hm.1

theorem filter_lt {l : List Nat} {q : Nat → Bool} (h : ∀ m ∈ l, m < P) : (∀ j, j < (l.filter q).length → (l.filter q).getD j 0 < P) := fun j hj => by
  have : (l.filter q).getD j 0 ∈ l.filter q := by simp [List.getD, List.getElem?_eq_getElem hj]
  exact h _ (List.mem_filter.1 this).1

theorem cl_len (fwd : Bool) (low : Int) : (cl D P fwd low).length ≤ P := by
  unfold cl
  have := List.length_filter_le (fun m : Nat => decide (low ≤ (m : Int)) && side D fwd m) (List.range P)
  simpa using this

theorem modelL_len (low : Int) (fwd : Bool) (n : Nat) : (modelL D low fwd n P).length ≤ P := by
  unfold modelL
  have := List.length_filter_le (fun m => cand D low fwd m && jn D fwd n m) (List.range P)
  simpa using this
end

end Go.Proofs.Qxb6612538a
