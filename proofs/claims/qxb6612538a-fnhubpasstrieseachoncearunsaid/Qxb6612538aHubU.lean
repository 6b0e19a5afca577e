import Derived.Test.Qxb6612538aHubT
import Derived.Test.Qxb6612538aHubQa
import Derived.Test.Qxb6612538aHubQb
import Derived.Test.Qxb6612538aHubQc
import Derived.Test.Qxb6612538aHubQd
namespace Go.Proofs.Qxb6612538a
open Go.ChangeShapes Go.WideShapes Go.ChangeAt Go.RowKit

section
variable {w0 w : World} {D : ND} {P R Gr Ca Ke Wa Ac : Nat} {run came : Int} {kept : Bool} {v : Value} {W : List Nat} {p : Nat → Prop} {st ps pd : Nat} {sa : Option Addr} {sc M p0 : Nat}

theorem FreshPost.pass {kp : Keep} {AB Tk bq n : Nat} {low : Int} {fwd : Bool} {e : Ending} {w' : World} (hO : ∀ i, i < P → NextOK P i (D.nx i)) (hn : n < P)
    (h : FreshPost kp w0 D P R Gr Ca Ke Wa AB Ac Tk bq run (tgt D P) (frE D P) (intoP D P) fwd n low e w') :
    PassPost kp w0 D P R Gr Ca Ke Wa AB Ac Tk bq run (modelK D low fwd P) (modelL D low fwd n P) ((cl D P fwd low).filter fun m => D.acc m && !jb (tgt D P) fwd n m) e w' := by
  obtain ⟨W, k0, ⟨rfl, hW⟩, h⟩ := h
  rw [candL_eq hO] at hW
  subst hW
  rw [Bool.false_or, cl_any, cl_taken hO fwd low hn] at h
  exact h

theorem hubFresh (hO : ∀ i, i < P → NextOK P i (D.nx i)) (hP : P ≤ 65536) (hg : Graph w0 Gr st ps pd sa sc P M (tgt D P) (frE D P) (toE D P) p0 (intoP D P)) (hp : HP w0 w D P R Gr Ca Ke Wa Ac run came kept v W)
    (hr : (came != run) = true) (hk : ∀ k, p k → k < w.heap.size ∧ k ≠ Ca ∧ k ≠ Ke ∧ k ≠ Wa ∧ v.ownBlock ≠ some k) {n : Nat} (hn : n < P) (low : Int) (fwd : Bool) :
    Calls Try.prog 21 #[.pointer (some ⟨R, 0, none⟩), .int .i64 P, .int .i64 0, .int .i64 n, .int .i64 low, .bool fwd, .slice (some ⟨Ac, 0, none⟩) P P] w
      fun e w' => HubPost ⟨w, p⟩ w0 D P R Gr Ca Ke Wa Ac run (modelK D low fwd P) (modelL D low fwd n P) ((cl D P fwd low).filter fun m => D.acc m && !jb (tgt D P) fwd n m) e w' := by
  have hle : ∀ q : Nat → Bool, ((cl D P fwd low).filter q).length ≤ 65536 := fun q => by
    have h1 := List.length_filter_le q (cl D P fwd low)
    have h2 := cl_len (D := D) (P := P) fwd low
    omega
  have hrl : ∀ q : Nat → Bool, ((List.range P).filter q).length ≤ 65536 := fun q => by
    have h1 := List.length_filter_le q (List.range P)
    simp at h1
    omega
  refine hub21 hp hk ⟨filter_lt (cl_lt fwd low), hle _⟩ fun w1 AB Tk hc hs => ?_
  have hbq : w0.heap.size ≤ w1.heap.size := hs.ps.below.size
  cases fwd with
  | true =>
    have e : tgt D P P = (List.range P).filter D.frm := by simp [tgt]
    refine (pass_fresh_true hc hg hr hs hbq ?_ ?_ n hn low).mono fun e w' h => h.pass hO hn
    · rw [e]; exact filter_lt fun m hm => by simpa using hm
    · rw [e]; exact hrl _
  | false =>
    have e := intoP_map hO
    refine (pass_fresh_false hc hg hr hs hbq ?_ ?_ n hn low).mono fun e w' h => h.pass hO hn
    · intro j hj
      have hm : frE D P ((intoP D P).getD j 0) ∈ (intoP D P).map (frE D P) := List.mem_map.2 ⟨_, by simp [List.getD, List.getElem?_eq_getElem hj], rfl⟩
      rw [e] at hm
      simp at hm
      exact hm.1
    · have : ((intoP D P).map (frE D P)).length ≤ 65536 := by rw [e]; exact hrl _
      simpa using this

theorem hubAgain (hg : Graph w0 Gr st ps pd sa sc P M (tgt D P) (frE D P) (toE D P) p0 (intoP D P)) (hp : HP w0 w D P R Gr Ca Ke Wa Ac run run kept v W)
    (hk : ∀ k, p k → k < w.heap.size ∧ k ≠ Ca ∧ k ≠ Ke ∧ k ≠ Wa ∧ v.ownBlock ≠ some k) {n : Nat} (hn : n < P) (low : Int) (fwd : Bool) :
    Calls Try.prog 21 #[.pointer (some ⟨R, 0, none⟩), .int .i64 P, .int .i64 0, .int .i64 n, .int .i64 low, .bool fwd, .slice (some ⟨Ac, 0, none⟩) P P] w
      fun e w' => HubPost ⟨w, p⟩ w0 D P R Gr Ca Ke Wa Ac run (kept || W.any D.acc) (W.filter fun m => D.acc m && jb (tgt D P) fwd n m) (W.filter fun m => D.acc m && !jb (tgt D P) fwd n m) e w' := by
  refine hub21 hp hk ⟨filter_lt fun m hm => ?_, ?_⟩ fun w1 AB Tk hc hs => ?_
  · obtain ⟨j, hj, rfl⟩ := List.mem_iff_getElem.1 hm
    have := hp.inP j hj
    simpa [List.getD, List.getElem?_eq_getElem hj] using this
  · have h1 := List.length_filter_le (fun m => D.acc m && !jb (tgt D P) fwd n m) W
    have := hp.small
    omega
  · cases fwd with
    | true => exact pass_again_true hc hg hs n hn low
    | false => exact pass_again_false hc hg hs n hn low
end

end Go.Proofs.Qxb6612538a
