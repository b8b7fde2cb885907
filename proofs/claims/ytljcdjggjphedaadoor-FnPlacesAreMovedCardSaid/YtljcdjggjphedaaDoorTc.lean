/- Bytes ahead of a file: what reading, writing and cutting do behind them. -/
import Derived.Test.YtljcdjggjphedaaDoorZI
namespace Go.Proofs.YtljcdjggjphedaaDoor.Tc
open Go.RowKit Go.Proofs.YtljcdjggjphedaaDoor.Hd Go.Proofs.YtljcdjggjphedaaDoor.Mf
theorem rdE_ahead (q d : List Int) (p : Int) (m : Nat) : rdE false (q ++ d).length (p + (q.length : Int)) m = rdE false d.length p m := by
  unfold rdE
  have e : ((q ++ d).length : Int) = (q.length : Int) + (d.length : Int) := by rw [List.length_append]; push_cast; rfl
  simp only [e]
  by_cases h1 : 0 < m ∧ p = d.length
  · simp [h1]; omega
  · by_cases h2 : (d.length : Int) < p
    · rw [if_neg (by decide), if_neg (by omega), if_pos (by omega), if_neg (by decide), if_neg (by omega), if_pos h2]
    · rw [if_neg (by decide), if_neg (by omega), if_neg (by omega), if_neg (by decide), if_neg (by omega), if_neg h2]
theorem rdD_ahead (q d : List Int) (p : Int) (m : Nat) (hp : 0 ≤ p) : rdD false (q ++ d) (p + (q.length : Int)) m = rdD false d p m := by
  unfold rdD
  rw [rdE_ahead]
  have e : (q ++ d).drop (p + (q.length : Int)).toNat = d.drop p.toNat := by
    rw [show (p + (q.length : Int)).toNat = q.length + p.toNat by omega, List.drop_append]
    simp
  rw [e]
theorem over_ahead (q d b : List Int) (p : Nat) : overB (q ++ d) (q.length + p) b = q ++ overB d p b := by
  unfold overB
  rw [List.take_append, List.drop_append, List.length_append, List.take_of_length_le (show q.length ≤ q.length + p by omega), List.drop_eq_nil_of_le (show q.length ≤ q.length + p + b.length by omega)]
  rw [show q.length + p + b.length - q.length = p + b.length by omega, show q.length + p - q.length = p by omega, show q.length + p - (q.length + d.length) = p - d.length by omega]
  simp
theorem cut_ahead (q d : List Int) (k : Nat) : cutTo (q ++ d) (q.length + k) = q ++ cutTo d k := by
  unfold cutTo
  rw [List.take_append, List.length_append, List.take_of_length_le (show q.length ≤ q.length + k by omega)]
  rw [show q.length + k - q.length = k by omega, show q.length + k - (q.length + d.length) = k - d.length by omega]
  simp
end Go.Proofs.YtljcdjggjphedaaDoor.Tc
