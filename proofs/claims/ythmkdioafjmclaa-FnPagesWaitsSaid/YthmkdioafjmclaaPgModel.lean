import Derived.Test.YthmkdioafjmclaaSlData
namespace Go.Proofs.Ythmkdioafjmclaa.PgModel
open Go.RowKit Go.Proofs.Ythmkdioafjmclaa Go.Proofs.Ythmkdioafjmclaa.Sl
set_option linter.unusedVariables false
set_option linter.unusedSimpArgs false


def slack (page off k : Nat) : Nat := page - (off + k) % page
def outs (pend : List UInt8) : List (List UInt8) := if pend = [] then [] else [pend]
def offs (page off : Nat) (pend : List UInt8) : Nat := if pend = [] then off else (off + pend.length) % page
/-- behind the buffer's flush: what is left of a write -/
def rest (page off : Nat) (pend p : List UInt8) : List (List UInt8) × Nat × List UInt8 :=
  if page < p.length then (outs pend ++ [p.take (p.length / page * page)], offs page off pend, p.drop (p.length / page * page)) else (outs pend, offs page off pend, p)
/-- a write of p: what is handed on, the new offset, what waits -/
def wr (page B off : Nat) (pend p : List UInt8) : List (List UInt8) × Nat × List UInt8 :=
  if p.length + pend.length ≤ B then ([], off, pend ++ p)
  else if slack page off pend.length ≠ page then
    (if p.length < slack page off pend.length then ([], off, pend ++ p) else rest page off (pend ++ p.take (slack page off pend.length)) (p.drop (slack page off pend.length)))
  else rest page off pend p
/-- what the buffer has room for -/
def Fit (page B off k : Nat) : Prop := k + (slack page off k) % page ≤ B + page
theorem slack_pos {page off k : Nat} (hp : 0 < page) : 0 < slack page off k ∧ slack page off k ≤ page := by
  have := Nat.mod_lt (off + k) hp
  unfold slack; omega
theorem mod_one {a page : Nat} (h : a < page) : a % page = a := Nat.mod_eq_of_lt h
theorem fit_small {page B off k : Nat} (hp : 0 < page) (h : k ≤ B) : Fit page B off k := by
  have := Nat.mod_lt (slack page off k) hp
  unfold Fit; omega
theorem slack_add {page off k n : Nat} (hp : 0 < page) (h1 : n < slack page off k) (h2 : slack page off k ≠ page) : slack page off (k + n) = slack page off k - n := by
  unfold slack at *
  have hm := Nat.mod_lt (off + k) hp
  have e : (off + (k + n)) % page = (off + k) % page + n := by
    rw [← Nat.add_assoc, Nat.add_mod, Nat.mod_eq_of_lt (a := n) (by omega)]
    exact Nat.mod_eq_of_lt (by omega)
  rw [e]; omega
theorem wr_fit {page B off : Nat} {pend p : List UInt8} (hp : 0 < page) (hB : page ≤ B) (h : Fit page B off pend.length) : Fit page B (wr page B off pend p).2.1 (wr page B off pend p).2.2.length := by
  have hs := slack_pos (off := off) (k := pend.length) hp
  have hrest : ∀ q r, Fit page B (rest page off q r).2.1 (rest page off q r).2.2.length := by
    intro q r
    unfold rest
    split
    · refine fit_small hp ?_
      simp only [List.length_drop]
      have := Nat.mod_lt r.length hp
      have e := Nat.mod_add_div r.length page
      rw [Nat.mul_comm] at e
      omega
    · exact fit_small hp (by dsimp only; omega)
  unfold wr
  split
  · exact fit_small hp (by simp; omega)
  · split
    · rename_i hne
      split
      · rename_i hlt
        unfold Fit at *
        simp only [List.length_append]
        rw [slack_add hp hlt hne]
        rw [Nat.mod_eq_of_lt (by omega)] at h
        rw [Nat.mod_eq_of_lt (by omega)]
        omega
      · exact hrest _ _
    · exact hrest _ _
def tot (l : List (List UInt8)) : Nat := (l.map List.length).sum
theorem tot_append (a b : List (List UInt8)) : tot (a ++ b) = tot a + tot b := by simp [tot]
theorem outs_tot (q : List UInt8) : tot (outs q) = q.length := by unfold outs; split <;> simp_all [tot]
theorem rest_tot {page off : Nat} {q r : List UInt8} : tot (rest page off q r).1 + (rest page off q r).2.2.length = q.length + r.length := by
  unfold rest
  split
  · have : r.length / page * page ≤ r.length := Nat.div_mul_le_self _ _
    simp only [tot_append, outs_tot, List.length_drop]
    simp [tot]
    omega
  · simp [outs_tot]
/-- what waited and what came: handed on, or waiting -/
theorem wr_tot {page B off : Nat} {pend p : List UInt8} : tot (wr page B off pend p).1 + (wr page B off pend p).2.2.length = pend.length + p.length := by
  unfold wr
  split
  · simp [tot]
  · split
    · split
      · simp [tot]
      · rename_i h
        rw [rest_tot]
        simp
        omega
    · rw [rest_tot]
theorem wr_none {page B off : Nat} {pend p : List UInt8} (h : p.length + pend.length ≤ B) : (wr page B off pend p).1 = [] := by unfold wr; rw [if_pos h]
theorem fit_le {page B off k : Nat} (h : Fit page B off k) : k ≤ B + page := by unfold Fit at h; omega
def str (l : List UInt8) : ByteArray := ⟨l.toArray⟩
def strs (ss : List ByteArray) : List Value := ss.map .string

end Go.Proofs.Ythmkdioafjmclaa.PgModel
