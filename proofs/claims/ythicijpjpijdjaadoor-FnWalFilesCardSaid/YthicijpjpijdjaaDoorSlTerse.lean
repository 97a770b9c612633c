import Derived.Test.YthicijpjpijdjaaDoorSlPtr
namespace Go.Proofs.YthicijpjpijdjaaDoor.Sl
open Go.RowKit Go.Lib
set_option linter.unusedSectionVars false
set_option linter.unusedVariables false
section
variable [Dfs]
variable {P : Program} {W : World} {ops : Array Oper} {Q : Exit → Act → World → Prop} {rest : List Oper} {n : Nat} {l : List (Nat × Value)} {L : List HProp} {o : Oper}
/-! short forms of the rules, for walks that would grow too long -/
theorem WPc.c1 {c : Code} {A B : HProp} (hi : ∀ w, Sat W (A :: L) w → Sat W (B :: L) w) (h : WPc P W c Q n l (B :: L)) : WPc P W c Q n l (A :: L) := h.conv hi
theorem WP.c1 {A B : HProp} (hi : ∀ w, Sat W (A :: L) w → Sat W (B :: L) w) (h : WP P W ops Q rest n l (B :: L)) : WP P W ops Q rest n l (A :: L) := h.conv hi
theorem Out.c1 {e : Exit} {A B : HProp} (hi : ∀ w, Sat W (A :: L) w → Sat W (B :: L) w) (h : Out W Q e n l (B :: L)) : Out W Q e n l (A :: L) := h.conv hi
theorem WPD.c1 {S : World → Prop} {fuel : Nat} {listed : Array Bool} {A B : HProp} (hi : ∀ w, Sat W (A :: L) w → Sat W (B :: L) w) (h : WPD P W ops Q S fuel listed n l (B :: L)) : WPD P W ops Q S fuel listed n l (A :: L) := h.conv hi
theorem WPD.s0 {id : Nat} {ops : Array Oper} (hm : P.follows .mixedOrders = true) (h : WPD P W ops Q (Sat W L) ops.size (Array.replicate ops.size false) n l L) : WPc P W (.region id ops true) Q n l L := WPD.start _ hm h
theorem WPD.tM {S : World → Prop} {fuel : Nat} {listed : Array Bool} {d : Tmp} {v : Value} (i : Nat) (hi : ops[i]? = some o) (hg : o.guard = none) (hd : o.dst = some d) (hlt : Nat.ble (d + 1) n = true)
    (hv : Val P n l (fun _ => True) o v)
    (h : WPD P W ops Q S fuel (listed.setIfInBounds i true) n ((d, v) :: l) L)
    (hns : Region.noSelect ops = true := by kernel_rfl) (hfree : Region.free .any ops listed i = true := by kernel_rfl) (hcl : closedB ops listed = true := by kernel_rfl) (hr : (Region.ready .any ops listed).contains i = true := by kernel_rfl)
    (hQ : ∀ c a w, Q (.panic c) (a.put (some d) v) w → Q (.panic c) a w := by exact fun _ _ _ h => h) (hS : ∀ w, Sat W L w → S w := by exact fun _ h => h) : WPD P W ops Q S (fuel + 1) listed n l L :=
  WPD.takeM i hi hg hd hlt hns hfree hcl hr hQ hS hv h
theorem WPD.tS {S : World → Prop} {fuel : Nat} {listed : Array Bool} {d : Tmp} {v : Value} (i : Nat) (hi : ops[i]? = some o) (hg : o.guard = none) (hd : o.dst = some d) (hlt : Nat.ble (d + 1) n = true)
    (hS : ∀ w, Sat W L w → S w) (hv : Val P n l (fun _ => True) o v)
    (h : WPD P W ops Q S fuel (listed.setIfInBounds i true) n ((d, v) :: l) L)
    (hns : Region.noSelect ops = true := by kernel_rfl) (hfree : Region.free .any ops listed i = true := by kernel_rfl) (hcl : closedB ops listed = true := by kernel_rfl) (hr : (Region.ready .any ops listed).contains i = true := by kernel_rfl)
    (hQ : ∀ c a w, Q (.panic c) (a.put (some d) v) w → Q (.panic c) a w := by exact fun _ _ _ h => h) : WPD P W ops Q S (fuel + 1) listed n l L :=
  WPD.takeM i hi hg hd hlt hns hfree hcl hr hQ hS hv h
theorem WPD.tL {S : World → Prop} {fuel : Nat} {listed : Array Bool} {d : Tmp} {v : Value} (i : Nat) (hi : ops[i]? = some o) (hg : o.guard = none) (hd : o.dst = some d) (hlt : Nat.ble (d + 1) n = true)
    (hS : ∀ w, Sat W L w → S w) (hv : Val P n l S o v)
    (h : WPD P W ops Q S fuel (listed.setIfInBounds i true) n ((d, v) :: l) L)
    (hns : Region.noSelect ops = true := by kernel_rfl) (hfree : Region.free .any ops listed i = true := by kernel_rfl) (hcl : closedB ops listed = true := by kernel_rfl) (hr : (Region.ready .any ops listed).contains i = true := by kernel_rfl)
    (hQ : ∀ c a w, Q (.panic c) (a.put (some d) v) w → Q (.panic c) a w := by exact fun _ _ _ h => h) (hmf : memFree ops i = false := by kernel_rfl) : WPD P W ops Q S (fuel + 1) listed n l L :=
  WPD.take i hi hg hd hlt hns hfree hcl hr hQ hmf hS hv h
theorem WPc.sr {id : Nat} {l0 : List Oper} {y : Code} (h : WP P W l0.toArray (Exit.then (y.wp P Q) Q) l0 n l L) : WPc P W (.seq (.region id l0.toArray false) y) Q n l L := WPc.seq (WPc.region h)
theorem WP.nx {y : Code} (h : WPc P W y Q n l L) : WP P W ops (Exit.then (y.wp P Q) Q) [] n l L := WP.nil (Out.next h)
theorem WP.ns {x y : Code} (h : WPc P W x (Exit.then (y.wp P Q) Q) n l L) : WP P W ops (Exit.then ((Code.seq x y).wp P Q) Q) [] n l L := WP.nil (Out.next (WPc.seq h))
theorem Out.ns {x y : Code} (h : WPc P W x (Exit.then (y.wp P Q) Q) n l L) : Out W (Exit.then ((Code.seq x y).wp P Q) Q) .normal n l L := Out.next (WPc.seq h)
end
end Go.Proofs.YthicijpjpijdjaaDoor.Sl
