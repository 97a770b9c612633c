import Derived.Test.YtibopfemknnocaaFlt4
namespace Go.Proofs.Ytibopfemknnocaa.Flt5
open Go.RowKit Go.Proofs.Ytibopfemknnocaa Go.Proofs.Ytibopfemknnocaa.Sl Go.Proofs.Ytibopfemknnocaa.KvRow Go.Proofs.Ytibopfemknnocaa.Flt Go.Proofs.Ytibopfemknnocaa.Flt2 Go.Proofs.Ytibopfemknnocaa.Flt3 Go.Proofs.Ytibopfemknnocaa.Flt4
set_option linter.unusedVariables false


theorem rangeIn_spec {v : List Value} {ca : Option Addr} {cn cc : Nat} {mm xm mc xc : Int} (hv : Fits.IsReq v ca cn cc mm xm mc xc) : Does Try.prog 32 [.agg v.toArray] [] (fun u L => ∃ rq, u = .pointer (some ⟨rq, 0, none⟩) ∧ L = [Req rq mm xm mc xc]) := by
  intro W F w hs
  refine (Range.range_in w v ca cn cc mm xm mc xc hv).mono ?_
  rintro e w' ⟨b, rfl, hge, -, ⟨h1, h2, h3, h4⟩, hb⟩
  refine ⟨_, _, rfl, ⟨b, rfl, rfl⟩, Sat.fresh hs hb hge ?_ (by simp)⟩
  simp only [List.mem_cons, List.not_mem_nil, or_false]
  rintro p (rfl | rfl | rfl | rfl) <;> assumption
theorem IsReq.len {v : List Value} {ca : Option Addr} {cn cc : Nat} {mm xm mc xc : Int} (hv : Fits.IsReq v ca cn cc mm xm mc xc) : v.length = 21 := by
  obtain ⟨_, _, _, _, _, _, _, _, _, _, _, _, _, _, _, _, _, _, _, _, rfl⟩ := hv; rfl
theorem IsReq.at {v : List Value} {ca : Option Addr} {cn cc : Nat} {mm xm mc xc : Int} (hv : Fits.IsReq v ca cn cc mm xm mc xc) : v[9]? = some (.int .i64 mm) ∧ v[10]? = some (.int .i64 xm) ∧ v[11]? = some (.int .i64 mc) ∧ v[12]? = some (.int .i64 xc) := by
  obtain ⟨_, _, _, _, _, _, _, _, _, _, _, _, _, _, _, _, _, _, _, _, rfl⟩ := hv; exact ⟨rfl, rfl, rfl, rfl⟩
def okLo (mm mc : Int) (x : KV) : Bool := (decide (mm = 0) || decide (mm ≤ x.md)) && (decide (mc = 0) || decide (mc ≤ x.cr))
def okHi (xm xc : Int) (x : KV) : Bool := (decide (xm = 0) || decide (x.md ≤ xm)) && (decide (xc = 0) || decide (x.cr ≤ xc))
def keepl (mm xm mc xc : Int) (l : List KV) : List KV := l.filter fun x => okLo mm mc x && okHi xm xc x
theorem stg_map (b : Bool) (f : KV → Bool) (qs : List (Nat × KV)) : (stg b f qs).map (·.2) = (qs.map (·.2)).filter (fun x => !b || !f x) := by
  unfold stg
  cases b
  · exact (List.filter_eq_self.2 (by simp)).symm
  · simp [List.filter_map, Function.comp_def]
theorem s4_map (mm xm mc xc : Int) (qs : List (Nat × KV)) : (s4 mm xm mc xc qs).map (·.2) = keepl mm xm mc xc (qs.map (·.2)) := by
  simp only [s4, s3, s2, s1, stg_map, List.filter_filter, keepl]
  congr 1
  funext x
  simp only [pred, okLo, okHi]
  rw [Bool.eq_iff_iff]
  simp
  constructor <;> intro h <;> omega
set_option maxRecDepth 100000 in
set_option maxHeartbeats 1000000 in
theorem filtered_spec (A : HProp) (l : List KV) (hl : l.length ≤ 1000) (va : Value) (hva : KvsIn A va l) (v : List Value) {ca : Option Addr} {cn cc : Nat} {mm xm mc xc : Int} (hv : Fits.IsReq v ca cn cc mm xm mc xc) : Does Try.prog 15 [va, .agg (v).toArray] [A] (fun v L => ∃ u, v = u ∧ L = [Own 34 6 u (keepl mm xm mc xc l).length (KvRow.flat (keepl mm xm mc xc l)), A]) := by
  refine Does.enter 11 Try.func15 rfl rfl rfl fun W F => ?_
  show WPc _ _ _ _ _ [(0, va), (1, .agg (v).toArray)] (A :: F)
  refine WPc.seq ?_
  refine WPc.region ?_
  refine WP.eff rfl rfl rfl (Eff.box (C := v) rfl rfl rfl) ?_
  rintro _ _ ⟨b1, rfl, rfl⟩
  refine WP.val rfl rfl rfl (Val.assign rfl rfl) ?_
  refine WP.nil ?_
  refine Out.next ?_
  refine WPc.seq ?_
  refine WPD.start (Sat W [Blk b1 v 25]) Ty.mixed ?_
  refine WPD.take 0 rfl rfl rfl rfl (by kernel_rfl) (by kernel_rfl) (by kernel_rfl) (fun _ _ _ h => h) (fun w h => (h).dropEnd (L := [_])) (Val.move rfl rfl) ?_
  refine WPD.take 2 rfl rfl rfl rfl (by kernel_rfl) (by kernel_rfl) (by kernel_rfl) (fun _ _ _ h => h) (fun w h => (h).dropEnd (L := [_])) (Val.loadAgg (cs := v) rfl Ty.ag25 rfl (IsReq.len hv) (fun w h => (Holds.cell_range (h.at 0 rfl) (by simp)))) ?_
  refine WPD.perm pl1 ?_
  refine WPD.step 1 (by kernel_rfl) rfl rfl rfl rfl (Eff.call rfl rfl Try.call36 (kvsIn_spec A l hl va hva)) ?_
  rintro v1 _ ⟨_, ⟨qs, hq, rfl⟩, rfl⟩
  refine ⟨(fun w h => ((h.perm pl3)).dropEnd (L := [_])), ?_⟩
  show WPD _ _ _ _ _ _ _ _ _ (Own 70 1 v1 qs.length (row qs) :: Kvps qs :: A :: Blk b1 v 25 :: F)
  have hqn : qs.length ≤ 1000 := by have := congrArg List.length hq; simp at this; omega
  refine WPD.step 3 (by kernel_rfl) rfl rfl rfl rfl (Eff.call rfl rfl Try.call32 (rangeIn_spec hv)) ?_
  rintro _ _ ⟨_, ⟨rq, rfl, rfl⟩, rfl⟩
  refine ⟨(fun w h => ((h.perm pl4)).dropEnd (L := [_])), ?_⟩
  show WPD _ _ _ _ _ _ _ _ _ (Req rq mm xm mc xc :: Own 70 1 v1 qs.length (row qs) :: Kvps qs :: A :: Blk b1 v 25 :: F)
  refine WPD.perm pl1 ?_
  refine WPD.perm pl1 ?_
  refine WPD.perm pl2 ?_
  refine WPD.perm pl2 ?_
  refine WPD.step 4 (by kernel_rfl) rfl rfl rfl rfl (Eff.call rfl rfl Try.call35 (zz_spec v1 rq mm xm mc xc qs hqn)) ?_
  rintro u2 _ ⟨_, ⟨_, rfl, rfl⟩, rfl⟩
  refine ⟨(fun w h => ((h.perm pl3)).dropEnd (L := [_])), ?_⟩
  show WPD _ _ _ _ _ _ _ _ _ (Own 70 1 u2 ((s4 mm xm mc xc qs).length) (row (s4 mm xm mc xc qs)) :: Kvps qs :: A :: Blk b1 v 25 :: F)
  refine WPD.perm pl1 ?_
  refine WPD.conv (fun w h => (kvps_sub (qs' := s4 mm xm mc xc qs) h s4_mem)) ?_
  show WPD _ _ _ _ _ _ _ _ _ (Kvps (s4 mm xm mc xc qs) :: Kvps qs :: Own 70 1 u2 ((s4 mm xm mc xc qs).length) (row (s4 mm xm mc xc qs)) :: A :: Blk b1 v 25 :: F)
  refine WPD.perm pl2 ?_
  refine WPD.step 5 (by kernel_rfl) rfl rfl rfl rfl (Eff.call rfl rfl Try.call34 (kvsOf_spec u2 (s4 mm xm mc xc qs) (Nat.le_trans (s4_len _ _ _ _ _) hqn))) ?_
  rintro u3 _ ⟨_, ⟨_, rfl, rfl⟩, rfl⟩
  refine ⟨(fun w h => ((h.perm pl4)).dropEnd (L := [_])), ?_⟩
  show WPD _ _ _ _ _ _ _ _ _ (Own 34 6 u3 ((s4 mm xm mc xc qs).length) (KvRow.flat ((s4 mm xm mc xc qs).map (·.2))) :: Kvps (s4 mm xm mc xc qs) :: Kvps qs :: A :: Blk b1 v 25 :: F)
  refine WPD.take 6 rfl rfl rfl rfl (by kernel_rfl) (by kernel_rfl) (by kernel_rfl) (fun _ _ _ h => h) (fun w h => ((h.perm pl4)).dropEnd (L := [_])) (Val.assign rfl rfl) ?_
  refine WPD.done (by kernel_rfl) ?_
  refine Out.next ?_
  refine WPc.ret ?_
  refine Out.perm pl1 ?_
  refine Out.drop ?_
  refine Out.perm pl1 ?_
  refine Out.drop ?_
  refine Out.perm pl2 ?_
  refine Out.drop ?_
  exact Out.ret1 (L' := [Own 34 6 u3 (keepl mm xm mc xc l).length (KvRow.flat (keepl mm xm mc xc l)), A]) Try.results15 rfl ⟨u3, rfl, rfl⟩ (fun w h => by rw [← hq, ← s4_map, List.length_map]; exact h)

end Go.Proofs.Ytibopfemknnocaa.Flt5
