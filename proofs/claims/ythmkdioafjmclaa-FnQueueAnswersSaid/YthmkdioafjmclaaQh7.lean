import Derived.Test.YthmkdioafjmclaaQh6
namespace Go.Proofs.Ythmkdioafjmclaa.Qh7
open Go.RowKit Go.Proofs.Ythmkdioafjmclaa Go.Proofs.Ythmkdioafjmclaa.Sl Go.Proofs.Ythmkdioafjmclaa.Qm Go.Proofs.Ythmkdioafjmclaa.Qh Go.Proofs.Ythmkdioafjmclaa.Qh2 Go.Proofs.Ythmkdioafjmclaa.Qh3 Go.Proofs.Ythmkdioafjmclaa.Qh4 Go.Proofs.Ythmkdioafjmclaa.Qh5 Go.Proofs.Ythmkdioafjmclaa.Qh6
set_option linter.unusedVariables false
set_option linter.unusedSimpArgs false
set_option linter.unusedSectionVars false


def pf (p : Nat × Int × Nat) : Value × Value := (.int .i64 p.2.1, .pointer (some ⟨p.1, 0, none⟩))
def MapQ (kvs : List (Value × Value)) (ks : List (Nat × Int × Nat)) : Prop := kvs.Perm (ks.map pf)
theorem idx_set {q : List QI} {i : Nat} {x y : QI} (h : Idx q) (hx : q[i]? = some x) (hy : y.ix = x.ix) : Idx (q.set i y) := fun k z hz => by
  rw [List.getElem?_set] at hz
  split at hz
  · rename_i e
    subst e
    split at hz
    · cases hz; rw [hy]; exact h _ x hx
    · cases hz
  · exact h k z hz
theorem tm_set {q : List QI} {i k : Nat} {y : QI} (h : k ≠ i) : tm (q.set i y) k = tm q k := by
  unfold tm; rw [List.getElem?_set_ne (Ne.symm h)]
theorem set_ptr {q : List QI} {i : Nat} {x y : QI} (hx : q[i]? = some x) (hy : y.ptr = x.ptr) : (q.set i y).map QI.ptr = q.map QI.ptr := by
  rw [List.map_set, hy]
  apply List.ext_getElem?
  intro k
  rw [List.getElem?_set]
  split
  · rename_i e
    subst e
    rw [List.getElem?_map, hx]
    simp [(List.getElem?_eq_some_iff.1 hx).1]
  · rfl
theorem item_ix {x : QI} {w : World} (h : Holds (Blk x.b x.cells 134) w) : w.cell? ⟨x.b, 4, none⟩ = some (.int .i64 x.ix) := by rw [h.cell]; rfl
theorem item_key {x z : QI} {w : World} (h : Holds (Blk x.b x.cells 134) w) (hk : x.key = z.key) : w.cell? ⟨z.b, 0, none⟩ = some (.int .i64 z.id) := by
  have h1 : x.b = z.b := congrArg (·.1) hk
  have h2 : x.id = z.id := congrArg (·.2.1) hk
  rw [← h1, ← h2, h.cell]; rfl
theorem mem_kvs {kvs : List (Value × Value)} {q : List QI} {i : Nat} {x : QI} (h : MapQ kvs (q.map QI.key)) (hx : q[i]? = some x) : ((.int .i64 x.id, .pointer (some ⟨x.b, 0, none⟩)) : Value × Value) ∈ kvs :=
  h.mem_iff.2 (List.mem_map.2 ⟨x.key, List.mem_map.2 ⟨x, List.mem_of_getElem? hx, rfl⟩, rfl⟩)
theorem miss_kvs {kvs : List (Value × Value)} {q : List QI} {id : Int} (h : MapQ kvs (q.map QI.key)) (hx : ∀ x ∈ q, x.id ≠ id) : ∀ p ∈ kvs, p.1 ≠ Value.int .i64 id := fun p hp => by
  obtain ⟨k, hk, rfl⟩ := List.mem_map.1 (h.mem_iff.1 hp)
  obtain ⟨x, hx2, rfl⟩ := List.mem_map.1 hk
  intro e
  have : x.id = id := by simpa [pf, QI.key] using e
  exact hx x hx2 this
theorem find_key {q q' : List QI} {z : QI} {m : Nat} (h : Same q q' m) (hz : z ∈ q) : ∃ (k : Nat) (x : QI), q'[k]? = some x ∧ x.key = z.key := by
  have h1 : z.key ∈ q'.map QI.key := h.perm.mem_iff.2 (List.mem_map.2 ⟨z, hz, rfl⟩)
  obtain ⟨x, hx, he⟩ := List.mem_map.1 h1
  obtain ⟨k, hk⟩ := List.getElem?_of_mem hx
  exact ⟨k, x, hk, he⟩
set_option maxRecDepth 100000 in
set_option maxHeartbeats 1000000 in
theorem reg_old (nb mb rb cap n : Nat) (sp : List Value) (q : List QI) (kvs : List (Value × Value)) (hq : q.length = n) (hn : n ≤ 1000000) (hix : Idx q) (hok : Ok (tm q) n) (hmk : MapQ kvs (q.map QI.key)) (i : Nat) (x : QI) (hx : q[i]? = some x) (zb t : Nat) : Does Try.prog 36 [.pointer (some ⟨nb, 0, none⟩), .pointer (some ⟨zb, 0, none⟩)] [Blk nb [.map (some mb), .slice (some ⟨rb, 0, none⟩) n cap] 132, Blk rb (q.map QI.ptr ++ sp) 90, Its q, Mapk mb (.int .i64) (kvs), Blk zb [.int .i64 (x.id), .int .i64 ((((t / 1000000000) : Nat) : Int)), .int .i64 ((((t % 1000000000) : Nat) : Int)), .bool true, .int .i64 0] 134] (fun v L => ∃ q', Same (q.set i { x with t := t }) q' n ∧ Ok (tm q') n ∧ v = .tuple #[] ∧ L = [Blk nb [.map (some mb), .slice (some ⟨rb, 0, none⟩) n cap] 132, Blk rb (q'.map QI.ptr ++ sp) 90, Its q', Mapk mb (.int .i64) kvs]) := by
  have hmem := mem_kvs hmk hx
  have hi1 := (List.getElem?_eq_some_iff.1 hx).1
  refine Does.enter 51 Try.func36 rfl rfl rfl fun W F => ?_
  show WPc _ _ _ _ _ [(0, .pointer (some ⟨nb, 0, none⟩)), (1, .pointer (some ⟨zb, 0, none⟩))] (Blk nb [.map (some mb), .slice (some ⟨rb, 0, none⟩) n cap] 132 :: Blk rb (q.map QI.ptr ++ sp) 90 :: Its q :: Mapk mb (.int .i64) (kvs) :: Blk zb [.int .i64 (x.id), .int .i64 ((((t / 1000000000) : Nat) : Int)), .int .i64 ((((t % 1000000000) : Nat) : Int)), .bool true, .int .i64 0] 134 :: F)
  refine WPc.seq ?_
  refine WPD.start (Sat W (Blk nb [.map (some mb), .slice (some ⟨rb, 0, none⟩) n cap] 132 :: Blk rb (q.map QI.ptr ++ sp) 90 :: Its q :: Mapk mb (.int .i64) (kvs) :: Blk zb [.int .i64 (x.id), .int .i64 ((((t / 1000000000) : Nat) : Int)), .int .i64 ((((t % 1000000000) : Nat) : Int)), .bool true, .int .i64 0] 134 :: F)) Ty.mixed ?_
  refine WPD.takeM 0 rfl rfl rfl rfl (by kernel_rfl) (by kernel_rfl) (by kernel_rfl) (by kernel_rfl) (fun _ _ _ h => h) (fun _ h => h) (Val.move rfl rfl) ?_
  refine WPD.takeM 1 rfl rfl rfl rfl (by kernel_rfl) (by kernel_rfl) (by kernel_rfl) (by kernel_rfl) (fun _ _ _ h => h) (fun _ h => h) (Val.nilCheck rfl rfl) ?_
  refine WPD.takeM 2 rfl rfl rfl rfl (by kernel_rfl) (by kernel_rfl) (by kernel_rfl) (by kernel_rfl) (fun _ _ _ h => h) (fun _ h => h) (Val.fieldAddr (j := 0) rfl Ty.fo132_0 rfl rfl) ?_
  refine WPD.take 3 rfl rfl rfl rfl (by kernel_rfl) (by kernel_rfl) (by kernel_rfl) (by kernel_rfl) (fun _ _ _ h => h) (by kernel_rfl) (fun _ h => h) (Val.load rfl Ty.sc128 rfl (fun w h => h.cell 0 rfl rfl)) ?_
  refine WPD.takeM 4 rfl rfl rfl rfl (by kernel_rfl) (by kernel_rfl) (by kernel_rfl) (by kernel_rfl) (fun _ _ _ h => h) (fun _ h => h) (Val.move rfl rfl) ?_
  refine WPD.takeM 5 rfl rfl rfl rfl (by kernel_rfl) (by kernel_rfl) (by kernel_rfl) (by kernel_rfl) (fun _ _ _ h => h) (fun _ h => h) (Val.nilCheck rfl rfl) ?_
  refine WPD.takeM 6 rfl rfl rfl rfl (by kernel_rfl) (by kernel_rfl) (by kernel_rfl) (by kernel_rfl) (fun _ _ _ h => h) (fun _ h => h) (Val.fieldAddr (j := 0) rfl Ty.fo134_0 rfl rfl) ?_
  refine WPD.take 7 rfl rfl rfl rfl (by kernel_rfl) (by kernel_rfl) (by kernel_rfl) (by kernel_rfl) (fun _ _ _ h => h) (by kernel_rfl) (fun _ h => h) (Val.load rfl Ty.sc92 rfl (fun w h => h.cell 4 rfl rfl)) ?_
  refine WPD.take 8 rfl rfl rfl rfl (by kernel_rfl) (by kernel_rfl) (by kernel_rfl) (by kernel_rfl) (fun _ _ _ h => h) (by kernel_rfl) (fun _ h => h) (Val.lookHit (v := .pointer (some ⟨x.b, 0, none⟩)) rfl Ty2.mp128 Ty2.zv90 rfl rfl rfl (fun w h => h.at 3 rfl) hmem) ?_
  refine WPD.takeM 9 rfl rfl rfl rfl (by kernel_rfl) (by kernel_rfl) (by kernel_rfl) (by kernel_rfl) (fun _ _ _ h => h) (fun _ h => h) (Val.move rfl rfl) ?_
  refine WPD.take 10 rfl rfl rfl rfl (by kernel_rfl) (by kernel_rfl) (by kernel_rfl) (by kernel_rfl) (fun _ _ _ h => h) (by kernel_rfl) (fun _ h => h) (Val.extract rfl rfl rfl) ?_
  refine WPD.take 11 rfl rfl rfl rfl (by kernel_rfl) (by kernel_rfl) (by kernel_rfl) (by kernel_rfl) (fun _ _ _ h => h) (by kernel_rfl) (fun _ h => h) (Val.extract rfl rfl rfl) ?_
  refine WPD.takeM 12 rfl rfl rfl rfl (by kernel_rfl) (by kernel_rfl) (by kernel_rfl) (by kernel_rfl) (fun _ _ _ h => h) (fun _ h => h) (Val.assign rfl rfl) ?_
  refine WPD.takeM 13 rfl rfl rfl rfl (by kernel_rfl) (by kernel_rfl) (by kernel_rfl) (by kernel_rfl) (fun _ _ _ h => h) (fun _ h => h) (Val.assign rfl rfl) ?_
  refine WPD.done (by kernel_rfl) ?_
  refine Out.next ?_
  refine WPc.seq ?_
  refine WPc.region ?_
  refine WP.val rfl rfl rfl (Val.move rfl rfl) ?_
  refine WP.nil ?_
  refine Out.next ?_
  refine WPc.condT rfl rfl ?_
  refine WPc.seq ?_
  refine WPc.region ?_
  refine WP.val rfl rfl rfl (Val.move rfl rfl) ?_
  refine WP.val rfl rfl rfl (Val.move rfl rfl) ?_
  refine WP.val rfl rfl rfl (Val.nilCheck rfl rfl) ?_
  refine WP.val rfl rfl rfl (Val.fieldAddr (j := 1) rfl Ty.fo134_1 rfl rfl) ?_
  refine WP.val rfl rfl rfl (Val.loadAgg (cs := [.int .i64 ((((t / 1000000000) : Nat) : Int)), .int .i64 ((((t % 1000000000) : Nat) : Int)), .bool true]) rfl Ty.ag94 rfl rfl (fun w h => h.range 4 rfl rfl)) ?_
  refine WP.val rfl rfl rfl (Val.nilCheck rfl rfl) ?_
  refine WP.val rfl rfl rfl (Val.fieldAddr (j := 1) rfl Ty.fo134_1 rfl rfl) ?_
  refine WP.perm pl2 ?_
  refine WP.conv (M := Blk x.b [.int .i64 (x.id), .int .i64 ((((x.t / 1000000000) : Nat) : Int)), .int .i64 ((((x.t % 1000000000) : Nat) : Int)), .bool true, .int .i64 (x.ix)] 134 :: Its (q.eraseIdx i) :: Blk nb [.map (some mb), .slice (some ⟨rb, 0, none⟩) n cap] 132 :: Blk rb (q.map QI.ptr ++ sp) 90 :: Mapk mb (.int .i64) (kvs) :: Blk zb [.int .i64 (x.id), .int .i64 ((((t / 1000000000) : Nat) : Int)), .int .i64 ((((t % 1000000000) : Nat) : Int)), .bool true, .int .i64 0] 134 :: F) (fun w h => its_out hx h) ?_
  refine WP.eff0 rfl rfl (Eff.storeAgg (cs := [.int .i64 ((((t / 1000000000) : Nat) : Int)), .int .i64 ((((t % 1000000000) : Nat) : Int)), .bool true]) (C' := [.int .i64 (x.id), .int .i64 ((((t / 1000000000) : Nat) : Int)), .int .i64 ((((t % 1000000000) : Nat) : Int)), .bool true, .int .i64 (x.ix)]) rfl Ty.ag94 rfl rfl rfl rfl (by simp) rfl) ?_
  rintro _ _ rfl
  refine WP.nil ?_
  refine Out.next ?_
  refine WPc.perm pl1 ?_
  refine WPc.perm pl1 ?_
  refine WPc.conv (M := Its (q.set i { x with t := t }) :: Blk nb [.map (some mb), .slice (some ⟨rb, 0, none⟩) n cap] 132 :: Blk rb (q.map QI.ptr ++ sp) 90 :: Mapk mb (.int .i64) (kvs) :: Blk zb [.int .i64 (x.id), .int .i64 ((((t / 1000000000) : Nat) : Int)), .int .i64 ((((t % 1000000000) : Nat) : Int)), .bool true, .int .i64 0] 134 :: F) (fun w h => its_in (q := q) { x with t := t } (by first | omega | (simp [s1]; omega) | (simp; omega)) h) ?_
  refine WPc.perm pl2 ?_
  refine WPc.conv (M := Blk rb (((q.set i { x with t := t })).map QI.ptr ++ sp) 90 :: Its ((q.set i { x with t := t })) :: Blk nb [.map (some mb), .slice (some ⟨rb, 0, none⟩) n cap] 132 :: Mapk mb (.int .i64) (kvs) :: Blk zb [.int .i64 (x.id), .int .i64 ((((t / 1000000000) : Nat) : Int)), .int .i64 ((((t % 1000000000) : Nat) : Int)), .bool true, .int .i64 0] 134 :: F) (fun w h => by rw [set_ptr (y := { x with t := t }) hx rfl]; exact h) ?_
  have hx1 : (q.set i { x with t := t })[i]? = some { x with t := t } := by rw [List.getElem?_set_self (by omega)]
  refine WPD.start (Sat W (Blk rb (((q.set i { x with t := t })).map QI.ptr ++ sp) 90 :: Its ((q.set i { x with t := t })) :: Blk nb [.map (some mb), .slice (some ⟨rb, 0, none⟩) n cap] 132 :: Mapk mb (.int .i64) (kvs) :: Blk zb [.int .i64 (x.id), .int .i64 ((((t / 1000000000) : Nat) : Int)), .int .i64 ((((t % 1000000000) : Nat) : Int)), .bool true, .int .i64 0] 134 :: F)) Ty.mixed ?_
  refine WPD.takeM 0 rfl rfl rfl rfl (by kernel_rfl) (by kernel_rfl) (by kernel_rfl) (by kernel_rfl) (fun _ _ _ h => h) (fun _ h => h) (Val.move rfl rfl) ?_
  refine WPD.takeM 1 rfl rfl rfl rfl (by kernel_rfl) (by kernel_rfl) (by kernel_rfl) (by kernel_rfl) (fun _ _ _ h => h) (fun _ h => h) (Val.nilCheck rfl rfl) ?_
  refine WPD.takeM 2 rfl rfl rfl rfl (by kernel_rfl) (by kernel_rfl) (by kernel_rfl) (by kernel_rfl) (fun _ _ _ h => h) (fun _ h => h) (Val.fieldAddr (j := 1) rfl Ty.fo132_1 rfl rfl) ?_
  refine WPD.take 3 rfl rfl rfl rfl (by kernel_rfl) (by kernel_rfl) (by kernel_rfl) (by kernel_rfl) (fun _ _ _ h => h) (by kernel_rfl) (fun _ h => h) (Val.iface rfl rfl Ty.ni136) ?_
  refine WPD.takeM 4 rfl rfl rfl rfl (by kernel_rfl) (by kernel_rfl) (by kernel_rfl) (by kernel_rfl) (fun _ _ _ h => h) (fun _ h => h) (Val.move rfl rfl) ?_
  refine WPD.takeM 5 rfl rfl rfl rfl (by kernel_rfl) (by kernel_rfl) (by kernel_rfl) (by kernel_rfl) (fun _ _ _ h => h) (fun _ h => h) (Val.nilCheck rfl rfl) ?_
  refine WPD.takeM 6 rfl rfl rfl rfl (by kernel_rfl) (by kernel_rfl) (by kernel_rfl) (by kernel_rfl) (fun _ _ _ h => h) (fun _ h => h) (Val.fieldAddr (j := 4) rfl Ty.fo134_2 rfl rfl) ?_
  refine WPD.take 7 rfl rfl rfl rfl (by kernel_rfl) (by kernel_rfl) (by kernel_rfl) (by kernel_rfl) (fun _ _ _ h => h) (by kernel_rfl) (fun _ h => h) (Val.load (v := .int .i64 (x.ix)) rfl Ty.sc3 rfl (fun w h => item_ix (x := { x with t := t }) (its_holds hx1 (k := 1) rfl h))) ?_
  refine WPD.know 33 (.int .i64 ((i : Nat) : Int)) rfl (by rw [hix i x hx]) ?_
  refine WPD.perm pl1 ?_
  refine WPD.perm pl1 ?_
  refine WPD.perm pl2 ?_
  refine WPD.stepC 8 (by kernel_rfl) rfl rfl rfl rfl (by kernel_rfl) (Eff.call rfl rfl Try.call59 (fix_spec nb mb rb cap n sp (q.set i { x with t := t }) (by simpa using hq) (by omega) (idx_set hix hx rfl) i (by omega) (hole_change hok (by omega) fun k hk => tm_set hk))) ?_
  rintro _ _ ⟨_, ⟨fq1, hS1, hO1, rfl, rfl⟩, rfl⟩
  refine ⟨(Sat W (Blk nb [.map (some mb), .slice (some ⟨rb, 0, none⟩) n cap] 132 :: Blk rb ((fq1).map QI.ptr ++ sp) 90 :: Its fq1 :: Mapk mb (.int .i64) (kvs) :: Blk zb [.int .i64 (x.id), .int .i64 ((((t / 1000000000) : Nat) : Int)), .int .i64 ((((t % 1000000000) : Nat) : Int)), .bool true, .int .i64 0] 134 :: F)), (fun _ h => h), ?_⟩
  show WPD _ _ _ _ _ _ _ _ _ (Blk nb [.map (some mb), .slice (some ⟨rb, 0, none⟩) n cap] 132 :: Blk rb ((fq1).map QI.ptr ++ sp) 90 :: Its fq1 :: Mapk mb (.int .i64) (kvs) :: Blk zb [.int .i64 (x.id), .int .i64 ((((t / 1000000000) : Nat) : Int)), .int .i64 ((((t % 1000000000) : Nat) : Int)), .bool true, .int .i64 0] 134 :: F)
  refine WPD.done (by kernel_rfl) ?_
  refine Out.perm pl4 ?_
  refine Out.drop ?_
  exact Out.end0 (L' := _) Try.results36 ⟨fq1, hS1, hO1, rfl, rfl⟩ (fun _ h => h)
set_option maxRecDepth 100000 in
set_option maxHeartbeats 1000000 in
theorem reg_new (nb mb rb cap n : Nat) (sp : List Value) (q : List QI) (kvs : List (Value × Value)) (hq : q.length = n) (hn : n ≤ 1000000) (hix : Idx q) (hok : Ok (tm q) n) (hmk : MapQ kvs (q.map QI.key)) (hc : n ≤ cap) (hsp : sp.length = cap - n) (hcm : cap ≤ 9223372036854775807) (z : QI) (hno : ∀ x ∈ q, x.id ≠ z.id) : Does Try.prog 36 [.pointer (some ⟨nb, 0, none⟩), .pointer (some ⟨z.b, 0, none⟩)] [Blk nb [.map (some mb), .slice (some ⟨rb, 0, none⟩) n cap] 132, Blk rb (q.map QI.ptr ++ sp) 90, Its q, Mapk mb (.int .i64) (kvs), Blk z.b [.int .i64 (z.id), .int .i64 ((((z.t / 1000000000) : Nat) : Int)), .int .i64 ((((z.t % 1000000000) : Nat) : Int)), .bool true, .int .i64 (z.ix)] 134] (fun v L => ∃ q' rb' cap' sp', Same (q ++ [{ z with ix := (n : Int) }]) q' (n + 1) ∧ Ok (tm q') (n + 1) ∧ (n + 1 ≤ cap' ∧ sp'.length = cap' - (n + 1) ∧ cap' ≤ 9223372036854775807) ∧ v = .tuple #[] ∧ L = [Blk nb [.map (some mb), .slice (some ⟨rb', 0, none⟩) (n + 1) cap'] 132, Blk rb' (q'.map QI.ptr ++ sp') 90, Its q', Mapk mb (.int .i64) (kvs ++ [(.int .i64 z.id, .pointer (some ⟨z.b, 0, none⟩))])]) := by
  have hmiss := miss_kvs hmk hno
  refine Does.enter 51 Try.func36 rfl rfl rfl fun W F => ?_
  show WPc _ _ _ _ _ [(0, .pointer (some ⟨nb, 0, none⟩)), (1, .pointer (some ⟨z.b, 0, none⟩))] (Blk nb [.map (some mb), .slice (some ⟨rb, 0, none⟩) n cap] 132 :: Blk rb (q.map QI.ptr ++ sp) 90 :: Its q :: Mapk mb (.int .i64) (kvs) :: Blk z.b [.int .i64 (z.id), .int .i64 ((((z.t / 1000000000) : Nat) : Int)), .int .i64 ((((z.t % 1000000000) : Nat) : Int)), .bool true, .int .i64 (z.ix)] 134 :: F)
  refine WPc.seq ?_
  refine WPD.start (Sat W (Blk nb [.map (some mb), .slice (some ⟨rb, 0, none⟩) n cap] 132 :: Blk rb (q.map QI.ptr ++ sp) 90 :: Its q :: Mapk mb (.int .i64) (kvs) :: Blk z.b [.int .i64 (z.id), .int .i64 ((((z.t / 1000000000) : Nat) : Int)), .int .i64 ((((z.t % 1000000000) : Nat) : Int)), .bool true, .int .i64 (z.ix)] 134 :: F)) Ty.mixed ?_
  refine WPD.takeM 0 rfl rfl rfl rfl (by kernel_rfl) (by kernel_rfl) (by kernel_rfl) (by kernel_rfl) (fun _ _ _ h => h) (fun _ h => h) (Val.move rfl rfl) ?_
  refine WPD.takeM 1 rfl rfl rfl rfl (by kernel_rfl) (by kernel_rfl) (by kernel_rfl) (by kernel_rfl) (fun _ _ _ h => h) (fun _ h => h) (Val.nilCheck rfl rfl) ?_
  refine WPD.takeM 2 rfl rfl rfl rfl (by kernel_rfl) (by kernel_rfl) (by kernel_rfl) (by kernel_rfl) (fun _ _ _ h => h) (fun _ h => h) (Val.fieldAddr (j := 0) rfl Ty.fo132_0 rfl rfl) ?_
  refine WPD.take 3 rfl rfl rfl rfl (by kernel_rfl) (by kernel_rfl) (by kernel_rfl) (by kernel_rfl) (fun _ _ _ h => h) (by kernel_rfl) (fun _ h => h) (Val.load rfl Ty.sc128 rfl (fun w h => h.cell 0 rfl rfl)) ?_
  refine WPD.takeM 4 rfl rfl rfl rfl (by kernel_rfl) (by kernel_rfl) (by kernel_rfl) (by kernel_rfl) (fun _ _ _ h => h) (fun _ h => h) (Val.move rfl rfl) ?_
  refine WPD.takeM 5 rfl rfl rfl rfl (by kernel_rfl) (by kernel_rfl) (by kernel_rfl) (by kernel_rfl) (fun _ _ _ h => h) (fun _ h => h) (Val.nilCheck rfl rfl) ?_
  refine WPD.takeM 6 rfl rfl rfl rfl (by kernel_rfl) (by kernel_rfl) (by kernel_rfl) (by kernel_rfl) (fun _ _ _ h => h) (fun _ h => h) (Val.fieldAddr (j := 0) rfl Ty.fo134_0 rfl rfl) ?_
  refine WPD.take 7 rfl rfl rfl rfl (by kernel_rfl) (by kernel_rfl) (by kernel_rfl) (by kernel_rfl) (fun _ _ _ h => h) (by kernel_rfl) (fun _ h => h) (Val.load rfl Ty.sc92 rfl (fun w h => h.cell 4 rfl rfl)) ?_
  refine WPD.take 8 rfl rfl rfl rfl (by kernel_rfl) (by kernel_rfl) (by kernel_rfl) (by kernel_rfl) (fun _ _ _ h => h) (by kernel_rfl) (fun _ h => h) (Val.lookMiss rfl Ty2.mp128 Ty2.zv90 rfl rfl rfl (fun w h => h.at 3 rfl) hmiss) ?_
  refine WPD.takeM 9 rfl rfl rfl rfl (by kernel_rfl) (by kernel_rfl) (by kernel_rfl) (by kernel_rfl) (fun _ _ _ h => h) (fun _ h => h) (Val.move rfl rfl) ?_
  refine WPD.take 10 rfl rfl rfl rfl (by kernel_rfl) (by kernel_rfl) (by kernel_rfl) (by kernel_rfl) (fun _ _ _ h => h) (by kernel_rfl) (fun _ h => h) (Val.extract rfl rfl rfl) ?_
  refine WPD.take 11 rfl rfl rfl rfl (by kernel_rfl) (by kernel_rfl) (by kernel_rfl) (by kernel_rfl) (fun _ _ _ h => h) (by kernel_rfl) (fun _ h => h) (Val.extract rfl rfl rfl) ?_
  refine WPD.takeM 12 rfl rfl rfl rfl (by kernel_rfl) (by kernel_rfl) (by kernel_rfl) (by kernel_rfl) (fun _ _ _ h => h) (fun _ h => h) (Val.assign rfl rfl) ?_
  refine WPD.takeM 13 rfl rfl rfl rfl (by kernel_rfl) (by kernel_rfl) (by kernel_rfl) (by kernel_rfl) (fun _ _ _ h => h) (fun _ h => h) (Val.assign rfl rfl) ?_
  refine WPD.done (by kernel_rfl) ?_
  refine Out.next ?_
  refine WPc.seq ?_
  refine WPc.region ?_
  refine WP.val rfl rfl rfl (Val.move rfl rfl) ?_
  refine WP.nil ?_
  refine Out.next ?_
  refine WPc.condF rfl rfl ?_
  refine WPc.seq ?_
  refine WPc.region ?_
  refine WP.val rfl rfl rfl (Val.move rfl rfl) ?_
  refine WP.val rfl rfl rfl (Val.nilCheck rfl rfl) ?_
  refine WP.val rfl rfl rfl (Val.fieldAddr (j := 1) rfl Ty.fo132_1 rfl rfl) ?_
  refine WP.val rfl rfl rfl (Val.iface rfl rfl Ty.ni136) ?_
  refine WP.val rfl rfl rfl (Val.move rfl rfl) ?_
  refine WP.val rfl rfl rfl (Val.iface rfl rfl Ty.ni90) ?_
  refine WP.perm pl4 ?_
  refine WP.perm pl3 ?_
  refine WP.perm pl3 ?_
  refine WP.perm pl3 ?_
  refine WP.eff rfl rfl rfl (Eff.call rfl rfl Try.call60 (hpush_spec nb mb rb cap n sp q z hq hn hix hok hc hsp hcm)) ?_
  rintro _ _ ⟨_, ⟨pq1, rb1, cap1, sp1, hS1, hO1, hC1, rfl, rfl⟩, rfl⟩
  show WP _ _ _ _ _ _ _ (Blk nb [.map (some mb), .slice (some ⟨rb1, 0, none⟩) ((n + 1)) cap1] 132 :: Blk rb1 (pq1.map QI.ptr ++ sp1) 90 :: Its pq1 :: Mapk mb (.int .i64) (kvs) :: F)
  refine WP.nil ?_
  refine Out.next ?_
  obtain ⟨kz, xz, hkz, hkey⟩ := find_key (z := { z with ix := (n : Int) }) hS1 (by simp)
  refine WPD.start (Sat W (Blk nb [.map (some mb), .slice (some ⟨rb1, 0, none⟩) ((n + 1)) cap1] 132 :: Blk rb1 (pq1.map QI.ptr ++ sp1) 90 :: Its pq1 :: Mapk mb (.int .i64) (kvs) :: F)) Ty.mixed ?_
  refine WPD.takeM 0 rfl rfl rfl rfl (by kernel_rfl) (by kernel_rfl) (by kernel_rfl) (by kernel_rfl) (fun _ _ _ h => h) (fun _ h => h) (Val.move rfl rfl) ?_
  refine WPD.takeM 1 rfl rfl rfl rfl (by kernel_rfl) (by kernel_rfl) (by kernel_rfl) (by kernel_rfl) (fun _ _ _ h => h) (fun _ h => h) (Val.nilCheck rfl rfl) ?_
  refine WPD.takeM 2 rfl rfl rfl rfl (by kernel_rfl) (by kernel_rfl) (by kernel_rfl) (by kernel_rfl) (fun _ _ _ h => h) (fun _ h => h) (Val.fieldAddr (j := 0) rfl Ty.fo132_0 rfl rfl) ?_
  refine WPD.take 3 rfl rfl rfl rfl (by kernel_rfl) (by kernel_rfl) (by kernel_rfl) (by kernel_rfl) (fun _ _ _ h => h) (by kernel_rfl) (fun _ h => h) (Val.load rfl Ty.sc128 rfl (fun w h => h.cell 0 rfl rfl)) ?_
  refine WPD.takeM 4 rfl rfl rfl rfl (by kernel_rfl) (by kernel_rfl) (by kernel_rfl) (by kernel_rfl) (fun _ _ _ h => h) (fun _ h => h) (Val.move rfl rfl) ?_
  refine WPD.takeM 5 rfl rfl rfl rfl (by kernel_rfl) (by kernel_rfl) (by kernel_rfl) (by kernel_rfl) (fun _ _ _ h => h) (fun _ h => h) (Val.nilCheck rfl rfl) ?_
  refine WPD.takeM 6 rfl rfl rfl rfl (by kernel_rfl) (by kernel_rfl) (by kernel_rfl) (by kernel_rfl) (fun _ _ _ h => h) (fun _ h => h) (Val.fieldAddr (j := 0) rfl Ty.fo134_0 rfl rfl) ?_
  refine WPD.take 7 rfl rfl rfl rfl (by kernel_rfl) (by kernel_rfl) (by kernel_rfl) (by kernel_rfl) (fun _ _ _ h => h) (by kernel_rfl) (fun _ h => h) (Val.load (v := .int .i64 (z.id)) rfl Ty.sc92 rfl (fun w h => item_key (its_holds hkz (k := 2) rfl h) hkey)) ?_
  refine WPD.takeM 8 rfl rfl rfl rfl (by kernel_rfl) (by kernel_rfl) (by kernel_rfl) (by kernel_rfl) (fun _ _ _ h => h) (fun _ h => h) (Val.move rfl rfl) ?_
  refine WPD.perm pl3 ?_
  refine WPD.stepC0 9 (by kernel_rfl) rfl rfl rfl (by kernel_rfl) (Eff.mapNew rfl Ty2.mp128 rfl rfl rfl rfl hmiss) ?_
  rintro _ _ rfl
  refine ⟨(Sat W (Mapk mb (.int .i64) (kvs ++ [(.int .i64 z.id, .pointer (some ⟨z.b, 0, none⟩))]) :: Blk nb [.map (some mb), .slice (some ⟨rb1, 0, none⟩) ((n + 1)) cap1] 132 :: Blk rb1 (pq1.map QI.ptr ++ sp1) 90 :: Its pq1 :: F)), (fun _ h => h), ?_⟩
  refine WPD.done (by kernel_rfl) ?_
  refine Out.perm pl3 ?_
  refine Out.perm pl3 ?_
  refine Out.perm pl3 ?_
  exact Out.end0 (L' := _) Try.results36 ⟨pq1, rb1, cap1, sp1, hS1, hO1, hC1, rfl, rfl⟩ (fun _ h => h)
set_option maxRecDepth 100000 in
set_option maxHeartbeats 1000000 in
theorem unreg_spec (nb mb rb cap n : Nat) (sp : List Value) (q : List QI) (kvs : List (Value × Value)) (x y : QI) (j : Nat) (hq : q.length = n + 1) (hn : n ≤ 1000000) (hix : Idx q) (hok : Ok (tm q) (n + 1)) (hc : n + 1 ≤ cap) (hx : q[0]? = some x) (hy : q[n]? = some y) (hj : kvs[j]? = some (.int .i64 x.id, .pointer (some ⟨x.b, 0, none⟩))) : Does Try.prog 43 [.pointer (some ⟨nb, 0, none⟩)] [Blk nb [.map (some mb), .slice (some ⟨rb, 0, none⟩) ((n + 1)) cap] 132, Blk rb (q.map QI.ptr ++ sp) 90, Its q, Mapk mb (.int .i64) (kvs)] (fun v L => ∃ ql, ql.length = n ∧ ((ql ++ [{ x with ix := (n : Int) }]).map QI.key).Perm (q.map QI.key) ∧ Idx ql ∧ Ok (tm ql) n ∧ v = .pointer (some ⟨x.b, 0, none⟩) ∧ L = [Blk nb [.map (some mb), .slice (some ⟨rb, 0, none⟩) n cap] 132, Blk rb (ql.map QI.ptr ++ (x.ptr :: sp)) 90, Blk x.b [.int .i64 (x.id), .int .i64 ((((x.t / 1000000000) : Nat) : Int)), .int .i64 ((((x.t % 1000000000) : Nat) : Int)), .bool true, .int .i64 (-1)] 134, Its ql, Mapk mb (.int .i64) (kvs.eraseIdx j)]) := by
  refine Does.enter 19 Try.func43 rfl rfl rfl fun W F => ?_
  show WPc _ _ _ _ _ [(0, .pointer (some ⟨nb, 0, none⟩))] (Blk nb [.map (some mb), .slice (some ⟨rb, 0, none⟩) ((n + 1)) cap] 132 :: Blk rb (q.map QI.ptr ++ sp) 90 :: Its q :: Mapk mb (.int .i64) (kvs) :: F)
  refine WPc.seq ?_
  refine WPc.region ?_
  refine WP.val rfl rfl rfl (Val.assign rfl rfl) ?_
  refine WP.nil ?_
  refine Out.next ?_
  refine WPc.seq ?_
  refine WPc.region ?_
  refine WP.val rfl rfl rfl (Val.move rfl rfl) ?_
  refine WP.val rfl rfl rfl (Val.nilCheck rfl rfl) ?_
  refine WP.val rfl rfl rfl (Val.fieldAddr (j := 1) rfl Ty.fo132_1 rfl rfl) ?_
  refine WP.val rfl rfl rfl (Val.iface rfl rfl Ty.ni136) ?_
  refine WP.perm pl2 ?_
  refine WP.perm pl2 ?_
  refine WP.perm pl2 ?_
  refine WP.eff rfl rfl rfl (Eff.call rfl rfl Try.call62 (hpop_spec nb mb rb cap n sp q x y hq hn hix hok hc hx hy)) ?_
  rintro _ _ ⟨_, ⟨ql, hln, hpm, hil, hol, rfl, rfl⟩, rfl⟩
  show WP _ _ _ _ _ _ _ (Blk nb [.map (some mb), .slice (some ⟨rb, 0, none⟩) n cap] 132 :: Blk rb (ql.map QI.ptr ++ (x.ptr :: sp)) 90 :: Blk x.b [.int .i64 (x.id), .int .i64 ((((x.t / 1000000000) : Nat) : Int)), .int .i64 ((((x.t % 1000000000) : Nat) : Int)), .bool true, .int .i64 (-1)] 134 :: Its ql :: Mapk mb (.int .i64) (kvs) :: F)
  refine WP.val rfl rfl rfl (Val.assertC rfl Ty.ni90 rfl) ?_
  refine WP.val rfl rfl rfl (Val.assign rfl rfl) ?_
  refine WP.nil ?_
  refine Out.next ?_
  refine WPc.seq ?_
  refine WPD.start (Sat W (Blk nb [.map (some mb), .slice (some ⟨rb, 0, none⟩) n cap] 132 :: Blk rb (ql.map QI.ptr ++ (x.ptr :: sp)) 90 :: Blk x.b [.int .i64 (x.id), .int .i64 ((((x.t / 1000000000) : Nat) : Int)), .int .i64 ((((x.t % 1000000000) : Nat) : Int)), .bool true, .int .i64 (-1)] 134 :: Its ql :: Mapk mb (.int .i64) (kvs) :: F)) Ty.mixed ?_
  refine WPD.takeM 0 rfl rfl rfl rfl (by kernel_rfl) (by kernel_rfl) (by kernel_rfl) (by kernel_rfl) (fun _ _ _ h => h) (fun _ h => h) (Val.move rfl rfl) ?_
  refine WPD.takeM 1 rfl rfl rfl rfl (by kernel_rfl) (by kernel_rfl) (by kernel_rfl) (by kernel_rfl) (fun _ _ _ h => h) (fun _ h => h) (Val.nilCheck rfl rfl) ?_
  refine WPD.takeM 2 rfl rfl rfl rfl (by kernel_rfl) (by kernel_rfl) (by kernel_rfl) (by kernel_rfl) (fun _ _ _ h => h) (fun _ h => h) (Val.fieldAddr (j := 0) rfl Ty.fo132_0 rfl rfl) ?_
  refine WPD.take 3 rfl rfl rfl rfl (by kernel_rfl) (by kernel_rfl) (by kernel_rfl) (by kernel_rfl) (fun _ _ _ h => h) (by kernel_rfl) (fun _ h => h) (Val.load rfl Ty.sc128 rfl (fun w h => h.cell 0 rfl rfl)) ?_
  refine WPD.takeM 4 rfl rfl rfl rfl (by kernel_rfl) (by kernel_rfl) (by kernel_rfl) (by kernel_rfl) (fun _ _ _ h => h) (fun _ h => h) (Val.move rfl rfl) ?_
  refine WPD.takeM 5 rfl rfl rfl rfl (by kernel_rfl) (by kernel_rfl) (by kernel_rfl) (by kernel_rfl) (fun _ _ _ h => h) (fun _ h => h) (Val.nilCheck rfl rfl) ?_
  refine WPD.takeM 6 rfl rfl rfl rfl (by kernel_rfl) (by kernel_rfl) (by kernel_rfl) (by kernel_rfl) (fun _ _ _ h => h) (fun _ h => h) (Val.fieldAddr (j := 0) rfl Ty.fo134_0 rfl rfl) ?_
  refine WPD.take 7 rfl rfl rfl rfl (by kernel_rfl) (by kernel_rfl) (by kernel_rfl) (by kernel_rfl) (fun _ _ _ h => h) (by kernel_rfl) (fun _ h => h) (Val.load rfl Ty.sc92 rfl (fun w h => h.cell 2 rfl rfl)) ?_
  refine WPD.perm pl4 ?_
  refine WPD.stepC0 8 (by kernel_rfl) rfl rfl rfl (by kernel_rfl) (Eff.mapDel rfl Ty2.mp128 rfl rfl rfl hj) ?_
  rintro _ _ rfl
  refine ⟨(Sat W (Mapk mb (.int .i64) (kvs.eraseIdx j) :: Blk nb [.map (some mb), .slice (some ⟨rb, 0, none⟩) n cap] 132 :: Blk rb (ql.map QI.ptr ++ (x.ptr :: sp)) 90 :: Blk x.b [.int .i64 (x.id), .int .i64 ((((x.t / 1000000000) : Nat) : Int)), .int .i64 ((((x.t % 1000000000) : Nat) : Int)), .bool true, .int .i64 (-1)] 134 :: Its ql :: F)), (fun _ h => h), ?_⟩
  refine WPD.done (by kernel_rfl) ?_
  refine Out.next ?_
  refine WPc.seq ?_
  refine WPc.region ?_
  refine WP.val rfl rfl rfl (Val.move rfl rfl) ?_
  refine WP.val rfl rfl rfl (Val.assign rfl rfl) ?_
  refine WP.nil ?_
  refine Out.next ?_
  refine WPc.ret ?_
  refine Out.perm pl4 ?_
  refine Out.perm pl4 ?_
  refine Out.perm pl4 ?_
  refine Out.perm pl4 ?_
  exact Out.ret1 (L' := _) Try.results43 rfl ⟨ql, hln, hpm, hil, hol, rfl, rfl⟩ (fun _ h => h)

end Go.Proofs.Ythmkdioafjmclaa.Qh7
