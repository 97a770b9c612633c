import Derived.Test.YtibopfemknnocaaFlt6
namespace Go.Proofs.Ytibopfemknnocaa.Flt7
open Go.RowKit Go.Proofs.Ytibopfemknnocaa Go.Proofs.Ytibopfemknnocaa.Sl Go.Proofs.Ytibopfemknnocaa.KvRow Go.Proofs.Ytibopfemknnocaa.Flt Go.Proofs.Ytibopfemknnocaa.Flt2 Go.Proofs.Ytibopfemknnocaa.Flt3 Go.Proofs.Ytibopfemknnocaa.Flt4 Go.Proofs.Ytibopfemknnocaa.Flt5 Go.Proofs.Ytibopfemknnocaa.Flt6
set_option linter.unusedVariables false


theorem equal_str (d : Nat) (x : ByteArray) (w : World) : (Op.equalIn (d + 1) 9 (.string x) (.string x)).run Try.prog w = .ok true w := by
  unfold Op.equalIn
  simp
  rcases x with ⟨a⟩
  first | rfl | simp | (show (a == a) = true; simp)
theorem equal_int (d : Nat) (x : Int) (w : World) : (Op.equalIn (d + 1) 2 (.int .i64 x) (.int .i64 x)).run Try.prog w = .ok true w := by
  unfold Op.equalIn
  simp
theorem equal_kvd (d : Nat) (x : KV) (w : World) : (Op.equalIn (d + 2) 34 (.agg x.cells.toArray) (.agg x.cells.toArray)).run Try.prog w = .ok true w := by
  unfold Op.equalIn
  simp [KV.cells, Try.stoodInHeld34, part, forIn, equal_str, equal_int]
theorem equal_kv (x : KV) (w : World) : (Op.equal 34 (.agg x.cells.toArray) (.agg x.cells.toArray)).run Try.prog w = .ok true w := equal_kvd 9998 x w
theorem Val.neqKv {n : Nat} {l : List (Nat × Value)} {G : World → Prop} {o : Oper} {u : TypeId} {x y : Operand} {k : KV} (ho : o.op = .binOp .neq 34 x y u) (hx : ev l x = some (.agg k.cells.toArray)) (hy : ev l y = some (.agg k.cells.toArray)) :
    Val Try.prog n l G o (.bool false) := fun a w hf hs => by
  have he : (eqGuard .neq 34 x y (.agg k.cells.toArray) (.agg k.cells.toArray)).run Try.prog w = .ok () w := by
    simp [eqGuard, Try.eqGuardType34]
  simp only [execOp, ho, hf.ev hx, hf.ev hy, Sem.run_bind, he, Result.andThen_ok, binOp, equal_kv, Sem.run_pure]
  rfl
theorem flat_range {xs sp : List Value} {l : List KV} {i : Nat} {x : KV} (hx : l[i]? = some x) : (((KvRow.flat l ++ sp).drop (i * 6)).take x.cells.length) = x.cells := by
  apply List.ext_getElem?
  intro j
  rw [List.getElem?_take]
  have hlt := (List.getElem?_eq_some_iff.1 hx).1
  split
  · rename_i hj
    rw [KV.cells_length] at hj
    rw [List.getElem?_drop, List.getElem?_append_left (by simp; omega)]
    exact flat_at l i j x hx hj
  · rename_i hj
    rw [List.getElem?_eq_none (by omega)]
set_option maxRecDepth 100000 in
set_option maxHeartbeats 1000000 in
theorem kvs_rr (l : List KV) (hl : l.length ≤ 1000) (ga na ca gb nb cb : Nat) (spa spb : List Value) : Does Try.prog 16 [.slice (some ⟨ga, 0, none⟩) l.length ca, .slice (some ⟨gb, 0, none⟩) l.length cb] [Blk ga (KvRow.flat l ++ spa) 34, Blk gb (KvRow.flat l ++ spb) 34] (fun v L => v = .bool true ∧ L = []) := by
  refine Does.enter 26 Try.func16 rfl rfl rfl fun W F => ?_
  show WPc _ _ _ _ _ [(0, .slice (some ⟨ga, 0, none⟩) l.length ca), (1, .slice (some ⟨gb, 0, none⟩) l.length cb)] (Blk ga (KvRow.flat l ++ spa) 34 :: Blk gb (KvRow.flat l ++ spb) 34 :: F)
  refine WPc.seq ?_
  refine WPc.region ?_
  refine WP.val rfl rfl rfl (Val.assign rfl rfl) ?_
  refine WP.nil ?_
  refine Out.next ?_
  refine WPc.seq ?_
  refine WPc.seq ?_
  refine WPc.region ?_
  refine WP.val rfl rfl rfl (Val.move rfl rfl) ?_
  refine WP.val rfl rfl rfl (Val.len rfl Ty.sl30 rfl) ?_
  refine WP.val rfl rfl rfl (Val.move rfl rfl) ?_
  refine WP.val rfl rfl rfl (Val.len rfl Ty.sl30 rfl) ?_
  refine WP.val rfl rfl rfl (Val.neq rfl rfl rfl) ?_
  refine WP.nil ?_
  refine Out.next ?_
  refine WPc.ifP rfl (fun h1 => ?_) (fun h1 => ?_)
  · skip
    have h1 : (((l.length : Nat) : Int) ≠ ((l.length : Nat) : Int)) := h1
    exfalso; first | omega | (simp at *; done) | (simp at *; omega)
  · skip
    have h1 : ¬ (((l.length : Nat) : Int) ≠ ((l.length : Nat) : Int)) := h1
    refine WPc.skip ?_
    refine Out.next ?_
    refine WPc.seq ?_
    refine WPc.seq ?_
    refine WPc.region ?_
    refine WP.val rfl rfl rfl (Val.move rfl rfl) ?_
    refine WP.val rfl rfl rfl (Val.len rfl Ty.sl30 rfl) ?_
    refine WP.val rfl rfl rfl (Val.move rfl rfl) ?_
    refine WP.nil ?_
    refine Out.next ?_
    refine WPc.block ?_
    refine WPc.loop (ι := Nat) (fun i => i ≤ l.length) (fun i => [(0, .slice (some ⟨ga, 0, none⟩) l.length ca), (1, .slice (some ⟨gb, 0, none⟩) l.length cb), (12, .int .i64 (((l.length : Nat) : Int))), (13, .int .i64 (((i : Nat) : Int)))]) (fun i => Blk ga (KvRow.flat l ++ spa) 34 :: Blk gb (KvRow.flat l ++ spb) 34 :: F) (fun i => l.length - i) 0 (Nat.zero_le _) ((Sub.cons rfl (Sub.cons rfl (Sub.cons rfl (Sub.cons rfl Sub.nil))))) (fun _ h => h) ?_
    rintro i hi
    show WPc _ _ _ _ _ [(0, .slice (some ⟨ga, 0, none⟩) l.length ca), (1, .slice (some ⟨gb, 0, none⟩) l.length cb), (12, .int .i64 (((l.length : Nat) : Int))), (13, .int .i64 (((i : Nat) : Int)))] (Blk ga (KvRow.flat l ++ spa) 34 :: Blk gb (KvRow.flat l ++ spb) 34 :: F)
    replace hi : i ≤ l.length := hi
    refine WPc.seq ?_
    refine WPc.region ?_
    refine WP.val rfl rfl rfl (Val.lss rfl rfl rfl) ?_
    refine WP.nil ?_
    refine Out.next ?_
    refine WPc.seq ?_
    refine WPc.ifP rfl (fun h2 => ?_) (fun h2 => ?_)
    · skip
      have h2 : (((i : Nat) : Int) < ((l.length : Nat) : Int)) := h2
      refine WPc.skip ?_
      refine Out.next ?_
      refine WPc.seq ?_
      refine WPc.block ?_
      refine WPc.seq ?_
      refine WPc.region ?_
      refine WP.val rfl rfl rfl (Val.move rfl rfl) ?_
      refine WP.val rfl rfl rfl (Val.assign rfl rfl) ?_
      refine WP.nil ?_
      refine Out.next ?_
      refine WPc.seq ?_
      have hlt : i < l.length := by omega
      obtain ⟨x, hx⟩ : ∃ x, l[i]? = some x := ⟨_, List.getElem?_eq_getElem hlt⟩
      refine WPD.start (Sat W (Blk ga (KvRow.flat l ++ spa) 34 :: Blk gb (KvRow.flat l ++ spb) 34 :: F)) Ty.mixed ?_
      refine WPD.take 0 rfl rfl rfl rfl (by kernel_rfl) (by kernel_rfl) (by kernel_rfl) (fun _ _ _ h => h) (fun _ h => h) (Val.move rfl rfl) ?_
      refine WPD.take 1 rfl rfl rfl rfl (by kernel_rfl) (by kernel_rfl) (by kernel_rfl) (fun _ _ _ h => h) (fun _ h => h) (Val.move rfl rfl) ?_
      refine WPD.take 2 rfl rfl rfl rfl (by kernel_rfl) (by kernel_rfl) (by kernel_rfl) (fun _ _ _ h => h) (fun _ h => h) (Val.indexAddr (j := i) (q := i * 6) rfl Ty.sl30 rfl rfl (by omega) (by omega) (by omega)) ?_
      refine WPD.take 3 rfl rfl rfl rfl (by kernel_rfl) (by kernel_rfl) (by kernel_rfl) (fun _ _ _ h => h) (fun _ h => h) (Val.loadAgg (cs := x.cells) rfl Ty.ag34 rfl (by rfl) (fun w h => (h.at 0 rfl).cell_range (flat_range (xs := []) hx))) ?_
      refine WPD.take 4 rfl rfl rfl rfl (by kernel_rfl) (by kernel_rfl) (by kernel_rfl) (fun _ _ _ h => h) (fun _ h => h) (Val.move rfl rfl) ?_
      refine WPD.take 5 rfl rfl rfl rfl (by kernel_rfl) (by kernel_rfl) (by kernel_rfl) (fun _ _ _ h => h) (fun _ h => h) (Val.move rfl rfl) ?_
      refine WPD.take 6 rfl rfl rfl rfl (by kernel_rfl) (by kernel_rfl) (by kernel_rfl) (fun _ _ _ h => h) (fun _ h => h) (Val.indexAddr (j := i) (q := i * 6) rfl Ty.sl30 rfl rfl (by omega) (by omega) (by omega)) ?_
      refine WPD.take 7 rfl rfl rfl rfl (by kernel_rfl) (by kernel_rfl) (by kernel_rfl) (fun _ _ _ h => h) (fun _ h => h) (Val.loadAgg (cs := x.cells) rfl Ty.ag34 rfl (by rfl) (fun w h => (h.at 1 rfl).cell_range (flat_range (xs := []) hx))) ?_
      refine WPD.take 8 rfl rfl rfl rfl (by kernel_rfl) (by kernel_rfl) (by kernel_rfl) (fun _ _ _ h => h) (fun _ h => h) (Val.neqKv (k := x) rfl rfl rfl) ?_
      refine WPD.done (by kernel_rfl) ?_
      refine Out.next ?_
      refine WPc.condF rfl rfl ?_
      refine WPc.skip ?_
      refine Out.block ?_
      refine Out.next ?_
      refine WPc.region ?_
      refine WP.val rfl rfl rfl (Val.add (z := ((i + 1 : Nat) : Int)) rfl rfl rfl ((w64 (by omega) (by omega)).trans (by omega))) ?_
      refine WP.val rfl rfl rfl (Val.move rfl rfl) ?_
      refine WP.nil ?_
      refine Out.again (i + 1) ?_ ?_ ?_ ?_
      · exact (by first | omega | (dsimp only; omega))
      · first | omega | (dsimp only; omega)
      · exact (Sub.cons rfl (Sub.cons rfl (Sub.cons rfl (Sub.cons rfl Sub.nil))))
      · exact (fun _ h => h)
    · skip
      have h2 : ¬ (((i : Nat) : Int) < ((l.length : Nat) : Int)) := h2
      refine WPc.exit ?_
      refine Out.then_exit ?_
      refine Out.then_exit ?_
      refine Out.block_exit ?_
      refine Out.next ?_
      refine WPc.seq ?_
      refine WPc.region ?_
      refine WP.val rfl rfl rfl (Val.assign rfl rfl) ?_
      refine WP.nil ?_
      refine Out.next ?_
      refine WPc.ret ?_
      refine Out.drop ?_
      refine Out.drop ?_
      exact Out.ret1 (L' := []) Try.results16 rfl ⟨rfl, rfl⟩ (fun _ h => h)

set_option maxRecDepth 100000 in
set_option maxHeartbeats 1000000 in
theorem kvs_nr (ga na ca gb nb cb : Nat) (spa spb : List Value) : Does Try.prog 16 [.slice none 0 0, .slice (some ⟨gb, 0, none⟩) 0 cb] [Blk gb (KvRow.flat [] ++ spb) 34] (fun v L => v = .bool true ∧ L = []) := by
  refine Does.enter 26 Try.func16 rfl rfl rfl fun W F => ?_
  show WPc _ _ _ _ _ [(0, .slice none 0 0), (1, .slice (some ⟨gb, 0, none⟩) 0 cb)] (Blk gb (KvRow.flat [] ++ spb) 34 :: F)
  refine WPc.seq ?_
  refine WPc.region ?_
  refine WP.val rfl rfl rfl (Val.assign rfl rfl) ?_
  refine WP.nil ?_
  refine Out.next ?_
  refine WPc.seq ?_
  refine WPc.seq ?_
  refine WPc.region ?_
  refine WP.val rfl rfl rfl (Val.move rfl rfl) ?_
  refine WP.val rfl rfl rfl (Val.len rfl Ty.sl30 rfl) ?_
  refine WP.val rfl rfl rfl (Val.move rfl rfl) ?_
  refine WP.val rfl rfl rfl (Val.len rfl Ty.sl30 rfl) ?_
  refine WP.val rfl rfl rfl (Val.neq rfl rfl rfl) ?_
  refine WP.nil ?_
  refine Out.next ?_
  refine WPc.ifP rfl (fun h1 => ?_) (fun h1 => ?_)
  · skip
    have h1 : ((0 : Int) ≠ (0 : Int)) := h1
    exfalso; first | omega | (simp at *; done) | (simp at *; omega)
  · skip
    have h1 : ¬ ((0 : Int) ≠ (0 : Int)) := h1
    refine WPc.skip ?_
    refine Out.next ?_
    refine WPc.seq ?_
    refine WPc.seq ?_
    refine WPc.region ?_
    refine WP.val rfl rfl rfl (Val.move rfl rfl) ?_
    refine WP.val rfl rfl rfl (Val.len rfl Ty.sl30 rfl) ?_
    refine WP.val rfl rfl rfl (Val.move rfl rfl) ?_
    refine WP.nil ?_
    refine Out.next ?_
    refine WPc.block ?_
    refine WPc.loop (ι := Nat) (fun i => i ≤ ([] : List KV).length) (fun i => [(0, .slice none 0 0), (1, .slice (some ⟨gb, 0, none⟩) 0 cb), (12, .int .i64 (((([] : List KV).length : Nat) : Int))), (13, .int .i64 (((i : Nat) : Int)))]) (fun i => Blk gb (KvRow.flat [] ++ spb) 34 :: F) (fun i => ([] : List KV).length - i) 0 (Nat.zero_le _) ((Sub.cons rfl (Sub.cons rfl (Sub.cons rfl (Sub.cons rfl Sub.nil))))) (fun _ h => h) ?_
    rintro i hi
    show WPc _ _ _ _ _ [(0, .slice none 0 0), (1, .slice (some ⟨gb, 0, none⟩) 0 cb), (12, .int .i64 (((([] : List KV).length : Nat) : Int))), (13, .int .i64 (((i : Nat) : Int)))] (Blk gb (KvRow.flat [] ++ spb) 34 :: F)
    replace hi : i ≤ ([] : List KV).length := hi
    refine WPc.seq ?_
    refine WPc.region ?_
    refine WP.val rfl rfl rfl (Val.lss rfl rfl rfl) ?_
    refine WP.nil ?_
    refine Out.next ?_
    refine WPc.seq ?_
    refine WPc.ifP rfl (fun h2 => ?_) (fun h2 => ?_)
    · skip
      have h2 : (((i : Nat) : Int) < ((([] : List KV).length : Nat) : Int)) := h2
      exfalso; simp at *; omega
    · skip
      have h2 : ¬ (((i : Nat) : Int) < ((([] : List KV).length : Nat) : Int)) := h2
      refine WPc.exit ?_
      refine Out.then_exit ?_
      refine Out.then_exit ?_
      refine Out.block_exit ?_
      refine Out.next ?_
      refine WPc.seq ?_
      refine WPc.region ?_
      refine WP.val rfl rfl rfl (Val.assign rfl rfl) ?_
      refine WP.nil ?_
      refine Out.next ?_
      refine WPc.ret ?_
      refine Out.drop ?_
      exact Out.ret1 (L' := []) Try.results16 rfl ⟨rfl, rfl⟩ (fun _ h => h)

set_option maxRecDepth 100000 in
set_option maxHeartbeats 1000000 in
theorem kvs_rn (ga na ca gb nb cb : Nat) (spa spb : List Value) : Does Try.prog 16 [.slice (some ⟨ga, 0, none⟩) 0 ca, .slice none 0 0] [Blk ga (KvRow.flat [] ++ spa) 34] (fun v L => v = .bool true ∧ L = []) := by
  refine Does.enter 26 Try.func16 rfl rfl rfl fun W F => ?_
  show WPc _ _ _ _ _ [(0, .slice (some ⟨ga, 0, none⟩) 0 ca), (1, .slice none 0 0)] (Blk ga (KvRow.flat [] ++ spa) 34 :: F)
  refine WPc.seq ?_
  refine WPc.region ?_
  refine WP.val rfl rfl rfl (Val.assign rfl rfl) ?_
  refine WP.nil ?_
  refine Out.next ?_
  refine WPc.seq ?_
  refine WPc.seq ?_
  refine WPc.region ?_
  refine WP.val rfl rfl rfl (Val.move rfl rfl) ?_
  refine WP.val rfl rfl rfl (Val.len rfl Ty.sl30 rfl) ?_
  refine WP.val rfl rfl rfl (Val.move rfl rfl) ?_
  refine WP.val rfl rfl rfl (Val.len rfl Ty.sl30 rfl) ?_
  refine WP.val rfl rfl rfl (Val.neq rfl rfl rfl) ?_
  refine WP.nil ?_
  refine Out.next ?_
  refine WPc.ifP rfl (fun h1 => ?_) (fun h1 => ?_)
  · skip
    have h1 : ((0 : Int) ≠ (0 : Int)) := h1
    exfalso; first | omega | (simp at *; done) | (simp at *; omega)
  · skip
    have h1 : ¬ ((0 : Int) ≠ (0 : Int)) := h1
    refine WPc.skip ?_
    refine Out.next ?_
    refine WPc.seq ?_
    refine WPc.seq ?_
    refine WPc.region ?_
    refine WP.val rfl rfl rfl (Val.move rfl rfl) ?_
    refine WP.val rfl rfl rfl (Val.len rfl Ty.sl30 rfl) ?_
    refine WP.val rfl rfl rfl (Val.move rfl rfl) ?_
    refine WP.nil ?_
    refine Out.next ?_
    refine WPc.block ?_
    refine WPc.loop (ι := Nat) (fun i => i ≤ ([] : List KV).length) (fun i => [(0, .slice (some ⟨ga, 0, none⟩) 0 ca), (1, .slice none 0 0), (12, .int .i64 (((([] : List KV).length : Nat) : Int))), (13, .int .i64 (((i : Nat) : Int)))]) (fun i => Blk ga (KvRow.flat [] ++ spa) 34 :: F) (fun i => ([] : List KV).length - i) 0 (Nat.zero_le _) ((Sub.cons rfl (Sub.cons rfl (Sub.cons rfl (Sub.cons rfl Sub.nil))))) (fun _ h => h) ?_
    rintro i hi
    show WPc _ _ _ _ _ [(0, .slice (some ⟨ga, 0, none⟩) 0 ca), (1, .slice none 0 0), (12, .int .i64 (((([] : List KV).length : Nat) : Int))), (13, .int .i64 (((i : Nat) : Int)))] (Blk ga (KvRow.flat [] ++ spa) 34 :: F)
    replace hi : i ≤ ([] : List KV).length := hi
    refine WPc.seq ?_
    refine WPc.region ?_
    refine WP.val rfl rfl rfl (Val.lss rfl rfl rfl) ?_
    refine WP.nil ?_
    refine Out.next ?_
    refine WPc.seq ?_
    refine WPc.ifP rfl (fun h2 => ?_) (fun h2 => ?_)
    · skip
      have h2 : (((i : Nat) : Int) < ((([] : List KV).length : Nat) : Int)) := h2
      exfalso; simp at *; omega
    · skip
      have h2 : ¬ (((i : Nat) : Int) < ((([] : List KV).length : Nat) : Int)) := h2
      refine WPc.exit ?_
      refine Out.then_exit ?_
      refine Out.then_exit ?_
      refine Out.block_exit ?_
      refine Out.next ?_
      refine WPc.seq ?_
      refine WPc.region ?_
      refine WP.val rfl rfl rfl (Val.assign rfl rfl) ?_
      refine WP.nil ?_
      refine Out.next ?_
      refine WPc.ret ?_
      refine Out.drop ?_
      exact Out.ret1 (L' := []) Try.results16 rfl ⟨rfl, rfl⟩ (fun _ h => h)

set_option maxRecDepth 100000 in
set_option maxHeartbeats 1000000 in
theorem kvs_nn (ga na ca gb nb cb : Nat) (spa spb : List Value) : Does Try.prog 16 [.slice none 0 0, .slice none 0 0] [] (fun v L => v = .bool true ∧ L = []) := by
  refine Does.enter 26 Try.func16 rfl rfl rfl fun W F => ?_
  show WPc _ _ _ _ _ [(0, .slice none 0 0), (1, .slice none 0 0)] (F)
  refine WPc.seq ?_
  refine WPc.region ?_
  refine WP.val rfl rfl rfl (Val.assign rfl rfl) ?_
  refine WP.nil ?_
  refine Out.next ?_
  refine WPc.seq ?_
  refine WPc.seq ?_
  refine WPc.region ?_
  refine WP.val rfl rfl rfl (Val.move rfl rfl) ?_
  refine WP.val rfl rfl rfl (Val.len rfl Ty.sl30 rfl) ?_
  refine WP.val rfl rfl rfl (Val.move rfl rfl) ?_
  refine WP.val rfl rfl rfl (Val.len rfl Ty.sl30 rfl) ?_
  refine WP.val rfl rfl rfl (Val.neq rfl rfl rfl) ?_
  refine WP.nil ?_
  refine Out.next ?_
  refine WPc.ifP rfl (fun h1 => ?_) (fun h1 => ?_)
  · skip
    have h1 : ((0 : Int) ≠ (0 : Int)) := h1
    exfalso; first | omega | (simp at *; done) | (simp at *; omega)
  · skip
    have h1 : ¬ ((0 : Int) ≠ (0 : Int)) := h1
    refine WPc.skip ?_
    refine Out.next ?_
    refine WPc.seq ?_
    refine WPc.seq ?_
    refine WPc.region ?_
    refine WP.val rfl rfl rfl (Val.move rfl rfl) ?_
    refine WP.val rfl rfl rfl (Val.len rfl Ty.sl30 rfl) ?_
    refine WP.val rfl rfl rfl (Val.move rfl rfl) ?_
    refine WP.nil ?_
    refine Out.next ?_
    refine WPc.block ?_
    refine WPc.loop (ι := Nat) (fun i => i ≤ ([] : List KV).length) (fun i => [(0, .slice none 0 0), (1, .slice none 0 0), (12, .int .i64 (((([] : List KV).length : Nat) : Int))), (13, .int .i64 (((i : Nat) : Int)))]) (fun i => F) (fun i => ([] : List KV).length - i) 0 (Nat.zero_le _) ((Sub.cons rfl (Sub.cons rfl (Sub.cons rfl (Sub.cons rfl Sub.nil))))) (fun _ h => h) ?_
    rintro i hi
    show WPc _ _ _ _ _ [(0, .slice none 0 0), (1, .slice none 0 0), (12, .int .i64 (((([] : List KV).length : Nat) : Int))), (13, .int .i64 (((i : Nat) : Int)))] (F)
    replace hi : i ≤ ([] : List KV).length := hi
    refine WPc.seq ?_
    refine WPc.region ?_
    refine WP.val rfl rfl rfl (Val.lss rfl rfl rfl) ?_
    refine WP.nil ?_
    refine Out.next ?_
    refine WPc.seq ?_
    refine WPc.ifP rfl (fun h2 => ?_) (fun h2 => ?_)
    · skip
      have h2 : (((i : Nat) : Int) < ((([] : List KV).length : Nat) : Int)) := h2
      exfalso; simp at *; omega
    · skip
      have h2 : ¬ (((i : Nat) : Int) < ((([] : List KV).length : Nat) : Int)) := h2
      refine WPc.exit ?_
      refine Out.then_exit ?_
      refine Out.then_exit ?_
      refine Out.block_exit ?_
      refine Out.next ?_
      refine WPc.seq ?_
      refine WPc.region ?_
      refine WP.val rfl rfl rfl (Val.assign rfl rfl) ?_
      refine WP.nil ?_
      refine Out.next ?_
      refine WPc.ret ?_
      exact Out.ret1 (L' := []) Try.results16 rfl ⟨rfl, rfl⟩ (fun _ h => h)


theorem txnKVs_spec (u u' : Value) (l : List KV) (hl : l.length ≤ 1000) : Does Try.prog 16 [u, u'] [Own 34 6 u l.length (KvRow.flat l), Own 34 6 u' l.length (KvRow.flat l)] (fun v L => v = .bool true ∧ L = []) := by
  intro W F w h
  rcases h.own with ⟨rfl, h1, h2, h3⟩ | ⟨b, cap, sp, rfl, h1, h2, h3, h4, h5⟩
  · obtain rfl : l = [] := by simpa using h1
    rcases Sat.own h3 with ⟨rfl, k1, k2, k3⟩ | ⟨b', cap', sp', rfl, k1, k2, k3, k4, k5⟩
    · exact kvs_nn 0 0 0 0 0 0 [] [] W F w k3
    · exact kvs_nr 0 0 0 b' 0 cap' [] sp' W F w k5
  · rcases (Sat.perm h5 pl1).own with ⟨rfl, k1, k2, k3⟩ | ⟨b', cap', sp', rfl, k1, k2, k3, k4, k5⟩
    · obtain rfl : l = [] := by simpa using k1
      exact kvs_rn b 0 cap 0 0 0 sp [] W F w k3
    · exact kvs_rr l hl b 0 cap b' 0 cap' sp sp' W F w (Sat.perm k5 pl1)
set_option maxRecDepth 100000 in
set_option maxHeartbeats 1000000 in
theorem fits14_spec (x : KV) : Does Try.prog 19 [.agg #[.string x.key, .string x.val, .int .i64 (x.cr), .int .i64 (x.md), .int .i64 (x.ver), .int .i64 (x.ls)]] [] (fun v L => ∃ b, v = .bool b ∧ L = []) := by
  refine Does.enter 11 Try.func19 rfl rfl rfl fun W F => ?_
  show WPc _ _ _ _ _ [(0, .agg #[.string x.key, .string x.val, .int .i64 (x.cr), .int .i64 (x.md), .int .i64 (x.ver), .int .i64 (x.ls)])] (F)
  refine WPc.seq ?_
  refine WPc.region ?_
  refine WP.eff rfl rfl rfl (Eff.box (C := [.string x.key, .string x.val, .int .i64 (x.cr), .int .i64 (x.md), .int .i64 (x.ver), .int .i64 (x.ls)]) rfl rfl rfl) ?_
  rintro _ _ ⟨b1, rfl, rfl⟩
  refine WP.val rfl rfl rfl (Val.assign rfl rfl) ?_
  refine WP.nil ?_
  refine Out.next ?_
  refine WPc.seq ?_
  refine WPc.seq ?_
  refine WPc.region ?_
  refine WP.val rfl rfl rfl (Val.fieldAddr (j := 0) rfl Ty.fo34_0 rfl rfl) ?_
  refine WP.val rfl rfl rfl (Val.load rfl Ty.sc9 rfl (fun w h => h.cell 0 rfl rfl)) ?_
  refine WP.val rfl rfl rfl (Val.lenS rfl Ty.st9 rfl) ?_
  refine WP.val rfl rfl rfl (Val.gtr rfl rfl rfl) ?_
  refine WP.nil ?_
  refine Out.next ?_
  refine WPc.ifP rfl (fun h1 => ?_) (fun h1 => ?_)
  · skip
    have h1 : ((2147483647 : Int) < (((x.key).size : Nat) : Int)) := h1
    refine WPc.seq ?_
    refine WPc.region ?_
    refine WP.val rfl rfl rfl (Val.assign rfl rfl) ?_
    refine WP.nil ?_
    refine Out.next ?_
    refine WPc.ret ?_
    refine Out.then_ret ?_
    refine Out.drop ?_
    exact Out.ret1 (L' := []) Try.results19 rfl ⟨_, rfl, rfl⟩ (fun _ h => h)
  · skip
    have h1 : ¬ ((2147483647 : Int) < (((x.key).size : Nat) : Int)) := h1
    refine WPc.skip ?_
    refine Out.next ?_
    refine WPc.seq ?_
    refine WPc.seq ?_
    refine WPc.region ?_
    refine WP.val rfl rfl rfl (Val.fieldAddr (j := 1) rfl Ty.fo34_1 rfl rfl) ?_
    refine WP.val rfl rfl rfl (Val.load rfl Ty.sc9 rfl (fun w h => h.cell 0 rfl rfl)) ?_
    refine WP.val rfl rfl rfl (Val.lenS rfl Ty.st9 rfl) ?_
    refine WP.val rfl rfl rfl (Val.gtr rfl rfl rfl) ?_
    refine WP.nil ?_
    refine Out.next ?_
    refine WPc.ifP rfl (fun h2 => ?_) (fun h2 => ?_)
    · skip
      have h2 : ((2147483647 : Int) < (((x.val).size : Nat) : Int)) := h2
      refine WPc.seq ?_
      refine WPc.region ?_
      refine WP.val rfl rfl rfl (Val.assign rfl rfl) ?_
      refine WP.nil ?_
      refine Out.next ?_
      refine WPc.ret ?_
      refine Out.then_ret ?_
      refine Out.drop ?_
      exact Out.ret1 (L' := []) Try.results19 rfl ⟨_, rfl, rfl⟩ (fun _ h => h)
    · skip
      have h2 : ¬ ((2147483647 : Int) < (((x.val).size : Nat) : Int)) := h2
      refine WPc.skip ?_
      refine Out.next ?_
      refine WPc.seq ?_
      refine WPc.region ?_
      refine WP.val rfl rfl rfl (Val.assign rfl rfl) ?_
      refine WP.nil ?_
      refine Out.next ?_
      refine WPc.ret ?_
      refine Out.drop ?_
      exact Out.ret1 (L' := []) Try.results19 rfl ⟨_, rfl, rfl⟩ (fun _ h => h)
set_option maxRecDepth 100000 in
set_option maxHeartbeats 1000000 in
theorem fits13_nil (A : HProp)  (a : Option Addr) (c : Nat) : Does Try.prog 14 [.slice a 0 c] [A] (fun v L => ∃ b, v = .bool b ∧ L = [A]) := by
  have hl : ([] : List KV).length ≤ 1000 := by simp
  refine Does.enter 18 Try.func14 rfl rfl rfl fun W F => ?_
  show WPc _ _ _ _ _ [(0, .slice a 0 c)] (A :: F)
  refine WPc.seq ?_
  refine WPc.region ?_
  refine WP.val rfl rfl rfl (Val.assign rfl rfl) ?_
  refine WP.nil ?_
  refine Out.next ?_
  refine WPc.seq ?_
  refine WPc.seq ?_
  refine WPc.region ?_
  refine WP.val rfl rfl rfl (Val.move rfl rfl) ?_
  refine WP.val rfl rfl rfl (Val.len rfl Ty.sl30 rfl) ?_
  refine WP.val rfl rfl rfl (Val.gtr rfl rfl rfl) ?_
  refine WP.nil ?_
  refine Out.next ?_
  refine WPc.ifP rfl (fun h1 => ?_) (fun h1 => ?_)
  · skip
    have h1 : ((2147483647 : Int) < (0 : Int)) := h1
    exfalso; first | omega | (simp at *; done) | (simp at *; omega)
  · skip
    have h1 : ¬ ((2147483647 : Int) < (0 : Int)) := h1
    refine WPc.skip ?_
    refine Out.next ?_
    refine WPc.seq ?_
    refine WPc.seq ?_
    refine WPc.region ?_
    refine WP.val rfl rfl rfl (Val.move rfl rfl) ?_
    refine WP.val rfl rfl rfl (Val.len rfl Ty.sl30 rfl) ?_
    refine WP.val rfl rfl rfl (Val.move rfl rfl) ?_
    refine WP.nil ?_
    refine Out.next ?_
    refine WPc.block ?_
    refine WPc.loop (ι := Nat) (fun i => i ≤ ([] : List KV).length) (fun i => [(8, .slice a 0 c), (9, .int .i64 (((([] : List KV).length : Nat) : Int))), (10, .int .i64 (((i : Nat) : Int)))]) (fun i => A :: F) (fun i => ([] : List KV).length - i) 0 (Nat.zero_le _) ((Sub.cons rfl (Sub.cons rfl (Sub.cons rfl Sub.nil)))) (fun _ h => h) ?_
    rintro i hi
    show WPc _ _ _ _ _ [(8, .slice a 0 c), (9, .int .i64 (((([] : List KV).length : Nat) : Int))), (10, .int .i64 (((i : Nat) : Int)))] (A :: F)
    replace hi : i ≤ ([] : List KV).length := hi
    refine WPc.seq ?_
    refine WPc.region ?_
    refine WP.val rfl rfl rfl (Val.lss rfl rfl rfl) ?_
    refine WP.nil ?_
    refine Out.next ?_
    refine WPc.seq ?_
    refine WPc.ifP rfl (fun h2 => ?_) (fun h2 => ?_)
    · skip
      have h2 : (((i : Nat) : Int) < ((([] : List KV).length : Nat) : Int)) := h2
      exfalso; simp at *; omega
    · skip
      have h2 : ¬ (((i : Nat) : Int) < ((([] : List KV).length : Nat) : Int)) := h2
      refine WPc.exit ?_
      refine Out.then_exit ?_
      refine Out.then_exit ?_
      refine Out.block_exit ?_
      refine Out.next ?_
      refine WPc.seq ?_
      refine WPc.region ?_
      refine WP.val rfl rfl rfl (Val.assign rfl rfl) ?_
      refine WP.nil ?_
      refine Out.next ?_
      refine WPc.ret ?_
      exact Out.ret1 (L' := [A]) Try.results14 rfl ⟨_, rfl, rfl⟩ (fun _ h => h)

set_option maxRecDepth 100000 in
set_option maxHeartbeats 1000000 in
theorem fits13_row (A : HProp) (l : List KV)  (b0 o0 c0 : Nat) (hr : ∀ w, Holds A w → ∀ i x, l[i]? = some x → w.rangeAt b0 (o0 + i * 6) x.cells) : Does Try.prog 14 [.slice (some ⟨b0, o0, none⟩) l.length c0] [A] (fun v L => ∃ b, v = .bool b ∧ L = [A]) := by
  refine Does.enter 18 Try.func14 rfl rfl rfl fun W F => ?_
  show WPc _ _ _ _ _ [(0, .slice (some ⟨b0, o0, none⟩) l.length c0)] (A :: F)
  refine WPc.seq ?_
  refine WPc.region ?_
  refine WP.val rfl rfl rfl (Val.assign rfl rfl) ?_
  refine WP.nil ?_
  refine Out.next ?_
  refine WPc.seq ?_
  refine WPc.seq ?_
  refine WPc.region ?_
  refine WP.val rfl rfl rfl (Val.move rfl rfl) ?_
  refine WP.val rfl rfl rfl (Val.len rfl Ty.sl30 rfl) ?_
  refine WP.val rfl rfl rfl (Val.gtr rfl rfl rfl) ?_
  refine WP.nil ?_
  refine Out.next ?_
  refine WPc.ifP rfl (fun h1 => ?_) (fun h1 => ?_)
  · skip
    have h1 : ((2147483647 : Int) < ((l.length : Nat) : Int)) := h1
    refine WPc.seq ?_
    refine WPc.region ?_
    refine WP.val rfl rfl rfl (Val.assign rfl rfl) ?_
    refine WP.nil ?_
    refine Out.next ?_
    refine WPc.ret ?_
    refine Out.then_ret ?_
    exact Out.ret1 (L' := [A]) Try.results14 rfl ⟨_, rfl, rfl⟩ (fun _ h => h)
  · skip
    have h1 : ¬ ((2147483647 : Int) < ((l.length : Nat) : Int)) := h1
    refine WPc.skip ?_
    refine Out.next ?_
    refine WPc.seq ?_
    refine WPc.seq ?_
    refine WPc.region ?_
    refine WP.val rfl rfl rfl (Val.move rfl rfl) ?_
    refine WP.val rfl rfl rfl (Val.len rfl Ty.sl30 rfl) ?_
    refine WP.val rfl rfl rfl (Val.move rfl rfl) ?_
    refine WP.nil ?_
    refine Out.next ?_
    refine WPc.block ?_
    refine WPc.loop (ι := Nat) (fun i => i ≤ l.length) (fun i => [(8, .slice (some ⟨b0, o0, none⟩) l.length c0), (9, .int .i64 (((l.length : Nat) : Int))), (10, .int .i64 (((i : Nat) : Int)))]) (fun i => A :: F) (fun i => l.length - i) 0 (Nat.zero_le _) ((Sub.cons rfl (Sub.cons rfl (Sub.cons rfl Sub.nil)))) (fun _ h => h) ?_
    rintro i hi
    show WPc _ _ _ _ _ [(8, .slice (some ⟨b0, o0, none⟩) l.length c0), (9, .int .i64 (((l.length : Nat) : Int))), (10, .int .i64 (((i : Nat) : Int)))] (A :: F)
    replace hi : i ≤ l.length := hi
    refine WPc.seq ?_
    refine WPc.region ?_
    refine WP.val rfl rfl rfl (Val.lss rfl rfl rfl) ?_
    refine WP.nil ?_
    refine Out.next ?_
    refine WPc.seq ?_
    refine WPc.ifP rfl (fun h2 => ?_) (fun h2 => ?_)
    · skip
      have h2 : (((i : Nat) : Int) < ((l.length : Nat) : Int)) := h2
      refine WPc.skip ?_
      refine Out.next ?_
      refine WPc.seq ?_
      refine WPc.block ?_
      refine WPc.seq ?_
      have hlt : i < l.length := by omega
      obtain ⟨x, hx⟩ : ∃ x, l[i]? = some x := ⟨_, List.getElem?_eq_getElem hlt⟩
      refine WPc.region ?_
      refine WP.val rfl rfl rfl (Val.indexAddr (j := i) (q := o0 + i * 6) rfl Ty.sl30 rfl rfl (by omega) (by omega) (by omega)) ?_
      refine WP.val rfl rfl rfl (Val.loadAgg (cs := x.cells) rfl Ty.ag34 rfl (by rfl) (fun w h => hr w (h.at 0 rfl) i x hx)) ?_
      refine WP.eff rfl rfl rfl (Eff.alloc rfl Ty.z34) ?_
      rintro _ _ ⟨b1, rfl, rfl⟩
      refine WP.eff0 rfl rfl (Eff.storeAgg (cs := [.string x.key, .string x.val, .int .i64 (x.cr), .int .i64 (x.md), .int .i64 (x.ver), .int .i64 (x.ls)]) (C' := [.string x.key, .string x.val, .int .i64 (x.cr), .int .i64 (x.md), .int .i64 (x.ver), .int .i64 (x.ls)]) rfl Ty.ag34 rfl rfl rfl rfl (by simp) rfl) ?_
      rintro _ _ rfl
      refine WP.nil ?_
      refine Out.next ?_
      refine WPc.seq ?_
      refine WPc.region ?_
      refine WP.val rfl rfl rfl (Val.loadAgg (cs := [.string x.key, .string x.val, .int .i64 (x.cr), .int .i64 (x.md), .int .i64 (x.ver), .int .i64 (x.ls)]) rfl Ty.ag34 rfl rfl (fun w h => h.range 0 rfl rfl)) ?_
      refine WP.eff rfl rfl rfl (Eff.call rfl rfl Try.call19 (fits14_spec x)) ?_
      rintro _ _ ⟨_, ⟨bb2, rfl, rfl⟩, rfl⟩
      show WP _ _ _ _ _ _ _ (Blk b1 [.string x.key, .string x.val, .int .i64 (x.cr), .int .i64 (x.md), .int .i64 (x.ver), .int .i64 (x.ls)] 34 :: A :: F)
      refine WP.val rfl rfl rfl (Val.not rfl rfl) ?_
      refine WP.nil ?_
      refine Out.next ?_
      refine WPc.cond rfl (fun h3 => ?_) (fun h3 => ?_)
      · skip
        have h3 : (!bb2) = true := h3
        refine WPc.seq ?_
        refine WPc.region ?_
        refine WP.val rfl rfl rfl (Val.assign rfl rfl) ?_
        refine WP.nil ?_
        refine Out.next ?_
        refine WPc.ret ?_
        refine Out.block_ret ?_
        refine Out.then_ret ?_
        refine Out.then_ret ?_
        refine Out.block_ret ?_
        refine Out.then_ret ?_
        refine Out.drop ?_
        exact Out.ret1 (L' := [A]) Try.results14 rfl ⟨_, rfl, rfl⟩ (fun _ h => h)
      · skip
        have h3 : (!bb2) = false := h3
        refine WPc.skip ?_
        refine Out.block ?_
        refine Out.next ?_
        refine WPc.region ?_
        refine WP.val rfl rfl rfl (Val.add (z := ((i + 1 : Nat) : Int)) rfl rfl rfl ((w64 (by omega) (by omega)).trans (by omega))) ?_
        refine WP.val rfl rfl rfl (Val.move rfl rfl) ?_
        refine WP.nil ?_
        refine Out.drop ?_
        refine Out.again (i + 1) ?_ ?_ ?_ ?_
        · exact (by first | omega | (dsimp only; omega))
        · first | omega | (dsimp only; omega)
        · exact (Sub.cons rfl (Sub.cons rfl (Sub.cons rfl Sub.nil)))
        · exact (fun _ h => h)
    · skip
      have h2 : ¬ (((i : Nat) : Int) < ((l.length : Nat) : Int)) := h2
      refine WPc.exit ?_
      refine Out.then_exit ?_
      refine Out.then_exit ?_
      refine Out.block_exit ?_
      refine Out.next ?_
      refine WPc.seq ?_
      refine WPc.region ?_
      refine WP.val rfl rfl rfl (Val.assign rfl rfl) ?_
      refine WP.nil ?_
      refine Out.next ?_
      refine WPc.ret ?_
      exact Out.ret1 (L' := [A]) Try.results14 rfl ⟨_, rfl, rfl⟩ (fun _ h => h)

theorem fits13_spec (A : HProp) (l : List KV)  (va : Value) (hva : KvsIn A va l) : Does Try.prog 14 [va] [A] (fun v L => ∃ b, v = .bool b ∧ L = [A]) := by
  rcases hva with ⟨b0, o0, c0, rfl, hr⟩ | ⟨rfl, a, c, rfl⟩
  · exact fits13_row A l b0 o0 c0 hr
  · exact fits13_nil A a c

end Go.Proofs.Ytibopfemknnocaa.Flt7
