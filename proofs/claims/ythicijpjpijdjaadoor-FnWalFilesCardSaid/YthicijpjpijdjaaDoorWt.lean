import Derived.Test.YthicijpjpijdjaaDoorWs
namespace Go.Proofs.YthicijpjpijdjaaDoor.Wt
open Go.RowKit Go.Proofs.YthicijpjpijdjaaDoor Go.Proofs.YthicijpjpijdjaaDoor.Sl Go.Proofs.YthicijpjpijdjaaDoor.Wa Go.Proofs.YthicijpjpijdjaaDoor.Wb Go.Proofs.YthicijpjpijdjaaDoor.Wc Go.Proofs.YthicijpjpijdjaaDoor.Wd Go.Proofs.YthicijpjpijdjaaDoor.We Go.Proofs.YthicijpjpijdjaaDoor.Wf Go.Proofs.YthicijpjpijdjaaDoor.Wg Go.Proofs.YthicijpjpijdjaaDoor.Wh Go.Proofs.YthicijpjpijdjaaDoor.Wi Go.Proofs.YthicijpjpijdjaaDoor.Wj Go.Proofs.YthicijpjpijdjaaDoor.Wk Go.Proofs.YthicijpjpijdjaaDoor.Wl Go.Proofs.YthicijpjpijdjaaDoor.Wm Go.Proofs.YthicijpjpijdjaaDoor.Wn Go.Proofs.YthicijpjpijdjaaDoor.Wo Go.Proofs.YthicijpjpijdjaaDoor.Wp Go.Proofs.YthicijpjpijdjaaDoor.Wq Go.Proofs.YthicijpjpijdjaaDoor.Wr Go.Proofs.YthicijpjpijdjaaDoor.Ws
set_option linter.unusedVariables false
set_option linter.unusedSimpArgs false
set_option linter.unusedSectionVars false


def stepB (s : Int × List (List UInt8) × List Int) (x : WR) : Int × List (List UInt8) × List Int := (crcWrite s.1 x.d, s.2.1 ++ [wframe (wbody x (crcWrite s.1 x.d))], s.2.2 ++ [crcWrite s.1 x.d])
theorem stepB_len : ∀ (l : List WR) (s : Int × List (List UInt8) × List Int), (l.foldl stepB s).2.1.length = s.2.1.length + l.length ∧ (l.foldl stepB s).2.2.length = s.2.2.length + l.length
  | [], s => by simp
  | x :: l, s => by
    have := stepB_len l (stepB s x)
    simp only [List.foldl_cons, List.length_cons, stepB, List.length_append, List.length_nil] at this ⊢
    omega
def stepL (s : Int) (x : WR) : Int := crcWrite s x.d
def strv (l : List UInt8) : Value := .string (str l)
def u32v (z : Int) : Value := .int .u32 z
def GoodR (x : WR) : Prop := x.ht = true ∧ x.d.length ≤ 5000 ∧ (x.has = false → x.d = []) ∧ (x.ty = 4 → x.has = false)
set_option maxRecDepth 100000 in
set_option maxHeartbeats 2000000 in
theorem fits40_spec (x : WR) : Does Tryd.prog 17 [.agg #[.int .i64 (x.ty), .bool (x.ht), .int .u32 (x.c), .bool (x.hc), .string (str (x.d)), .bool (x.has)]] [] (fun v L => ∃ b : Bool, v = .bool b ∧ L = []) := by
  refine Does.enter 7 Tryd.func17 rfl rfl rfl fun W F => ?_
  show WPc _ _ _ _ _ [(0, .agg #[.int .i64 (x.ty), .bool (x.ht), .int .u32 (x.c), .bool (x.hc), .string (str (x.d)), .bool (x.has)])] (F)
  refine WPc.seq ?_
  refine WPc.region ?_
  refine WP.eff rfl rfl rfl (Eff.box (C := [.int .i64 (x.ty), .bool (x.ht), .int .u32 (x.c), .bool (x.hc), .string (str (x.d)), .bool (x.has)]) rfl rfl rfl) ?_
  rintro _ F ⟨b1, rfl, rfl⟩
  refine WP.val rfl rfl rfl (Val.assign rfl rfl) ?_
  refine WP.nil ?_
  refine Out.next ?_
  refine WPc.seq ?_
  refine WPc.seq ?_
  refine WPc.region ?_
  refine WP.val rfl rfl rfl (Val.fieldAddr (j := 4) rfl Ty.fo44_4 rfl rfl) ?_
  refine WP.val rfl rfl rfl (Val.load rfl Ty.sc9 rfl (fun w h => h.cell 0 rfl rfl)) ?_
  refine WP.val rfl rfl rfl (Val.lenL rfl Ty.st9 rfl) ?_
  refine WP.val rfl rfl rfl (Val.gtr rfl rfl rfl) ?_
  refine WP.nil ?_
  refine Out.next ?_
  refine WPc.ifP rfl (fun h1 => ?_) (fun h1 => ?_)
  · skip
    have h1 : ((2147483647 : Int) < ((x.d.length : Nat) : Int)) := h1
    refine WPc.seq ?_
    refine WPc.region ?_
    refine WP.val rfl rfl rfl (Val.assign rfl rfl) ?_
    refine WP.nil ?_
    refine Out.next ?_
    refine WPc.ret ?_
    refine Out.then_ret ?_
    refine Out.drop ?_
    exact Out.ret1 (L' := []) Tryd.results17 rfl ⟨_, rfl, rfl⟩ (fun _ h => h)
  · skip
    have h1 : ¬ ((2147483647 : Int) < ((x.d.length : Nat) : Int)) := h1
    refine WPc.skip ?_
    refine Out.next ?_
    refine WPc.seq ?_
    refine WPc.region ?_
    refine WP.val rfl rfl rfl (Val.assign rfl rfl) ?_
    refine WP.nil ?_
    refine Out.next ?_
    refine WPc.ret ?_
    refine Out.drop ?_
    exact Out.ret1 (L' := []) Tryd.results17 rfl ⟨_, rfl, rfl⟩ (fun _ h => h)
set_option maxRecDepth 100000 in
set_option maxHeartbeats 1000000 in
theorem fits39_nil (A : HProp) (a : Option Addr) (c : Nat) : Does Tryd.prog 6 [.slice a 0 c] [A] (fun v L => ∃ b : Bool, v = .bool b ∧ L = [A]) := by
  refine Does.enter 18 Tryd.func6 rfl rfl rfl fun W F => ?_
  show WPc _ _ _ _ _ [(0, .slice a 0 c)] (A :: F)
  refine WPc.seq ?_
  refine WPc.region ?_
  refine WP.val rfl rfl rfl (Val.assign rfl rfl) ?_
  refine WP.nil ?_
  refine Out.next ?_
  refine WPc.seq ?_
  refine WPc.seq ?_
  refine WPc.region ?_
  refine WP.val rfl rfl rfl (Val.move rfl rfl) ?_
  refine WP.val rfl rfl rfl (Val.len rfl Ty.sl23 rfl) ?_
  refine WP.val rfl rfl rfl (Val.boolK (q := false) (Val.gtr rfl rfl rfl) (by decide)) ?_
  refine WP.nil ?_
  refine Out.next ?_
  refine WPc.condF rfl rfl ?_
  refine WPc.skip ?_
  refine Out.next ?_
  refine WPc.seq ?_
  refine WPc.seq ?_
  refine WPc.region ?_
  refine WP.val rfl rfl rfl (Val.move rfl rfl) ?_
  refine WP.val rfl rfl rfl (Val.len rfl Ty.sl23 rfl) ?_
  refine WP.val rfl rfl rfl (Val.move rfl rfl) ?_
  refine WP.nil ?_
  refine Out.next ?_
  refine WPc.block ?_
  refine WPc.loop (ι := Nat) (fun i => i ≤ (([] : List WR)).length) (fun i => [(8, .slice a 0 c), (9, .int .i64 0), (10, .int .i64 (((i : Nat) : Int)))]) (fun i => A :: F) (fun i => (([] : List WR)).length - i) 0 (Nat.zero_le _) ((Sub.cons rfl (Sub.cons rfl (Sub.cons rfl Sub.nil)))) (fun _ h => h) ?_
  rintro i hi
  show WPc _ _ _ _ _ [(8, .slice a 0 c), (9, .int .i64 0), (10, .int .i64 (((i : Nat) : Int)))] (A :: F)
  replace hi : i ≤ (([] : List WR)).length := hi
  refine WPc.seq ?_
  refine WPc.region ?_
  refine WP.val rfl rfl rfl (Val.lss rfl rfl rfl) ?_
  refine WP.nil ?_
  refine Out.next ?_
  refine WPc.seq ?_
  refine WPc.ifP rfl (fun h1 => ?_) (fun h1 => ?_)
  · skip
    have h1 : (((i : Nat) : Int) < (0 : Int)) := h1
    exfalso; simp at *; omega
  · skip
    have h1 : ¬ (((i : Nat) : Int) < (0 : Int)) := h1
    refine WPc.exit ?_
    refine Out.then_exit ?_
    refine Out.then_exit ?_
    refine Out.block_exit ?_
    refine Out.next ?_
    refine WPc.seq ?_
    refine WPc.region ?_
    refine WP.val rfl rfl rfl (Val.assign rfl rfl) ?_
    refine WP.nil ?_
    refine Out.next ?_
    refine WPc.ret ?_
    exact Out.ret1 (L' := _) Tryd.results6 rfl ⟨_, rfl, rfl⟩ (fun _ h => h)

set_option maxRecDepth 100000 in
set_option maxHeartbeats 1000000 in
theorem fits39_row (A : HProp) (l : List WR) (hlen : l.length ≤ 9223372036854775807) (b0 o0 c0 : Nat) (hr : ∀ w, Holds A w → ∀ i x, l[i]? = some x → w.rangeAt b0 (o0 + i * 6) (WR.cells x)) : Does Tryd.prog 6 [.slice (some ⟨b0, o0, none⟩) l.length c0] [A] (fun v L => ∃ b : Bool, v = .bool b ∧ L = [A]) := by
  refine Does.enter 18 Tryd.func6 rfl rfl rfl fun W F => ?_
  show WPc _ _ _ _ _ [(0, .slice (some ⟨b0, o0, none⟩) l.length c0)] (A :: F)
  refine WPc.seq ?_
  refine WPc.region ?_
  refine WP.val rfl rfl rfl (Val.assign rfl rfl) ?_
  refine WP.nil ?_
  refine Out.next ?_
  refine WPc.seq ?_
  refine WPc.seq ?_
  refine WPc.region ?_
  refine WP.val rfl rfl rfl (Val.move rfl rfl) ?_
  refine WP.val rfl rfl rfl (Val.len rfl Ty.sl23 rfl) ?_
  refine WP.val rfl rfl rfl (Val.gtr rfl rfl rfl) ?_
  refine WP.nil ?_
  refine Out.next ?_
  refine WPc.ifP rfl (fun h1 => ?_) (fun h1 => ?_)
  · skip
    have h1 : ((2147483647 : Int) < ((l.length : Nat) : Int)) := h1
    refine WPc.seq ?_
    refine WPc.region ?_
    refine WP.val rfl rfl rfl (Val.assign rfl rfl) ?_
    refine WP.nil ?_
    refine Out.next ?_
    refine WPc.ret ?_
    refine Out.then_ret ?_
    exact Out.ret1 (L' := _) Tryd.results6 rfl ⟨_, rfl, rfl⟩ (fun _ h => h)
  · skip
    have h1 : ¬ ((2147483647 : Int) < ((l.length : Nat) : Int)) := h1
    refine WPc.skip ?_
    refine Out.next ?_
    refine WPc.seq ?_
    refine WPc.seq ?_
    refine WPc.region ?_
    refine WP.val rfl rfl rfl (Val.move rfl rfl) ?_
    refine WP.val rfl rfl rfl (Val.len rfl Ty.sl23 rfl) ?_
    refine WP.val rfl rfl rfl (Val.move rfl rfl) ?_
    refine WP.nil ?_
    refine Out.next ?_
    refine WPc.block ?_
    refine WPc.loop (ι := Nat) (fun i => i ≤ (l).length) (fun i => [(8, .slice (some ⟨b0, o0, none⟩) l.length c0), (9, .int .i64 ((((l).length : Nat) : Int))), (10, .int .i64 (((i : Nat) : Int)))]) (fun i => A :: F) (fun i => (l).length - i) 0 (Nat.zero_le _) ((Sub.cons rfl (Sub.cons rfl (Sub.cons rfl Sub.nil)))) (fun _ h => h) ?_
    rintro i hi
    show WPc _ _ _ _ _ [(8, .slice (some ⟨b0, o0, none⟩) l.length c0), (9, .int .i64 ((((l).length : Nat) : Int))), (10, .int .i64 (((i : Nat) : Int)))] (A :: F)
    replace hi : i ≤ (l).length := hi
    refine WPc.seq ?_
    refine WPc.region ?_
    refine WP.val rfl rfl rfl (Val.lss rfl rfl rfl) ?_
    refine WP.nil ?_
    refine Out.next ?_
    refine WPc.seq ?_
    refine WPc.ifP rfl (fun h2 => ?_) (fun h2 => ?_)
    · skip
      have h2 : (((i : Nat) : Int) < (((l).length : Nat) : Int)) := h2
      refine WPc.skip ?_
      refine Out.next ?_
      refine WPc.seq ?_
      refine WPc.block ?_
      refine WPc.seq ?_
      have hlt : i < l.length := by omega
      obtain ⟨x, hx⟩ : ∃ x, l[i]? = some x := ⟨_, List.getElem?_eq_getElem hlt⟩
      refine WPc.region ?_
      refine WP.val rfl rfl rfl (Val.indexAddr (j := i) (q := o0 + i * 6) rfl Ty.sl23 rfl rfl (by omega) (by omega) (by omega)) ?_
      refine WP.val rfl rfl rfl (Val.loadAgg (cs := (WR.cells x)) rfl Ty.ag44 rfl (by rfl) (fun w h => hr w (h.at 0 rfl) i x hx)) ?_
      refine WP.eff rfl rfl rfl (Eff.alloc rfl Ty.z44) ?_
      rintro _ _ ⟨b1, rfl, rfl⟩
      refine WP.eff0 rfl rfl (Eff.storeAgg (cs := [.int .i64 (x.ty), .bool (x.ht), .int .u32 (x.c), .bool (x.hc), .string (str (x.d)), .bool (x.has)]) (C' := [.int .i64 (x.ty), .bool (x.ht), .int .u32 (x.c), .bool (x.hc), .string (str (x.d)), .bool (x.has)]) rfl Ty.ag44 rfl rfl rfl rfl (by simp) rfl) ?_
      rintro _ _ rfl
      refine WP.nil ?_
      refine Out.next ?_
      refine WPc.seq ?_
      refine WPc.region ?_
      refine WP.val rfl rfl rfl (Val.loadAgg (cs := [.int .i64 (x.ty), .bool (x.ht), .int .u32 (x.c), .bool (x.hc), .string (str (x.d)), .bool (x.has)]) rfl Ty.ag44 rfl rfl (fun w h => h.range 0 rfl rfl)) ?_
      refine WP.eff rfl rfl rfl (Eff.call rfl rfl Tryd.call17 (fits40_spec x)) ?_
      rintro _ _ ⟨_, ⟨hb, rfl, rfl⟩, rfl⟩
      show WP _ _ _ _ _ _ _ (Blk b1 [.int .i64 (x.ty), .bool (x.ht), .int .u32 (x.c), .bool (x.hc), .string (str (x.d)), .bool (x.has)] 44 :: A :: F)
      refine WP.val rfl rfl rfl (Val.not rfl rfl) ?_
      refine WP.nil ?_
      refine Out.next ?_
      refine WPc.cond rfl (fun h3 => ?_) (fun h3 => ?_)
      · skip
        have h3 : (!hb) = true := h3
        refine WPc.seq ?_
        refine WPc.region ?_
        refine WP.val rfl rfl rfl (Val.assign rfl rfl) ?_
        refine WP.nil ?_
        refine Out.next ?_
        refine WPc.ret ?_
        refine Out.block_ret ?_
        refine Out.then_ret ?_
        refine Out.then_ret ?_
        refine Out.block_ret ?_
        refine Out.then_ret ?_
        refine Out.drop ?_
        exact Out.ret1 (L' := _) Tryd.results6 rfl ⟨_, rfl, rfl⟩ (fun _ h => h)
      · skip
        have h3 : (!hb) = false := h3
        refine WPc.skip ?_
        refine Out.block ?_
        refine Out.next ?_
        refine WPc.region ?_
        refine WP.val rfl rfl rfl (Val.add (z := ((i + 1 : Nat) : Int)) rfl rfl rfl ((w64 (by omega) (by omega)).trans (by omega))) ?_
        refine WP.val rfl rfl rfl (Val.move rfl rfl) ?_
        refine WP.nil ?_
        refine Out.drop ?_
        refine Out.again (i + 1) ?_ ?_ ?_ ?_
        · exact (by first | omega | (dsimp only; omega))
        · first | omega | (dsimp only; omega)
        · exact (Sub.cons rfl (Sub.cons rfl (Sub.cons rfl Sub.nil)))
        · exact (fun _ h => h)
    · skip
      have h2 : ¬ (((i : Nat) : Int) < (((l).length : Nat) : Int)) := h2
      refine WPc.exit ?_
      refine Out.then_exit ?_
      refine Out.then_exit ?_
      refine Out.block_exit ?_
      refine Out.next ?_
      refine WPc.seq ?_
      refine WPc.region ?_
      refine WP.val rfl rfl rfl (Val.assign rfl rfl) ?_
      refine WP.nil ?_
      refine Out.next ?_
      refine WPc.ret ?_
      exact Out.ret1 (L' := _) Tryd.results6 rfl ⟨_, rfl, rfl⟩ (fun _ h => h)

theorem fits39_spec (A : HProp) (l : List WR) (hlen : l.length ≤ 9223372036854775807) (va : Value) (hva : Rd A 6 WR.cells va l) : Does Tryd.prog 6 [va] [A] (fun v L => ∃ b : Bool, v = .bool b ∧ L = [A]) := by
  rcases hva with ⟨b0, o0, c0, rfl, hr⟩ | ⟨rfl, a, c, rfl⟩
  · exact fits39_row A l hlen b0 o0 c0 hr
  · exact fits39_nil A a c

theorem seq_empty (d : List UInt8) : (!(seq (str d) ⟨#[]⟩)) = !(d.isEmpty) := by
  rw [seq_eq]
  congr 1
  cases d with
  | nil => rfl
  | cons x d =>
    have : str (x :: d) ≠ ⟨#[]⟩ := by
      intro h
      have h2 := congrArg ByteArray.size h
      rw [str_size] at h2
      simp [ByteArray.size] at h2
    simp [this]
set_option maxRecDepth 100000 in
set_option maxHeartbeats 1000000 in
theorem wb_nil (A : HProp) (sm : Int) (a : Option Addr) (c : Nat) : Does Tryd.prog 18 [.int .u32 (sm), .slice a 0 c] [A] (fun v L => ∃ u x, v = .tuple #[u, x] ∧ L = [Own 9 1 u 0 ((([] : List WR).foldl stepB (sm, [], [])).2.1.map strv), Own 22 1 x 0 ((([] : List WR).foldl stepB (sm, [], [])).2.2.map u32v), A]) := by
  refine Does.enter 34 Tryd.func18 rfl rfl rfl fun W F => ?_
  show WPc _ _ _ _ _ [(0, .int .u32 (sm)), (1, .slice a 0 c)] (A :: F)
  refine WPc.seq ?_
  refine WPc.region ?_
  refine WP.val rfl rfl rfl (Val.assign rfl rfl) ?_
  refine WP.val rfl rfl rfl (Val.assign rfl rfl) ?_
  refine WP.nil ?_
  refine Out.next ?_
  refine WPc.seq ?_
  refine WPc.region ?_
  refine WP.val rfl rfl rfl (Val.assign rfl rfl) ?_
  refine WP.nil ?_
  refine Out.next ?_
  refine WPc.seq ?_
  refine WPc.region ?_
  refine WP.val rfl rfl rfl (Val.assign rfl rfl) ?_
  refine WP.nil ?_
  refine Out.next ?_
  refine WPc.seq ?_
  refine WPc.seq ?_
  refine WPc.region ?_
  refine WP.val rfl rfl rfl (Val.move rfl rfl) ?_
  refine WP.val rfl rfl rfl (Val.len rfl Ty.sl23 rfl) ?_
  refine WP.val rfl rfl rfl (Val.move rfl rfl) ?_
  refine WP.nil ?_
  refine Out.next ?_
  refine WPc.block ?_
  refine WPc.conv (fun w h => h.ownNil (e := 22) (k := 1)) ?_
  show WPc _ _ _ _ _ _ (Own 22 1 (.slice none 0 0) 0 ([]) :: A :: F)
  refine WPc.conv (fun w h => h.ownNil (e := 9) (k := 1)) ?_
  show WPc _ _ _ _ _ _ (Own 9 1 (.slice none 0 0) 0 ([]) :: Own 22 1 (.slice none 0 0) 0 ([]) :: A :: F)
  have sbl : ∀ i, ((([] : List WR).take i).foldl stepB (sm, [], [])) = (sm, [], []) := fun i => by simp
  refine WPc.loop (ι := Nat × Value × Value) (fun ⟨i, u, v⟩ => i ≤ (([] : List WR)).length) (fun ⟨i, u, v⟩ => [(0, .int .u32 ((((([] : List WR)).take i).foldl stepB (sm, [], [])).1)), (6, u), (7, v), (10, .slice a 0 c), (11, .int .i64 0), (12, .int .i64 (((i : Nat) : Int)))]) (fun ⟨i, u, v⟩ => Own 9 1 u i ((((([] : List WR)).take i).foldl stepB (sm, [], [])).2.1.map strv) :: Own 22 1 v i ((((([] : List WR)).take i).foldl stepB (sm, [], [])).2.2.map u32v) :: A :: F) (fun ⟨i, u, v⟩ => (([] : List WR)).length - i) (0, .slice none 0 0, .slice none 0 0) (Nat.zero_le _) ((Sub.cons rfl (Sub.cons rfl (Sub.cons rfl (Sub.cons rfl (Sub.cons rfl (Sub.cons rfl Sub.nil))))))) (fun _ h => h) ?_
  rintro ⟨i, u, v⟩ hi
  show WPc _ _ _ _ _ [(0, .int .u32 ((((([] : List WR)).take i).foldl stepB (sm, [], [])).1)), (6, u), (7, v), (10, .slice a 0 c), (11, .int .i64 0), (12, .int .i64 (((i : Nat) : Int)))] (Own 9 1 u i ((((([] : List WR)).take i).foldl stepB (sm, [], [])).2.1.map strv) :: Own 22 1 v i ((((([] : List WR)).take i).foldl stepB (sm, [], [])).2.2.map u32v) :: A :: F)
  replace hi : i ≤ (([] : List WR)).length := hi
  refine WPc.seq ?_
  refine WPc.region ?_
  refine WP.val rfl rfl rfl (Val.lss rfl rfl rfl) ?_
  refine WP.nil ?_
  refine Out.next ?_
  refine WPc.seq ?_
  refine WPc.ifP rfl (fun h1 => ?_) (fun h1 => ?_)
  · skip
    have h1 : (((i : Nat) : Int) < (0 : Int)) := h1
    exfalso; simp at *; omega
  · skip
    have h1 : ¬ (((i : Nat) : Int) < (0 : Int)) := h1
    refine WPc.exit ?_
    refine Out.then_exit ?_
    refine Out.then_exit ?_
    refine Out.block_exit ?_
    refine Out.next ?_
    refine WPc.seq ?_
    refine WPc.region ?_
    refine WP.val rfl rfl rfl (Val.move rfl rfl) ?_
    refine WP.val rfl rfl rfl (Val.move rfl rfl) ?_
    refine WP.val rfl rfl rfl (Val.assign rfl rfl) ?_
    refine WP.val rfl rfl rfl (Val.assign rfl rfl) ?_
    refine WP.nil ?_
    refine Out.next ?_
    refine WPc.ret ?_
    have hti : (([] : List WR)).take i = ([] : List WR) := List.take_of_length_le (by first | omega | (simp at *; try omega))
    have hil : i = (([] : List WR)).length := by first | omega | (simp at *; try omega)
    exact Out.ret2 (L' := _) Tryd.results18 rfl rfl ⟨u, v, rfl, rfl⟩ (fun w h => by rw [hti, hil] at h; exact h)

set_option maxRecDepth 100000 in
set_option maxHeartbeats 1000000 in
theorem wb_row (A : HProp) (sm : Int) (l : List WR) (hd : ∀ x ∈ l, x.d.length ≤ 5000) (hlen : l.length ≤ 200) (b0 o0 c0 : Nat) (hr : ∀ w, Holds A w → ∀ i x, l[i]? = some x → w.rangeAt b0 (o0 + i * 6) (WR.cells x)) : Does Tryd.prog 18 [.int .u32 (sm), .slice (some ⟨b0, o0, none⟩) l.length c0] [A] (fun v L => ∃ u x, v = .tuple #[u, x] ∧ L = [Own 9 1 u l.length ((l.foldl stepB (sm, [], [])).2.1.map strv), Own 22 1 x l.length ((l.foldl stepB (sm, [], [])).2.2.map u32v), A]) := by
  refine Does.enter 34 Tryd.func18 rfl rfl rfl fun W F => ?_
  show WPc _ _ _ _ _ [(0, .int .u32 (sm)), (1, .slice (some ⟨b0, o0, none⟩) l.length c0)] (A :: F)
  refine WPc.seq ?_
  refine WPc.region ?_
  refine WP.val rfl rfl rfl (Val.assign rfl rfl) ?_
  refine WP.val rfl rfl rfl (Val.assign rfl rfl) ?_
  refine WP.nil ?_
  refine Out.next ?_
  refine WPc.seq ?_
  refine WPc.region ?_
  refine WP.val rfl rfl rfl (Val.assign rfl rfl) ?_
  refine WP.nil ?_
  refine Out.next ?_
  refine WPc.seq ?_
  refine WPc.region ?_
  refine WP.val rfl rfl rfl (Val.assign rfl rfl) ?_
  refine WP.nil ?_
  refine Out.next ?_
  refine WPc.seq ?_
  refine WPc.seq ?_
  refine WPc.region ?_
  refine WP.val rfl rfl rfl (Val.move rfl rfl) ?_
  refine WP.val rfl rfl rfl (Val.len rfl Ty.sl23 rfl) ?_
  refine WP.val rfl rfl rfl (Val.move rfl rfl) ?_
  refine WP.nil ?_
  refine Out.next ?_
  refine WPc.block ?_
  refine WPc.conv (fun w h => h.ownNil (e := 22) (k := 1)) ?_
  show WPc _ _ _ _ _ _ (Own 22 1 (.slice none 0 0) 0 ([]) :: A :: F)
  refine WPc.conv (fun w h => h.ownNil (e := 9) (k := 1)) ?_
  show WPc _ _ _ _ _ _ (Own 9 1 (.slice none 0 0) 0 ([]) :: Own 22 1 (.slice none 0 0) 0 ([]) :: A :: F)
  refine WPc.loop (ι := Nat × Value × Value) (fun ⟨i, u, v⟩ => i ≤ (l).length) (fun ⟨i, u, v⟩ => [(0, .int .u32 ((((l).take i).foldl stepB (sm, [], [])).1)), (6, u), (7, v), (10, .slice (some ⟨b0, o0, none⟩) l.length c0), (11, .int .i64 ((((l).length : Nat) : Int))), (12, .int .i64 (((i : Nat) : Int)))]) (fun ⟨i, u, v⟩ => Own 9 1 u i ((((l).take i).foldl stepB (sm, [], [])).2.1.map strv) :: Own 22 1 v i ((((l).take i).foldl stepB (sm, [], [])).2.2.map u32v) :: A :: F) (fun ⟨i, u, v⟩ => (l).length - i) (0, .slice none 0 0, .slice none 0 0) (Nat.zero_le _) ((Sub.cons rfl (Sub.cons rfl (Sub.cons rfl (Sub.cons rfl (Sub.cons rfl (Sub.cons rfl Sub.nil))))))) (fun _ h => h) ?_
  rintro ⟨i, u, v⟩ hi
  show WPc _ _ _ _ _ [(0, .int .u32 ((((l).take i).foldl stepB (sm, [], [])).1)), (6, u), (7, v), (10, .slice (some ⟨b0, o0, none⟩) l.length c0), (11, .int .i64 ((((l).length : Nat) : Int))), (12, .int .i64 (((i : Nat) : Int)))] (Own 9 1 u i ((((l).take i).foldl stepB (sm, [], [])).2.1.map strv) :: Own 22 1 v i ((((l).take i).foldl stepB (sm, [], [])).2.2.map u32v) :: A :: F)
  replace hi : i ≤ (l).length := hi
  refine WPc.seq ?_
  refine WPc.region ?_
  refine WP.val rfl rfl rfl (Val.lss rfl rfl rfl) ?_
  refine WP.nil ?_
  refine Out.next ?_
  refine WPc.seq ?_
  refine WPc.ifP rfl (fun h1 => ?_) (fun h1 => ?_)
  · skip
    have h1 : (((i : Nat) : Int) < (((l).length : Nat) : Int)) := h1
    refine WPc.skip ?_
    refine Out.next ?_
    refine WPc.seq ?_
    refine WPc.block ?_
    refine WPc.seq ?_
    have hlt : i < l.length := by omega
    obtain ⟨x, hx⟩ : ∃ x, l[i]? = some x := ⟨_, List.getElem?_eq_getElem hlt⟩
    have hxd := hd x (List.mem_of_getElem? hx)
    refine WPc.region ?_
    refine WP.val rfl rfl rfl (Val.indexAddr (j := i) (q := o0 + i * 6) rfl Ty.sl23 rfl rfl (by omega) (by omega) (by omega)) ?_
    refine WP.val rfl rfl rfl (Val.loadAgg (cs := (WR.cells x)) rfl Ty.ag44 rfl (by rfl) (fun w h => hr w (h.at 2 rfl) i x hx)) ?_
    refine WP.eff rfl rfl rfl (Eff.alloc rfl Ty.z44) ?_
    rintro _ _ ⟨b1, rfl, rfl⟩
    refine WP.eff0 rfl rfl (Eff.storeAgg (cs := [.int .i64 (x.ty), .bool (x.ht), .int .u32 (x.c), .bool (x.hc), .string (str (x.d)), .bool (x.has)]) (C' := [.int .i64 (x.ty), .bool (x.ht), .int .u32 (x.c), .bool (x.hc), .string (str (x.d)), .bool (x.has)]) rfl Ty.ag44 rfl rfl rfl rfl (by simp) rfl) ?_
    rintro _ _ rfl
    refine WP.nil ?_
    refine Out.next ?_
    refine WPc.seq ?_
    refine WPc.region ?_
    refine WP.val rfl rfl rfl (Val.move rfl rfl) ?_
    refine WP.val rfl rfl rfl (Val.fieldAddr (j := 4) rfl Ty.fo44_4 rfl rfl) ?_
    refine WP.val rfl rfl rfl (Val.load rfl Ty.sc9 rfl (fun w h => h.cell 0 rfl rfl)) ?_
    refine WP.eff rfl rfl rfl (Eff.call rfl rfl Tryd.call24 (ssum_spec (((l).take i).foldl stepB (sm, [], [])).1 (str x.d) (by rw [str_size]; omega))) ?_
    rintro _ _ ⟨_, ⟨rfl, rfl⟩, rfl⟩
    show WP _ _ _ _ _ _ _ (Blk b1 [.int .i64 (x.ty), .bool (x.ht), .int .u32 (x.c), .bool (x.hc), .string (str (x.d)), .bool (x.has)] 44 :: Own 9 1 u i ((((l).take i).foldl stepB (sm, [], [])).2.1.map strv) :: Own 22 1 v i ((((l).take i).foldl stepB (sm, [], [])).2.2.map u32v) :: A :: F)
    refine WP.val rfl rfl rfl (Val.assign rfl rfl) ?_
    refine WP.nil ?_
    refine Out.next ?_
    refine WPc.region ?_
    refine WP.val rfl rfl rfl (Val.move rfl rfl) ?_
    refine WP.val rfl rfl rfl (Val.loadAgg (cs := [.int .i64 (x.ty), .bool (x.ht), .int .u32 (x.c), .bool (x.hc), .string (str (x.d)), .bool (x.has)]) rfl Ty.ag44 rfl rfl (fun w h => h.range 0 rfl rfl)) ?_
    refine WP.val rfl rfl rfl (Val.move rfl rfl) ?_
    have hwl := wbody_len x (crcWrite (((l).take i).foldl stepB (sm, [], [])).1 x.d)
    refine WP.eff rfl rfl rfl (Eff.call rfl rfl Tryd.call29 (wbody_spec x (crcWrite (((l).take i).foldl stepB (sm, [], [])).1 x.d) (by omega))) ?_
    rintro _ _ ⟨_, ⟨rfl, rfl⟩, rfl⟩
    show WP _ _ _ _ _ _ _ (Blk b1 [.int .i64 (x.ty), .bool (x.ht), .int .u32 (x.c), .bool (x.hc), .string (str (x.d)), .bool (x.has)] 44 :: Own 9 1 u i ((((l).take i).foldl stepB (sm, [], [])).2.1.map strv) :: Own 22 1 v i ((((l).take i).foldl stepB (sm, [], [])).2.2.map u32v) :: A :: F)
    refine WP.eff rfl rfl rfl (Eff.call rfl rfl Tryd.call28 (wframe_spec (wbody x (crcWrite (((l).take i).foldl stepB (sm, [], [])).1 x.d)) (by omega))) ?_
    rintro _ _ ⟨_, ⟨rfl, rfl⟩, rfl⟩
    show WP _ _ _ _ _ _ _ (Blk b1 [.int .i64 (x.ty), .bool (x.ht), .int .u32 (x.c), .bool (x.hc), .string (str (x.d)), .bool (x.has)] 44 :: Own 9 1 u i ((((l).take i).foldl stepB (sm, [], [])).2.1.map strv) :: Own 22 1 v i ((((l).take i).foldl stepB (sm, [], [])).2.2.map u32v) :: A :: F)
    refine WP.eff rfl rfl rfl (Eff.mkSlice (C := [.string (str (wframe (wbody x (crcWrite (((l).take i).foldl stepB (sm, [], [])).1 x.d))))]) rfl Ty.sl27 rfl (fun _ => by kernel_rfl)) ?_
    rintro _ _ ⟨b2, rfl, rfl⟩
    refine WP.perm pl2 ?_
    refine WP.eff rfl rfl rfl (Eff.append (m := 1) (n0 := i) (news := [.string (str (wframe (wbody x (crcWrite (((l).take i).foldl stepB (sm, [], [])).1 x.d))))]) rfl Ty.sl27 Ty.z9 rfl rfl rfl (.slice Ty.sl27 rfl rfl (fun w h => cells_range (h.range 1 rfl rfl))) (by omega) (by omega)) ?_
    rintro v3 _ ⟨onev3, rfl⟩
    refine WP.val rfl rfl rfl (Val.move rfl rfl) ?_
    refine WP.val rfl rfl rfl (Val.move rfl rfl) ?_
    refine WP.eff rfl rfl rfl (Eff.mkSlice (C := [.int .u32 ((crcWrite (((l).take i).foldl stepB (sm, [], [])).1 x.d))]) rfl Ty.sl47 rfl (fun _ => by kernel_rfl)) ?_
    rintro _ _ ⟨b4, rfl, rfl⟩
    refine WP.perm pl4 ?_
    refine WP.eff rfl rfl rfl (Eff.append (m := 1) (n0 := i) (news := [.int .u32 ((crcWrite (((l).take i).foldl stepB (sm, [], [])).1 x.d))]) rfl Ty.sl47 Ty.z22 rfl rfl rfl (.slice Ty.sl47 rfl rfl (fun w h => cells_range (h.range 1 rfl rfl))) (by omega) (by omega)) ?_
    rintro v5 _ ⟨onev5, rfl⟩
    refine WP.val rfl rfl rfl (Val.assign rfl rfl) ?_
    refine WP.val rfl rfl rfl (Val.assign rfl rfl) ?_
    refine WP.nil ?_
    refine Out.block ?_
    refine Out.next ?_
    refine WPc.region ?_
    refine WP.val rfl rfl rfl (Val.add (z := ((i + 1 : Nat) : Int)) rfl rfl rfl ((w64 (by omega) (by omega)).trans (by omega))) ?_
    refine WP.val rfl rfl rfl (Val.move rfl rfl) ?_
    refine WP.nil ?_
    have htk := take_more hx
    have hst : ((l).take (i + 1)).foldl stepB (sm, [], []) = stepB (((l).take i).foldl stepB (sm, [], [])) x := by rw [htk, List.foldl_append]; rfl
    refine Out.perm pl1 ?_
    refine Out.drop ?_
    refine Out.perm pl2 ?_
    refine Out.drop ?_
    refine Out.perm pl2 ?_
    refine Out.drop ?_
    refine Out.perm pl2 ?_
    refine Out.perm pl1 ?_
    refine Out.perm pl2 ?_
    refine Out.again (i + 1, v3, v5) ?_ ?_ ?_ ?_
    · exact (by first | omega | (dsimp only; omega))
    · (dsimp only; omega)
    · exact (Sub.cons (by rw [hst]; rfl) (Sub.cons rfl (Sub.cons rfl (Sub.cons rfl (Sub.cons rfl (Sub.cons rfl Sub.nil))))))
    · exact (fun w h => by dsimp only; rw [hst]; unfold stepB; dsimp only; rw [List.map_append, List.map_append]; exact h)
  · skip
    have h1 : ¬ (((i : Nat) : Int) < (((l).length : Nat) : Int)) := h1
    refine WPc.exit ?_
    refine Out.then_exit ?_
    refine Out.then_exit ?_
    refine Out.block_exit ?_
    refine Out.next ?_
    refine WPc.seq ?_
    refine WPc.region ?_
    refine WP.val rfl rfl rfl (Val.move rfl rfl) ?_
    refine WP.val rfl rfl rfl (Val.move rfl rfl) ?_
    refine WP.val rfl rfl rfl (Val.assign rfl rfl) ?_
    refine WP.val rfl rfl rfl (Val.assign rfl rfl) ?_
    refine WP.nil ?_
    refine Out.next ?_
    refine WPc.ret ?_
    have hti : (l).take i = l := List.take_of_length_le (by first | omega | (simp at *; try omega))
    have hil : i = (l).length := by first | omega | (simp at *; try omega)
    exact Out.ret2 (L' := _) Tryd.results18 rfl rfl ⟨u, v, rfl, rfl⟩ (fun w h => by rw [hti, hil] at h; exact h)

theorem wb_spec (A : HProp) (sm : Int) (l : List WR) (hd : ∀ x ∈ l, x.d.length ≤ 5000) (hlen : l.length ≤ 200) (va : Value) (hva : Rd A 6 WR.cells va l) : Does Tryd.prog 18 [.int .u32 (sm), va] [A] (fun v L => ∃ u x, v = .tuple #[u, x] ∧ L = [Own 9 1 u l.length ((l.foldl stepB (sm, [], [])).2.1.map strv), Own 22 1 x l.length ((l.foldl stepB (sm, [], [])).2.2.map u32v), A]) := by
  rcases hva with ⟨b0, o0, c0, rfl, hr⟩ | ⟨rfl, a, c, rfl⟩
  · exact wb_row A sm l hd hlen b0 o0 c0 hr
  · exact wb_nil A sm a c
set_option maxRecDepth 100000 in
set_option maxHeartbeats 1000000 in
theorem walast_nil (A : HProp) (sm : Int) (a : Option Addr) (c : Nat) : Does Tryd.prog 14 [.int .u32 (sm), .slice a 0 c] [A] (fun v L => v = .int .u32 (([] : List WR).foldl stepL sm) ∧ L = [A]) := by
  refine Does.enter 19 Tryd.func14 rfl rfl rfl fun W F => ?_
  show WPc _ _ _ _ _ [(0, .int .u32 (sm)), (1, .slice a 0 c)] (A :: F)
  refine WPc.seq ?_
  refine WPc.region ?_
  refine WP.val rfl rfl rfl (Val.assign rfl rfl) ?_
  refine WP.nil ?_
  refine Out.next ?_
  refine WPc.seq ?_
  refine WPc.seq ?_
  refine WPc.region ?_
  refine WP.val rfl rfl rfl (Val.move rfl rfl) ?_
  refine WP.val rfl rfl rfl (Val.len rfl Ty.sl23 rfl) ?_
  refine WP.val rfl rfl rfl (Val.move rfl rfl) ?_
  refine WP.nil ?_
  refine Out.next ?_
  refine WPc.block ?_
  refine WPc.loop (ι := Nat) (fun i => i ≤ (([] : List WR)).length) (fun i => [(0, .int .u32 ((((([] : List WR)).take i).foldl stepL sm))), (7, .slice a 0 c), (8, .int .i64 0), (9, .int .i64 (((i : Nat) : Int)))]) (fun i => A :: F) (fun i => (([] : List WR)).length - i) 0 (Nat.zero_le _) ((Sub.cons rfl (Sub.cons rfl (Sub.cons rfl (Sub.cons rfl Sub.nil))))) (fun _ h => h) ?_
  rintro i hi
  show WPc _ _ _ _ _ [(0, .int .u32 ((((([] : List WR)).take i).foldl stepL sm))), (7, .slice a 0 c), (8, .int .i64 0), (9, .int .i64 (((i : Nat) : Int)))] (A :: F)
  replace hi : i ≤ (([] : List WR)).length := hi
  refine WPc.seq ?_
  refine WPc.region ?_
  refine WP.val rfl rfl rfl (Val.lss rfl rfl rfl) ?_
  refine WP.nil ?_
  refine Out.next ?_
  refine WPc.seq ?_
  refine WPc.ifP rfl (fun h1 => ?_) (fun h1 => ?_)
  · skip
    have h1 : (((i : Nat) : Int) < (0 : Int)) := h1
    exfalso; simp at *; omega
  · skip
    have h1 : ¬ (((i : Nat) : Int) < (0 : Int)) := h1
    refine WPc.exit ?_
    refine Out.then_exit ?_
    refine Out.then_exit ?_
    refine Out.block_exit ?_
    refine Out.next ?_
    refine WPc.seq ?_
    refine WPc.region ?_
    refine WP.val rfl rfl rfl (Val.move rfl rfl) ?_
    refine WP.val rfl rfl rfl (Val.assign rfl rfl) ?_
    refine WP.nil ?_
    refine Out.next ?_
    refine WPc.ret ?_
    have hti : (([] : List WR)).take i = ([] : List WR) := List.take_of_length_le (by first | omega | (simp at *; try omega))
    exact Out.ret1 (L' := _) Tryd.results14 rfl ⟨by rw [hti], rfl⟩ (fun _ h => h)

set_option maxRecDepth 100000 in
set_option maxHeartbeats 1000000 in
theorem walast_row (A : HProp) (sm : Int) (l : List WR) (hd : ∀ x ∈ l, x.d.length ≤ 5000) (hlen : l.length ≤ 200) (b0 o0 c0 : Nat) (hr : ∀ w, Holds A w → ∀ i x, l[i]? = some x → w.rangeAt b0 (o0 + i * 6) (WR.cells x)) : Does Tryd.prog 14 [.int .u32 (sm), .slice (some ⟨b0, o0, none⟩) l.length c0] [A] (fun v L => v = .int .u32 (l.foldl stepL sm) ∧ L = [A]) := by
  refine Does.enter 19 Tryd.func14 rfl rfl rfl fun W F => ?_
  show WPc _ _ _ _ _ [(0, .int .u32 (sm)), (1, .slice (some ⟨b0, o0, none⟩) l.length c0)] (A :: F)
  refine WPc.seq ?_
  refine WPc.region ?_
  refine WP.val rfl rfl rfl (Val.assign rfl rfl) ?_
  refine WP.nil ?_
  refine Out.next ?_
  refine WPc.seq ?_
  refine WPc.seq ?_
  refine WPc.region ?_
  refine WP.val rfl rfl rfl (Val.move rfl rfl) ?_
  refine WP.val rfl rfl rfl (Val.len rfl Ty.sl23 rfl) ?_
  refine WP.val rfl rfl rfl (Val.move rfl rfl) ?_
  refine WP.nil ?_
  refine Out.next ?_
  refine WPc.block ?_
  refine WPc.loop (ι := Nat) (fun i => i ≤ (l).length) (fun i => [(0, .int .u32 ((((l).take i).foldl stepL sm))), (7, .slice (some ⟨b0, o0, none⟩) l.length c0), (8, .int .i64 ((((l).length : Nat) : Int))), (9, .int .i64 (((i : Nat) : Int)))]) (fun i => A :: F) (fun i => (l).length - i) 0 (Nat.zero_le _) ((Sub.cons rfl (Sub.cons rfl (Sub.cons rfl (Sub.cons rfl Sub.nil))))) (fun _ h => h) ?_
  rintro i hi
  show WPc _ _ _ _ _ [(0, .int .u32 ((((l).take i).foldl stepL sm))), (7, .slice (some ⟨b0, o0, none⟩) l.length c0), (8, .int .i64 ((((l).length : Nat) : Int))), (9, .int .i64 (((i : Nat) : Int)))] (A :: F)
  replace hi : i ≤ (l).length := hi
  refine WPc.seq ?_
  refine WPc.region ?_
  refine WP.val rfl rfl rfl (Val.lss rfl rfl rfl) ?_
  refine WP.nil ?_
  refine Out.next ?_
  refine WPc.seq ?_
  refine WPc.ifP rfl (fun h1 => ?_) (fun h1 => ?_)
  · skip
    have h1 : (((i : Nat) : Int) < (((l).length : Nat) : Int)) := h1
    refine WPc.skip ?_
    refine Out.next ?_
    refine WPc.seq ?_
    refine WPc.block ?_
    refine WPc.seq ?_
    have hlt : i < l.length := by omega
    obtain ⟨x, hx⟩ : ∃ x, l[i]? = some x := ⟨_, List.getElem?_eq_getElem hlt⟩
    have hxd := hd x (List.mem_of_getElem? hx)
    refine WPc.region ?_
    refine WP.val rfl rfl rfl (Val.indexAddr (j := i) (q := o0 + i * 6) rfl Ty.sl23 rfl rfl (by omega) (by omega) (by omega)) ?_
    refine WP.val rfl rfl rfl (Val.loadAgg (cs := (WR.cells x)) rfl Ty.ag44 rfl (by rfl) (fun w h => hr w (h.at 0 rfl) i x hx)) ?_
    refine WP.eff rfl rfl rfl (Eff.alloc rfl Ty.z44) ?_
    rintro _ _ ⟨b1, rfl, rfl⟩
    refine WP.eff0 rfl rfl (Eff.storeAgg (cs := [.int .i64 (x.ty), .bool (x.ht), .int .u32 (x.c), .bool (x.hc), .string (str (x.d)), .bool (x.has)]) (C' := [.int .i64 (x.ty), .bool (x.ht), .int .u32 (x.c), .bool (x.hc), .string (str (x.d)), .bool (x.has)]) rfl Ty.ag44 rfl rfl rfl rfl (by simp) rfl) ?_
    rintro _ _ rfl
    refine WP.nil ?_
    refine Out.next ?_
    refine WPc.region ?_
    refine WP.val rfl rfl rfl (Val.move rfl rfl) ?_
    refine WP.val rfl rfl rfl (Val.fieldAddr (j := 4) rfl Ty.fo44_4 rfl rfl) ?_
    refine WP.val rfl rfl rfl (Val.load rfl Ty.sc9 rfl (fun w h => h.cell 0 rfl rfl)) ?_
    refine WP.eff rfl rfl rfl (Eff.call rfl rfl Tryd.call24 (ssum_spec (((l).take i).foldl stepL sm) (str x.d) (by rw [str_size]; omega))) ?_
    rintro _ _ ⟨_, ⟨rfl, rfl⟩, rfl⟩
    show WP _ _ _ _ _ _ _ (Blk b1 [.int .i64 (x.ty), .bool (x.ht), .int .u32 (x.c), .bool (x.hc), .string (str (x.d)), .bool (x.has)] 44 :: A :: F)
    refine WP.val rfl rfl rfl (Val.assign rfl rfl) ?_
    refine WP.nil ?_
    refine Out.block ?_
    refine Out.next ?_
    refine WPc.region ?_
    refine WP.val rfl rfl rfl (Val.add (z := ((i + 1 : Nat) : Int)) rfl rfl rfl ((w64 (by omega) (by omega)).trans (by omega))) ?_
    refine WP.val rfl rfl rfl (Val.move rfl rfl) ?_
    refine WP.nil ?_
    have htk := take_more hx
    have hst : ((l).take (i + 1)).foldl stepL sm = crcWrite (((l).take i).foldl stepL sm) x.d := by rw [htk, List.foldl_append]; rfl
    refine Out.drop ?_
    refine Out.again (i + 1) ?_ ?_ ?_ ?_
    · exact (by first | omega | (dsimp only; omega))
    · first | omega | (dsimp only; omega)
    · exact (Sub.cons (by rw [hst]; rfl) (Sub.cons rfl (Sub.cons rfl (Sub.cons rfl Sub.nil))))
    · exact (fun _ h => h)
  · skip
    have h1 : ¬ (((i : Nat) : Int) < (((l).length : Nat) : Int)) := h1
    refine WPc.exit ?_
    refine Out.then_exit ?_
    refine Out.then_exit ?_
    refine Out.block_exit ?_
    refine Out.next ?_
    refine WPc.seq ?_
    refine WPc.region ?_
    refine WP.val rfl rfl rfl (Val.move rfl rfl) ?_
    refine WP.val rfl rfl rfl (Val.assign rfl rfl) ?_
    refine WP.nil ?_
    refine Out.next ?_
    refine WPc.ret ?_
    have hti : (l).take i = l := List.take_of_length_le (by first | omega | (simp at *; try omega))
    exact Out.ret1 (L' := _) Tryd.results14 rfl ⟨by rw [hti], rfl⟩ (fun _ h => h)

theorem walast_spec (A : HProp) (sm : Int) (l : List WR) (hd : ∀ x ∈ l, x.d.length ≤ 5000) (hlen : l.length ≤ 200) (va : Value) (hva : Rd A 6 WR.cells va l) : Does Tryd.prog 14 [.int .u32 (sm), va] [A] (fun v L => v = .int .u32 (l.foldl stepL sm) ∧ L = [A]) := by
  rcases hva with ⟨b0, o0, c0, rfl, hr⟩ | ⟨rfl, a, c, rfl⟩
  · exact walast_row A sm l hd hlen b0 o0 c0 hr
  · exact walast_nil A sm a c

end Go.Proofs.YthicijpjpijdjaaDoor.Wt
