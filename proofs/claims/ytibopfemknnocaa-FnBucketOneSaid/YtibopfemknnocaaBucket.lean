import Derived.Test.YtibopfemknnocaaLive
import Derived.RegionTactic
import Derived.ChangeAlike
namespace Go.Proofs.Ytibopfemknnocaa.Bucket
open Go.RowKit Go.Lib Go.Proofs.Ytibopfemknnocaa.Open Go.Proofs.Ytibopfemknnocaa.Kept Go.Proofs.Ytibopfemknnocaa.Rev Go.Proofs.Ytibopfemknnocaa.Key Go.Proofs.Ytibopfemknnocaa.Fine Go.Proofs.Ytibopfemknnocaa.Back Go.Proofs.Ytibopfemknnocaa.Live

theorem row_below {w w' : World} {a : Option Addr} {l : List UInt8} (h : Vr.RowAt w a l) (hb : Below w.heap.size w w') : Vr.RowAt w' a l := by
  rcases h with rfl | ⟨b, o, rfl, h⟩
  · exact .inl rfl
  · exact .inr ⟨b, o, rfl, fun i hi => (hb.cell (p := ⟨b, o + i, none⟩) (cell_lt (h i hi)).1).trans (h i hi)⟩

def w4 (w : World) (a : Option Addr) (n c : Nat) : World := (((w.alloc (.cells #[.slice a n c] 47)).alloc (.cells #[.int .i64 0, .int .i64 0] 44)).alloc (.cells #[.int .i64 0, .int .i64 0] 44)).alloc (.cells #[.bool false] 4)
theorem w4_below (w : World) (a : Option Addr) (n c : Nat) : Below w.heap.size w (w4 w a n c) := (((Below.new _ _).more (Below.new _ _)).more (Below.new _ _)).more (Below.new _ _)
theorem w4_size (w : World) (a : Option Addr) (n c : Nat) : (w4 w a n c).heap.size = w.heap.size + 4 := by simp [w4]

def keyOr (l : List UInt8) : Int × Int × Bool × Bool := match parse l with | some (m, s, t) => (m, s, t, true) | none => (0, 0, false, false)

structure After4 (w : World) (m s : Int) (t : Bool) (w' : World) : Prop where
  below : Below w.heap.size w w'
  res : w'.heap[w.heap.size + 1]? = some (.cells #[.int .i64 0, .int .i64 0] 44 (0, 0))
  rev : w'.heap[w.heap.size + 2]? = some (.cells #[.int .i64 m, .int .i64 s] 44 (0, 0))
  tom : w'.heap[w.heap.size + 3]? = some (.cells #[.bool t] 4 (0, 0))
  ok : w'.heap[w.heap.size + 4]? = some (.cells #[.bool false] 4 (0, 0))

theorem fine_key (w : World) (a : Option Addr) (n c : Nat) (l : List UInt8) (hl : l.length = n) (h : Vr.RowAt w a l) (hcap : n ≤ c) (m s : Int) (t ok : Bool) (hrev : keyOr l = (m, s, t, ok)) :
    Calls Try.prog 46 #[.func (.func 47) #[] #[.pointer (some ⟨w.heap.size, 0, none⟩), .pointer (some ⟨w.heap.size + 2, 0, none⟩), .pointer (some ⟨w.heap.size + 3, 0, none⟩)]] (w4 w a n c) (FinePost ok (w.heap.size + 4) (After4 w m s t)) := by
  have e4 := w4_size w a n c
  have b4 := w4_below w a n c
  have b5 : Below w.heap.size w ((w4 w a n c).alloc (.cells #[.bool false] 4)) := b4.more (Below.new _ _)
  have r0 : ((w4 w a n c).alloc (.cells #[.bool false] 4)).heap[w.heap.size]? = some (.cells #[.slice a n c] 47 (0, 0)) :=
    alloc_at (alloc_at (alloc_at (alloc_at (alloc_new w (.cells #[.slice a n c] 47)) _) _) _) _
  have r1 : ((w4 w a n c).alloc (.cells #[.bool false] 4)).heap[w.heap.size + 1]? = some (.cells #[.int .i64 0, .int .i64 0] 44 (0, 0)) := by
    have := alloc_at (alloc_at (alloc_at (alloc_new (w.alloc (.cells #[.slice a n c] 47)) (.cells #[.int .i64 0, .int .i64 0] 44)) (.cells #[.int .i64 0, .int .i64 0] 44)) (.cells #[.bool false] 4)) (.cells #[.bool false] 4)
    simpa [w4] using this
  have r2 : ((w4 w a n c).alloc (.cells #[.bool false] 4)).heap[w.heap.size + 2]? = some (.cells #[.int .i64 0, .int .i64 0] 44 (0, 0)) := by
    have := alloc_at (alloc_at (alloc_new ((w.alloc (.cells #[.slice a n c] 47)).alloc (.cells #[.int .i64 0, .int .i64 0] 44)) (.cells #[.int .i64 0, .int .i64 0] 44)) (.cells #[.bool false] 4)) (.cells #[.bool false] 4)
    simpa [w4] using this
  have r3 : ((w4 w a n c).alloc (.cells #[.bool false] 4)).heap[w.heap.size + 3]? = some (.cells #[.bool false] 4 (0, 0)) := by
    have := alloc_at (alloc_new (((w.alloc (.cells #[.slice a n c] 47)).alloc (.cells #[.int .i64 0, .int .i64 0] 44)).alloc (.cells #[.int .i64 0, .int .i64 0] 44)) (.cells #[.bool false] 4)) (.cells #[.bool false] 4)
    simpa [w4] using this
  have r4 : ((w4 w a n c).alloc (.cells #[.bool false] 4)).heap[w.heap.size + 4]? = some (.cells #[.bool false] 4 (0, 0)) := by
    have := alloc_new (w4 w a n c) (.cells #[.bool false] 4)
    rwa [e4] at this
  have hrow := row_below h b5
  have hG : ∀ w', After4 w m s t w' → w'.cell? ⟨(w4 w a n c).heap.size, 0, none⟩ = some (.bool false) ∧ w'.frozen? ⟨(w4 w a n c).heap.size, 0, none⟩ = false := by
    intro w' hg
    rw [e4]
    exact ⟨by simpa using cell_of hg.ok 0, free_of hg.ok 0⟩
  unfold keyOr at hrev
  rw [← e4]
  cases hp : parse l with
  | none =>
    rw [hp] at hrev
    simp only [Prod.mk.injEq] at hrev
    obtain ⟨rfl, rfl, rfl, rfl⟩ := hrev
    refine fine_panic _ _ _ _ enter47 ?_ hG
    refine (clo_key_bad _ w.heap.size (w.heap.size + 2) (w.heap.size + 3) a n c l hl hrow hcap hp (by simpa using cell_of r0 0)).mono ?_
    rintro e w' ⟨u, pv, rfl, hb⟩
    refine ⟨⟨u, pv, rfl⟩, b5.more hb, ?_, ?_, ?_, ?_⟩
    · exact (hb.block _ (lt_of_block r1)).trans r1
    · exact (hb.block _ (lt_of_block r2)).trans r2
    · exact (hb.block _ (lt_of_block r3)).trans r3
    · exact (hb.block _ (lt_of_block r4)).trans r4
  | some q =>
    obtain ⟨m', s', t'⟩ := q
    rw [hp] at hrev
    simp only [Prod.mk.injEq] at hrev
    obtain ⟨rfl, rfl, rfl, rfl⟩ := hrev
    refine fine_ok _ _ _ _ enter47 ?_ hG
    refine (clo_key_ok _ w.heap.size (w.heap.size + 2) (w.heap.size + 3) a n c l hl hrow hcap m' s' t' hp (by simpa using cell_of r0 0) _ _ _ r2 r3 (by omega)).mono ?_
    rintro e w' ⟨rfl, hk, hr, ht⟩
    refine ⟨rfl, ?_, hk.at r1 (by omega), hr, ht, hk.at r4 (by omega)⟩
    exact ((Kept.of_below (M := fun k => k = w.heap.size + 2 ∨ k = w.heap.size + 3) b5).trans hk).below (Nat.le_refl _) (fun k hk => by omega)

set_option maxRecDepth 100000 in
set_option maxHeartbeats 1000000 in
theorem bytes_bucket (w : World) (a : Option Addr) (n c : Nat) (l : List UInt8) (hl : l.length = n) (h : Vr.RowAt w a l) (hcap : n ≤ c) (m s : Int) (t ok : Bool) (hrev : keyOr l = (m, s, t, ok)) :
    Calls Try.prog 26 #[.slice a n c] w (Gives (.tuple #[.agg #[.int .i64 m, .int .i64 s], .bool t, .bool ok]) w) := by
  have HF : Box _ := ⟨fine_key w a n c l hl h hcap m s t ok hrev⟩
  have hmf := mkf
  clear h hl hrev
  go_enter Try.func26, Try.ntmps26
  go_wp2_with fail
  refine HF.out.mono ?_
  rintro e w2 ⟨w1, hg, rfl, rfl⟩
  have c1 := cell_of hg.res 0
  have c1' := cell_of hg.res 1
  have f1 := free_of hg.res 0
  have f1' := free_of hg.res 1
  have c2 := cell_of hg.rev 0
  have c2' := cell_of hg.rev 1
  have c3 := cell_of hg.tom 0
  simp at c1 c1' c2 c2' c3
  have hb := hg.below
  have HG : Box _ := ⟨hg⟩
  have HB : Box _ := ⟨hb⟩
  clear hg hb
  go_wp2_with fail
  go_region
  all_goals go_wp2_with fail
  all_goals
    refine bodyPost_ret (v := .tuple #[.agg #[.int .i64 m, .int .i64 s], .bool t, .bool ok]) ?_ rfl (gives ?_)
  all_goals first | (simp [results, Try.results26, go_sem, c1, c1', c2, c2']; done) | exact (((HB.out.setCell (by simp) _).drew.setCell (by simp) _).setCell (by simp) _) | go_show
end Go.Proofs.Ytibopfemknnocaa.Bucket
