import Derived.Test.YtibopfemknnocaaBack
import Derived.RegionTactic
namespace Go.Proofs.Ytibopfemknnocaa.Back
open Go.RowKit Go.Lib Go.Proofs.Ytibopfemknnocaa.Open Go.Proofs.Ytibopfemknnocaa.Kept Go.Proofs.Ytibopfemknnocaa.Rev Go.Proofs.Ytibopfemknnocaa.Key Go.Proofs.Ytibopfemknnocaa.Fine

theorem enter58 (args : Array Value) (w : World) : (callFunc 58 args).run Try.prog w = .ok (.enter 58 args) w := enters_of Try.func58 (by kernel_rfl) rfl args w
theorem enter47 (args : Array Value) (w : World) : (callFunc 47 args).run Try.prog w = .ok (.enter 47 args) w := enters_of Try.func47 (by kernel_rfl) rfl args w

/-- the worlds in which the reader's closure is called -/
def w3 (w : World) (a : Option Addr) (n c : Nat) : World := ((w.alloc (.cells #[.slice a n c] 47)).alloc (.cells #[.int .i64 0, .int .i64 0] 44)).alloc (.cells #[.int .i64 0, .int .i64 0] 44)
theorem w3_below (w : World) (a : Option Addr) (n c : Nat) : Below w.heap.size w (w3 w a n c) := ((Below.new _ _).more (Below.new _ _)).more (Below.new _ _)
theorem w3_size (w : World) (a : Option Addr) (n c : Nat) : (w3 w a n c).heap.size = w.heap.size + 3 := by simp [w3]

def revOr (l : List UInt8) : Int × Int × Bool := match parse l with | some (m, s, _) => (m, s, true) | none => (0, 0, false)

/-- what is known behind the closure -/
structure After (w : World) (m s : Int) (w' : World) : Prop where
  below : Below w.heap.size w w'
  res : w'.heap[w.heap.size + 1]? = some (.cells #[.int .i64 0, .int .i64 0] 44 (0, 0))
  rev : w'.heap[w.heap.size + 2]? = some (.cells #[.int .i64 m, .int .i64 s] 44 (0, 0))
  ok : w'.heap[w.heap.size + 3]? = some (.cells #[.bool false] 4 (0, 0))

theorem fine_rev (w : World) (a : Option Addr) (n c : Nat) (l : List UInt8) (hl : l.length = n) (h : Vr.RowAt w a l) (ha : ∀ x, a = some x → x.block < w.heap.size) (hcap : n ≤ c) (m s : Int) (ok : Bool) (hrev : revOr l = (m, s, ok)) :
    Calls Try.prog 46 #[.func (.func 58) #[] #[.pointer (some ⟨w.heap.size, 0, none⟩), .pointer (some ⟨w.heap.size + 2, 0, none⟩)]] (w3 w a n c) (FinePost ok (w.heap.size + 3) (After w m s)) := by
  have e3 := w3_size w a n c
  have b3 := w3_below w a n c
  have b4 : Below w.heap.size w ((w3 w a n c).alloc (.cells #[.bool false] 4)) := b3.more (Below.new _ _)
  have r1 : ((w3 w a n c).alloc (.cells #[.bool false] 4)).heap[w.heap.size + 1]? = some (.cells #[.int .i64 0, .int .i64 0] 44 (0, 0)) := by
    have := alloc_at (alloc_at (alloc_new (w.alloc (.cells #[.slice a n c] 47)) (.cells #[.int .i64 0, .int .i64 0] 44)) (.cells #[.int .i64 0, .int .i64 0] 44)) (.cells #[.bool false] 4)
    simpa [w3] using this
  have r2 : ((w3 w a n c).alloc (.cells #[.bool false] 4)).heap[w.heap.size + 2]? = some (.cells #[.int .i64 0, .int .i64 0] 44 (0, 0)) := by
    have := alloc_at (alloc_new ((w.alloc (.cells #[.slice a n c] 47)).alloc (.cells #[.int .i64 0, .int .i64 0] 44)) (.cells #[.int .i64 0, .int .i64 0] 44)) (.cells #[.bool false] 4)
    simpa [w3] using this
  have r3 : ((w3 w a n c).alloc (.cells #[.bool false] 4)).heap[w.heap.size + 3]? = some (.cells #[.bool false] 4 (0, 0)) := by
    have := alloc_new (w3 w a n c) (.cells #[.bool false] 4)
    rwa [e3] at this
  have r0 : ((w3 w a n c).alloc (.cells #[.bool false] 4)).heap[w.heap.size]? = some (.cells #[.slice a n c] 47 (0, 0)) := by
    have := alloc_at (alloc_at (alloc_at (alloc_new w (.cells #[.slice a n c] 47)) (.cells #[.int .i64 0, .int .i64 0] 44)) (.cells #[.int .i64 0, .int .i64 0] 44)) (.cells #[.bool false] 4)
    simpa [w3] using this
  have hrow := h.below b4 ha
  have ha' : ∀ x, a = some x → x.block < ((w3 w a n c).alloc (.cells #[.bool false] 4)).heap.size := fun x hx => Nat.lt_of_lt_of_le (ha x hx) b4.size
  have hG : ∀ w', After w m s w' → w'.cell? ⟨(w3 w a n c).heap.size, 0, none⟩ = some (.bool false) ∧ w'.frozen? ⟨(w3 w a n c).heap.size, 0, none⟩ = false := by
    intro w' hg
    rw [e3]
    exact ⟨by simpa using cell_of hg.ok 0, free_of hg.ok 0⟩
  unfold revOr at hrev
  rw [← e3]
  cases hp : parse l with
  | none =>
    rw [hp] at hrev
    simp only [Prod.mk.injEq] at hrev
    obtain ⟨rfl, rfl, rfl⟩ := hrev
    refine fine_panic _ _ _ _ enter58 ?_ hG
    refine (clo_rev_bad _ w.heap.size (w.heap.size + 2) a n c l hl hrow ha' hcap hp (by simpa using cell_of r0 0)).mono ?_
    rintro e w' ⟨u, pv, rfl, hb⟩
    refine ⟨⟨u, pv, rfl⟩, b4.more hb, ?_, ?_, ?_⟩
    · exact (hb.block _ (lt_of_block r1)).trans r1
    · exact (hb.block _ (lt_of_block r2)).trans r2
    · exact (hb.block _ (lt_of_block r3)).trans r3
  | some q =>
    obtain ⟨m', s', t⟩ := q
    rw [hp] at hrev
    simp only [Prod.mk.injEq] at hrev
    obtain ⟨rfl, rfl, rfl⟩ := hrev
    refine fine_ok _ _ _ _ enter58 ?_ hG
    refine (clo_rev_ok _ w.heap.size (w.heap.size + 2) a n c l hl hrow ha' hcap m' s' t hp (by simpa using cell_of r0 0) _ _ r2).mono ?_
    rintro e w' ⟨rfl, hk, hr⟩
    refine ⟨rfl, ?_, hk.at r1 (by omega), hr, hk.at r3 (by omega)⟩
    exact ((Kept.of_below (M := fun k => k = w.heap.size + 2) b4).trans hk).below (Nat.le_refl _) (fun k hk => by omega)

set_option maxRecDepth 100000 in
theorem bytes_rev (w : World) (a : Option Addr) (n c : Nat) (l : List UInt8) (hl : l.length = n) (h : Vr.RowAt w a l) (ha : ∀ x, a = some x → x.block < w.heap.size) (hcap : n ≤ c) (m s : Int) (ok : Bool) (hrev : revOr l = (m, s, ok)) :
    Calls Try.prog 43 #[.slice a n c] w (Gives (.tuple #[.agg #[.int .i64 m, .int .i64 s], .bool ok]) w) := by
  have HF : Box _ := ⟨fine_rev w a n c l hl h ha hcap m s ok hrev⟩
  have hmf := mkf
  clear h ha hl hrev
  go_enter Try.func43, Try.ntmps43
  go_wp2_with fail
  refine HF.out.mono ?_
  rintro e w2 ⟨w1, hg, rfl, rfl⟩
  have c1 := cell_of hg.res 0
  have c1' := cell_of hg.res 1
  have f1 := free_of hg.res 0
  have f1' := free_of hg.res 1
  have c2 := cell_of hg.rev 0
  have c2' := cell_of hg.rev 1
  simp at c1 c1' c2 c2'
  have hb := hg.below
  have HG : Box _ := ⟨hg⟩
  have HB : Box _ := ⟨hb⟩
  clear hg hb
  go_wp2_with fail
  refine bodyPost_ret (v := .tuple #[.agg #[.int .i64 m, .int .i64 s], .bool ok]) ?_ rfl (gives ?_)
  · simp [results, Try.results43, go_sem, c1, c1', c2, c2']
  · exact ((HB.out.setCell (by simp) _).setCell (by simp) _).setCell (by simp) _
end Go.Proofs.Ytibopfemknnocaa.Back
