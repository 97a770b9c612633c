import Derived.Test.YtibopfemknnocaaFine
import Derived.Shelf.Abstract
namespace Go.Proofs.Ytibopfemknnocaa.Back
open Go.RowKit Go.Lib Go.Proofs.Ytibopfemknnocaa.Open Go.Proofs.Ytibopfemknnocaa.Kept Go.Proofs.Ytibopfemknnocaa.Rev Go.Proofs.Ytibopfemknnocaa.Key Go.Proofs.Ytibopfemknnocaa.Fine

theorem row_alloc {w : World} {a : Option Addr} {l : List UInt8} (h : Vr.RowAt w a l) (ha : ∀ x, a = some x → x.block < w.heap.size) (o : Obj) : Vr.RowAt (w.alloc o) a l := h.below (Below.new w o) ha

theorem panics_alloc {w w' : World} {e : Ending} {o : Obj} (h : Panics (w.alloc o) e w') : Panics w e w' := by
  obtain ⟨u, pv, h1, h2⟩ := h
  exact ⟨u, pv, h1, (Below.new w o).more h2⟩

theorem fld81 (m s : Int) (t : Bool) (w : World) : (Instr.field 81 (.agg #[.int .i64 m, .int .i64 s, .bool t]) 0).run Try.prog w = .ok (.agg #[.int .i64 m, .int .i64 s]) w := by kernel_rfl

set_option maxRecDepth 100000 in
theorem to_rev_ok (w : World) (a : Option Addr) (n c : Nat) (l : List UInt8) (hl : l.length = n) (h : Vr.RowAt w a l) (ha : ∀ x, a = some x → x.block < w.heap.size) (hcap : n ≤ c) (m s : Int) (t : Bool) (hp : parse l = some (m, s, t)) :
    Calls Try.prog 59 #[.slice a n c] w (Gives (.agg #[.int .i64 m, .int .i64 s]) w) := by
  have HK : Box _ := ⟨fun o => key _ a n c l hl (row_alloc h ha o) hcap⟩
  have HP : Box _ := ⟨hp⟩
  clear h ha hp hl
  go_enter Try.func59, Try.ntmps59
  go_wp2_with fail
  refine (HK.out _).mono ?_
  rintro e w1 (⟨m', s', t', hp', rfl, hb⟩ | ⟨hp', -⟩)
  · rw [HP.out] at hp'
    simp only [Option.some.injEq, Prod.mk.injEq] at hp'
    obtain ⟨rfl, rfl, rfl⟩ := hp'
    obtain ⟨hcc, hff⟩ := bcell hb
    have hz : w.heap.size < w1.heap.size := by have := hb.size; simp at this; omega
    have hfl := fld81
    go_wp2_with fail
    refine bodyPost_ret (v := .agg #[.int .i64 m, .int .i64 s]) (by simp [results, Try.results59, go_sem, hcc]) rfl (gives ?_)
    refine Below.setCell (Below.setCell ((Below.new _ _).more hb) (by simp) _) (by simp) _
  · rw [HP.out] at hp'; cases hp'

set_option maxRecDepth 100000 in
theorem to_rev_bad (w : World) (a : Option Addr) (n c : Nat) (l : List UInt8) (hl : l.length = n) (h : Vr.RowAt w a l) (ha : ∀ x, a = some x → x.block < w.heap.size) (hcap : n ≤ c) (hp : parse l = none) :
    Calls Try.prog 59 #[.slice a n c] w (Panics w) := by
  have HK : Box _ := ⟨fun o => key _ a n c l hl (row_alloc h ha o) hcap⟩
  have HP : Box _ := ⟨hp⟩
  clear h ha hp hl
  go_enter Try.func59, Try.ntmps59
  go_wp2_with fail
  refine (HK.out _).mono ?_
  rintro e w1 (⟨m', s', t', hp', -⟩ | ⟨-, hx⟩)
  · rw [HP.out] at hp'; cases hp'
  · obtain ⟨u, pv, rfl, hb⟩ := hx
    exact ⟨rfl, u, pv, rfl, (Below.new _ _).more hb⟩

/-- the two cells of a pair are laid -/
def Laid (b : Nat) (m s : Int) (w : World) (e : Ending) (w' : World) : Prop := e = .returned (.tuple #[]) ∧ Kept (· = b) w w' ∧ w'.heap[b]? = some (.cells #[.int .i64 m, .int .i64 s] 44 (0, 0))

set_option maxRecDepth 100000 in
theorem clo_rev_ok (w : World) (pb rb : Nat) (a : Option Addr) (n c : Nat) (l : List UInt8) (hl : l.length = n) (h : Vr.RowAt w a l) (ha : ∀ x, a = some x → x.block < w.heap.size) (hcap : n ≤ c) (m s : Int) (t : Bool) (hp : parse l = some (m, s, t))
    (hpb : w.cell? ⟨pb, 0, none⟩ = some (.slice a n c)) (x y : Value) (hr : w.heap[rb]? = some (.cells #[x, y] 44 (0, 0))) :
    Calls Try.prog 58 #[.pointer (some ⟨pb, 0, none⟩), .pointer (some ⟨rb, 0, none⟩)] w (Laid rb m s w) := by
  have HK : Box _ := ⟨to_rev_ok w a n c l hl h ha hcap m s t hp⟩
  have HR : Box _ := ⟨hr⟩
  clear h ha hp hl hr
  go_enter Try.func58, Try.ntmps58
  go_wp2_with fail
  refine HK.out.mono ?_
  rintro e w1 ⟨rfl, hb⟩
  go_wp2_with fail
  refine (rev_out _ _ _).mono ?_
  rintro e w2 ⟨rfl, hb2⟩
  have hk := Kept.of_below (M := (· = rb)) (hb.more hb2)
  have hr2 := (hb.more hb2).block rb (lt_of_block HR.out) |>.trans HR.out
  have c0 := cell_of hr2 0
  have c1 := cell_of hr2 1
  have f0 := free_of hr2 0
  have f1 := free_of hr2 1
  simp at c0 c1
  have HK2 : Box _ := ⟨hk⟩
  have HR2 : Box _ := ⟨hr2⟩
  clear hk hr2 hb hb2
  go_wp2_with fail
  go_end0
  refine ⟨rfl, (HK2.out.set (fun _ => rfl) _).set (fun _ => rfl) _, ?_⟩
  have := set_block (set_block HR2.out 0 (.int .i64 m)) 1 (.int .i64 s)
  simpa using this

set_option maxRecDepth 100000 in
theorem clo_rev_bad (w : World) (pb rb : Nat) (a : Option Addr) (n c : Nat) (l : List UInt8) (hl : l.length = n) (h : Vr.RowAt w a l) (ha : ∀ x, a = some x → x.block < w.heap.size) (hcap : n ≤ c) (hp : parse l = none)
    (hpb : w.cell? ⟨pb, 0, none⟩ = some (.slice a n c)) :
    Calls Try.prog 58 #[.pointer (some ⟨pb, 0, none⟩), .pointer (some ⟨rb, 0, none⟩)] w (Panics w) := by
  have HK : Box _ := ⟨to_rev_bad w a n c l hl h ha hcap hp⟩
  clear h ha hp hl
  go_enter Try.func58, Try.ntmps58
  go_wp2_with fail
  refine HK.out.mono ?_
  rintro e w1 ⟨u, pv, rfl, hb⟩
  exact ⟨rfl, u, pv, rfl, hb⟩

def Laid2 (rb tb : Nat) (m s : Int) (t : Bool) (w : World) (e : Ending) (w' : World) : Prop :=
  e = .returned (.tuple #[]) ∧ Kept (fun k => k = rb ∨ k = tb) w w' ∧ w'.heap[rb]? = some (.cells #[.int .i64 m, .int .i64 s] 44 (0, 0)) ∧ w'.heap[tb]? = some (.cells #[.bool t] 4 (0, 0))

set_option maxRecDepth 100000 in
set_option maxHeartbeats 1000000 in
theorem clo_key_ok (w : World) (pb rb tb : Nat) (a : Option Addr) (n c : Nat) (l : List UInt8) (hl : l.length = n) (h : Vr.RowAt w a l) (hcap : n ≤ c) (m s : Int) (t : Bool) (hp : parse l = some (m, s, t))
    (hpb : w.cell? ⟨pb, 0, none⟩ = some (.slice a n c)) (x y z : Value) (hr : w.heap[rb]? = some (.cells #[x, y] 44 (0, 0))) (ht : w.heap[tb]? = some (.cells #[z] 4 (0, 0))) (hne : rb ≠ tb) :
    Calls Try.prog 47 #[.pointer (some ⟨pb, 0, none⟩), .pointer (some ⟨rb, 0, none⟩), .pointer (some ⟨tb, 0, none⟩)] w (Laid2 rb tb m s t w) := by
  have HK : Box _ := ⟨key w a n c l hl h hcap⟩
  have HR : Box _ := ⟨hr⟩
  have HT : Box _ := ⟨ht⟩
  have HP : Box _ := ⟨hp⟩
  clear h hp hl hr ht
  go_enter Try.func47, Try.ntmps47
  go_wp2_with fail
  refine HK.out.mono ?_
  rintro e w1 (⟨m', s', t', hp', rfl, hb⟩ | ⟨hp', -⟩)
  · rw [HP.out] at hp'
    simp only [Option.some.injEq, Prod.mk.injEq] at hp'
    obtain ⟨rfl, rfl, rfl⟩ := hp'
    have hr1 := (hb.block rb (lt_of_block HR.out)).trans HR.out
    have ht1 := (hb.block tb (lt_of_block HT.out)).trans HT.out
    have hl1 := lt_of_block hr1
    have hl2 := lt_of_block ht1
    have HB : Box _ := ⟨hb⟩
    have HR1 : Box _ := ⟨hr1⟩
    have HT1 : Box _ := ⟨ht1⟩
    clear hb hr1 ht1
    go_wp2_with fail
    refine (rev_out _ _ _).mono ?_
    rintro e w2 ⟨rfl, hb2⟩
    have k0 : w2.cell? ⟨w1.heap.size, 0, none⟩ = some (.int .i64 m) := (Kept.of_below (M := fun _ => False) hb2).cell (by simp) id
    have k1 : w2.cell? ⟨w1.heap.size, 1, none⟩ = some (.int .i64 s) := (Kept.of_below (M := fun _ => False) hb2).cell (by simp) id
    have k2 : w2.cell? ⟨w1.heap.size, 2, none⟩ = some (.bool t) := (Kept.of_below (M := fun _ => False) hb2).cell (by simp) id
    have hb3 : Below w1.heap.size w1 w2 := (Below.new _ _).more hb2
    have hr2 := (hb3.block rb hl1).trans HR1.out
    have ht2 := (hb3.block tb hl2).trans HT1.out
    have c0 := cell_of hr2 0
    have c1 := cell_of hr2 1
    have f0 := free_of hr2 0
    have f1 := free_of hr2 1
    simp at c0 c1
    have n1 : ¬ w1.heap.size = rb := by omega
    have n2 : ¬ w1.heap.size = tb := by omega
    have n3 : ¬ rb = tb := hne
    have HB2 : Box _ := ⟨HB.out.more hb3⟩
    have hr3 := set_block (set_block hr2 0 (.int .i64 m)) 1 (.int .i64 s)
    simp at hr3
    have HR3 : Box _ := ⟨hr3⟩
    have HT3 : Box _ := ⟨set_other (set_other ht2 (Ne.symm hne) 0 (.int .i64 m)) (Ne.symm hne) 1 (.int .i64 s)⟩
    have q0 := cell_other (cell_other k0 n1 (i := 0) (v := .int .i64 m)) n1 (i := 1) (v := .int .i64 s)
    have q1 := cell_other (cell_other k1 n1 (i := 0) (v := .int .i64 m)) n1 (i := 1) (v := .int .i64 s)
    have q2 := cell_other (cell_other k2 n1 (i := 0) (v := .int .i64 m)) n1 (i := 1) (v := .int .i64 s)
    clear hb2 hb3 hr2 ht2 hr3
    go_wp2_with fail
    refine (zz_marked _ _ _ _).mono ?_
    rintro e w3 ⟨rfl, hb4⟩
    have ht4 := (hb4.block tb (lt_of_block HT3.out)).trans HT3.out
    have hr4 := (hb4.block rb (lt_of_block HR3.out)).trans HR3.out
    have c2 := cell_of ht4 0
    have f2 := free_of ht4 0
    simp at c2
    have HT4 : Box _ := ⟨ht4⟩
    have HR4 : Box _ := ⟨hr4⟩
    have HB4 : Box _ := ⟨hb4⟩
    clear ht4 hr4 hb4 k0 k1 k2 q0 q1 q2
    go_wp2_with fail
    go_end0
    refine ⟨rfl, ?_, set_other HR4.out hne 0 _, ?_⟩
    · refine Kept.set ?_ (fun _ => .inr rfl) _
      refine Kept.trans ?_ (Kept.of_below HB4.out)
      exact ((Kept.of_below HB2.out).set (fun _ => .inl rfl) _).set (fun _ => .inl rfl) _
    · have := set_block HT4.out 0 (.bool t)
      simpa using this
  · rw [HP.out] at hp'; cases hp'

set_option maxRecDepth 100000 in
theorem clo_key_bad (w : World) (pb rb tb : Nat) (a : Option Addr) (n c : Nat) (l : List UInt8) (hl : l.length = n) (h : Vr.RowAt w a l) (hcap : n ≤ c) (hp : parse l = none)
    (hpb : w.cell? ⟨pb, 0, none⟩ = some (.slice a n c)) :
    Calls Try.prog 47 #[.pointer (some ⟨pb, 0, none⟩), .pointer (some ⟨rb, 0, none⟩), .pointer (some ⟨tb, 0, none⟩)] w (Panics w) := by
  have HK : Box _ := ⟨key w a n c l hl h hcap⟩
  have HP : Box _ := ⟨hp⟩
  clear h hp hl
  go_enter Try.func47, Try.ntmps47
  go_wp2_with fail
  refine HK.out.mono ?_
  rintro e w1 (⟨m', s', t', hp', -⟩ | ⟨-, u, pv, rfl, hb⟩)
  · rw [HP.out] at hp'; cases hp'
  · exact ⟨rfl, u, pv, rfl, hb⟩
end Go.Proofs.Ytibopfemknnocaa.Back
