import Derived.Test.YtibopfemknnocaaBucket2
import Derived.OpenShut
namespace Go.Proofs.Ytibopfemknnocaa.Bucket
open Go.RowKit Go.Lib Go.Proofs.Ytibopfemknnocaa.Open Go.Proofs.Ytibopfemknnocaa.Kept Go.Proofs.Ytibopfemknnocaa.Rev Go.Proofs.Ytibopfemknnocaa.Key Go.Proofs.Ytibopfemknnocaa.Fine Go.Proofs.Ytibopfemknnocaa.Back Go.Proofs.Ytibopfemknnocaa.Live

theorem u8_back (v : Int) (h0 : 0 ≤ v) (h1 : v ≤ 255) : ((UInt8.ofNat v.toNat).toNat : Int) = v := by
  simp
  omega
theorem bytes_read {w : World} {a : Option Addr} {n c : Nat} (h : Reads Try.prog w 47 [.slice a n c]) : ∃ l : List UInt8, l.length = n ∧ Vr.RowAt w a l ∧ n ≤ c ∧ n ≤ maxLen := by
  obtain ⟨a', n', c', e, h1, h2, h3, h4⟩ := h.slice Try.underlying47 (of_decide_eq_true (by kernel_rfl))
  simp only [List.cons.injEq, Value.slice.injEq, and_true] at e
  obtain ⟨rfl, rfl, rfl⟩ := e
  have e5 : Try.prog.cellsOf 5 = 1 := by kernel_rfl
  rw [e5] at h4
  have h5 : ∀ i, i < n → ∃ x : UInt8, ∃ b o, a = some ⟨b, o, none⟩ ∧ w.cell? ⟨b, o + i, none⟩ = some (.int .u8 x.toNat) := by
    intro i hi
    obtain ⟨ds, hl, ⟨b, o, rfl, hb, hc⟩, hr⟩ := h4 i hi
    obtain ⟨v, rfl, hw⟩ := hr.int Try.underlying5
    have := hc 0 (by simp)
    simp at this
    obtain ⟨g0, g1⟩ := bounds_u8 hw
    refine ⟨UInt8.ofNat v.toNat, b, o, rfl, ?_⟩
    rw [this, u8_back v g0 g1]
  refine ⟨(List.range n).map fun i => if hi : i < n then Classical.choose (h5 i hi) else 0, by simp, ?_, h1, Nat.le_trans h1 h2⟩
  by_cases hn : n = 0
  · subst hn; exact .inl rfl
  · obtain ⟨x, b, o, ea, _⟩ := h5 0 (by omega)
    refine .inr ⟨b, o, ea, fun i hi => ?_⟩
    simp only [List.length_map, List.length_range] at hi
    obtain ⟨b', o', ea', hc⟩ := Classical.choose_spec (h5 i hi)
    rw [ea] at ea'
    simp only [Option.some.injEq, Addr.mk.injEq] at ea'
    obtain ⟨rfl, rfl, -⟩ := ea'
    rw [hc, List.getD_eq_getElem?_getD]
    simp [hi]
set_option maxRecDepth 100000 in
set_option maxHeartbeats 1000000 in
theorem law (w : World) (a : Option Addr) (n c : Nat) (l : List UInt8) (hl : l.length = n) (h : Vr.RowAt w a l) (hcap : n ≤ c) :
    Calls Try.prog 8 #[.slice a n c] w (Gives (.bool true) w) := by
  by_cases hbig : n ≤ 65536
  · obtain ⟨m, s, t, ok, hk⟩ : ∃ m s t ok, keyOr l = (m, s, t, ok) := ⟨_, _, _, _, rfl⟩
    have HB : Box _ := ⟨bytes_bucket w a n c l hl h hcap m s t ok hk⟩
    have hok : (ok = false) ∨ (ok = true ∧ keyOr (encT m s t) = (m, s, t, true)) := by
      unfold keyOr at hk
      cases hp : parse l with
      | none => rw [hp] at hk; simp only [Prod.mk.injEq] at hk; exact .inl hk.2.2.2.symm
      | some q =>
        obtain ⟨m', s', t'⟩ := q
        rw [hp] at hk; simp only [Prod.mk.injEq] at hk
        obtain ⟨rfl, rfl, rfl, rfl⟩ := hk
        obtain ⟨p1, p2, p3, p4⟩ := parse_pos hp
        exact .inr ⟨rfl, by unfold keyOr; rw [parse_enc m' s' t' p1 p3 p2 p4]⟩
    have hn1 : decide ((2147483647 : Int) < n) = false := by simp; omega
    have hn2 : decide ((65536 : Int) < n) = false := by simp; omega
    clear h hl hk hbig
    go_enter Try.func8, Try.ntmps8
    go_wp2_with fail
    refine HB.out.mono ?_
    rintro e w1 ⟨rfl, hb1⟩
    have H1 : Box _ := ⟨hb1⟩
    clear hb1
    rcases hok with rfl | ⟨rfl, hk2⟩
    · go_wp2_with fail
      refine (rv_live _).mono ?_
      rintro e w2 ⟨rfl, hb2⟩
      have H2 : Box _ := ⟨hb2⟩
      clear hb2
      go_wp2_with fail
      go_ret
      exact gives ((H1.out.more (Below.new _ _)).more H2.out)
    · have HK2 : Box _ := ⟨hk2⟩
      clear hk2
      go_wp2_with fail
      refine (bucket_bytes _ m s t).mono ?_
      rintro e w2 ⟨b, rfl, hlt, hr, hb2⟩
      have H2 : Box _ := ⟨hb2⟩
      have HR : Box _ := ⟨hr⟩
      have k0 : w2.cell? ⟨w1.heap.size, 0, none⟩ = some (.int .i64 m) := (Kept.of_below (M := fun _ => False) hb2).cell (by simp) id
      have k1 : w2.cell? ⟨w1.heap.size, 1, none⟩ = some (.int .i64 s) := (Kept.of_below (M := fun _ => False) hb2).cell (by simp) id
      have hlen : (encT m s t).length ≤ 18 := by cases t <;> simp [encT, enc_length]
      have HLen : Box _ := ⟨hlen⟩
      clear hb2 hr hlen
      generalize hN : (encT m s t).length = N at *
      have HN : Box _ := ⟨hN⟩
      clear hN
      go_wp2_with fail
      refine (bytes_bucket w2 _ N 18 (encT m s t) HN.out HR.out HLen.out m s t true HK2.out).mono ?_
      rintro e w3 ⟨rfl, hb3⟩
      have q0 : w3.cell? ⟨w1.heap.size, 0, none⟩ = some (.int .i64 m) := (Kept.of_below (M := fun _ => False) hb3).cell k0 id
      have q1 : w3.cell? ⟨w1.heap.size, 1, none⟩ = some (.int .i64 s) := (Kept.of_below (M := fun _ => False) hb3).cell k1 id
      have hz1 : w1.heap.size < w3.heap.size := (cell_lt q0).1
      have H3 : Box _ := ⟨hb3⟩
      clear hb3 k0 k1
      go_wp2_with fail
      refine (rv_live _).mono ?_
      rintro e w4 ⟨rfl, hb4⟩
      have H4 : Box _ := ⟨hb4⟩
      clear hb4
      go_wp2_with fail
      go_ret
      exact gives_bool (by simp) (((((H1.out.more (Below.new _ _)).more H2.out).more H3.out).more (Below.new _ _)).more H4.out)
  · have hn2 : decide ((65536 : Int) < n) = true := by simp; omega
    clear h hl
    go_enter Try.func8, Try.ntmps8
    go_wp2_with fail
    · go_ret
      exact gives (Below.refl _ _)
    · refine (rv_live _).mono ?_
      rintro e w2 ⟨rfl, hb2⟩
      have H2 : Box _ := ⟨hb2⟩
      clear hb2
      go_wp2_with fail
      go_ret
      exact gives H2.out
end Go.Proofs.Ytibopfemknnocaa.Bucket
