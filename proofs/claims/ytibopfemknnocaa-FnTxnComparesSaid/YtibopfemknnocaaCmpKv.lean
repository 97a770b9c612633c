import Derived.Test.YtibopfemknnocaaCmpIn
import Derived.Test.YtibopfemknnocaaFits
namespace Go.Proofs.Ytibopfemknnocaa.CmpKv
open Go.RowKit Go.Lib Go.Proofs.Ytibopfemknnocaa.Open Go.Proofs.Ytibopfemknnocaa.Kept Go.Proofs.Ytibopfemknnocaa.Cmp Go.Proofs.Ytibopfemknnocaa.CmpIn

def res (t n : Int) (x val : List UInt8) (cr md ver ls : Int) : Int :=
  if t = 0 then cmp64 ver n else if t = 1 then cmp64 cr n else if t = 2 then cmp64 md n else if t = 4 then cmp64 ls n else compareBytes val x

theorem compare_kv (w : World) (cb kb : Nat) (t r n : Int) (x key val : List UInt8) (cr md ver ls : Int) (K U E : Value) (hc : w.heap[cb]? = some (.cells #[.int .i32 r, .int .i32 t, K, U, E] 98 (0, 0))) (hU : UnionAt t n x U w) (hk : KvAt w kb key val cr md ver ls) :
    Calls Try.prog 57 #[.pointer (some ⟨cb, 0, none⟩), .pointer (some ⟨kb, 0, none⟩)] w fun e w' => e = .returned (.bool (ans r (res t n x val cr md ver ls))) ∧ w = w' := by
  have c0 : w.cell? ⟨cb, 0, none⟩ = some (.int .i32 r) := by simpa using cell_of hc 0
  have c1 : w.cell? ⟨cb, 1, none⟩ = some (.int .i32 t) := by simpa using cell_of hc 1
  have c3 : w.cell? ⟨cb, 3, none⟩ = some U := by simpa using cell_of hc 3
  obtain ⟨⟨K', V', hkv, -, ⟨va, vc, rfl, hv⟩⟩⟩ := hk
  have k1 : w.cell? ⟨kb, 1, none⟩ = some (.int .i64 cr) := by simpa using cell_of hkv 1
  have k2 : w.cell? ⟨kb, 2, none⟩ = some (.int .i64 md) := by simpa using cell_of hkv 2
  have k3 : w.cell? ⟨kb, 3, none⟩ = some (.int .i64 ver) := by simpa using cell_of hkv 3
  have k4 : w.cell? ⟨kb, 4, none⟩ = some (.slice va val.length vc) := by simpa using cell_of hkv 4
  have k5 : w.cell? ⟨kb, 5, none⟩ = some (.int .i64 ls) := by simpa using cell_of hkv 5
  rcases hU with ⟨rfl, ub, rfl, hu⟩ | ⟨rfl, ub, rfl, hu⟩ | ⟨rfl, ub, rfl, hu⟩ | ⟨rfl, ub, rfl, hu⟩ | ⟨rfl, ub, xa, xc, rfl, hu, hx⟩
  · exact kv_version w cb kb ub r n ver c0 c1 c3 hu k3
  · exact kv_create w cb kb ub r n cr c0 c1 c3 hu k1
  · exact kv_mod w cb kb ub r n md c0 c1 c3 hu k2
  · exact kv_lease w cb kb ub r n ls c0 c1 c3 hu k5
  · exact kv_value w cb kb ub r va xa vc xc val x c0 c1 c3 hu k4 hv hx

set_option maxRecDepth 100000 in
theorem zz (w : World) (cb kb : Nat) (z : Bool) (h : Calls Try.prog 57 #[.pointer (some ⟨cb, 0, none⟩), .pointer (some ⟨kb, 0, none⟩)] w fun e w' => e = .returned (.bool z) ∧ w = w') :
    Calls Try.prog 38 #[.pointer (some ⟨cb, 0, none⟩), .pointer (some ⟨kb, 0, none⟩)] w fun e w' => e = .returned (.bool z) ∧ w = w' := by
  have H : Box _ := ⟨h⟩
  clear h
  go_enter Try.func38, Try.ntmps38
  go_wp2_with fail
  refine H.out.mono ?_
  rintro e w' ⟨rfl, rfl⟩
  go_wp2_with fail
  go_ret
  exact ⟨rfl, rfl⟩

theorem UnionAt.below {t n : Int} {x : List UInt8} {U : Value} {w w' : World} (h : UnionAt t n x U w) (hb : Below w.heap.size w w') : UnionAt t n x U w' := by
  have hc : ∀ {b o : Nat} {v : Value}, w.cell? ⟨b, o, none⟩ = some v → w'.cell? ⟨b, o, none⟩ = some v := fun h => (Kept.of_below (M := fun _ => False) hb).cell h id
  rcases h with ⟨rfl, ub, rfl, hu⟩ | ⟨rfl, ub, rfl, hu⟩ | ⟨rfl, ub, rfl, hu⟩ | ⟨rfl, ub, rfl, hu⟩ | ⟨rfl, ub, xa, xc, rfl, hu, hx⟩
  · exact .inl ⟨rfl, ub, rfl, hc hu⟩
  · exact .inr (.inl ⟨rfl, ub, rfl, hc hu⟩)
  · exact .inr (.inr (.inl ⟨rfl, ub, rfl, hc hu⟩))
  · exact .inr (.inr (.inr (.inl ⟨rfl, ub, rfl, hc hu⟩)))
  · exact .inr (.inr (.inr (.inr ⟨rfl, ub, xa, xc, rfl, hc hu, row_below hx hb⟩)))

def Gives (v : Value) (w : World) (e : Ending) (w' : World) : Prop := e = .returned v ∧ Below w.heap.size w w'

set_option linter.unusedSimpArgs false
set_option maxRecDepth 100000 in
set_option maxHeartbeats 1000000 in
theorem kv (w : World) (t r n : Int) (k en x key val : ByteArray) (cr md ver ls : Int) (ht0 : 0 ≤ t) (ht1 : t ≤ 4) (hr0 : 0 ≤ r) (hr1 : r ≤ 4) :
    Calls Try.prog 21 #[.agg #[.int .i64 t, .int .i64 r, .string k, .string en, .int .i64 n, .string x, .bool false], .agg #[.string key, .string val, .int .i64 cr, .int .i64 md, .int .i64 ver, .int .i64 ls]] w
      (Gives (.bool (ans r (res t n x.data.toList val.data.toList cr md ver ls))) w) := by
  have HC : Box _ := ⟨fun w => cmp_in w t r n k en x ht0 ht1 hr0 hr1⟩
  have HK : Box _ := ⟨fun w => kv_in w key val cr md ver ls⟩
  have HB0 : Box _ := ⟨(Below.new w (.cells #[.int .i64 t, .int .i64 r, .string k, .string en, .int .i64 n, .string x, .bool false] 38)).more (Below.new _ (.cells #[.string key, .string val, .int .i64 cr, .int .i64 md, .int .i64 ver, .int .i64 ls] 34))⟩
  clear ht0 ht1 hr0 hr1
  go_enter Try.func21, Try.ntmps21
  go_wp2_with fail
  refine Flow.start (by kernel_rfl) (fun hHeld => ?_)
  refine Flow.take (i := 0) (d := (some 5)) (v := ?v0) rfl rfl (by kernel_rfl) (by kernel_rfl) (by kernel_rfl) (fun _ _ _ h => h) (by rfl) ?y0 hHeld ?r0
  case y0 => (intro w' hS; obtain ⟨hcc, hff⟩ := bcell hS; go_simp; with_reducible rfl)
  case r0 =>
  simp only [Act.put, List.setIfInBounds_toArray, List.set_cons_zero, List.set_cons_succ]
  refine Flow.take (i := 2) (d := (some 7)) (v := ?v2) rfl rfl (by kernel_rfl) (by kernel_rfl) (by kernel_rfl) (fun _ _ _ h => h) (by rfl) ?y2 hHeld ?r2
  case y2 => (intro w' hS; obtain ⟨hcc, hff⟩ := bcell hS; go_simp; with_reducible rfl)
  case r2 =>
  simp only [Act.put, List.setIfInBounds_toArray, List.set_cons_zero, List.set_cons_succ]
  refine Flow.stepB 1 (by kernel_rfl) rfl (fun Kc hKc => ?_)
  go_simp
  refine (HC.out _).mono ?_
  rintro e w1 ⟨cb, K, U, E, rfl, hcb, hU, -, hb⟩
  have HCB : Box _ := ⟨hcb⟩
  have HU : Box _ := ⟨hU⟩
  clear hcb hU
  refine hKc _ _ (hHeld.more hb) (fun hHeld => ?_)
  clear hKc Kc
  refine Flow.stepB 3 (by kernel_rfl) rfl (fun Kc hKc => ?_)
  go_simp
  refine (HK.out _).mono ?_
  rintro e w2 ⟨kb, rfl, hkb, hb2⟩
  have HZ : Box _ := ⟨zz w2 cb kb _ (compare_kv w2 cb kb t r n _ _ _ cr md ver ls K U E ((hb2.block _ (lt_of_block HCB.out)).trans HCB.out) (UnionAt.below HU.out hb2) hkb)⟩
  clear hkb
  refine hKc _ _ (hHeld.more hb2) (fun hHeld => ?_)
  clear hKc Kc
  refine Flow.stepB 4 (by kernel_rfl) rfl (fun Kc hKc => ?_)
  go_simp
  refine HZ.out.mono ?_
  rintro e w3 ⟨rfl, rfl⟩
  refine hKc _ _ (hHeld) (fun hHeld => ?_)
  clear hKc Kc
  refine Flow.take (i := 5) (d := (some 4)) (v := ?v5) rfl rfl (by kernel_rfl) (by kernel_rfl) (by kernel_rfl) (fun _ _ _ h => h) (by rfl) ?y5 hHeld ?r5
  case y5 => (intro w' hS; obtain ⟨hcc, hff⟩ := bcell hS; go_simp; with_reducible rfl)
  case r5 =>
  simp only [Act.put, List.setIfInBounds_toArray, List.set_cons_zero, List.set_cons_succ]
  refine Flow.doneB (by kernel_rfl) ?_
  have HH : Box _ := ⟨hHeld⟩
  clear hb hb2 hHeld
  go_wp2_with fail
  go_ret
  exact ⟨rfl, HB0.out.more HH.out⟩

set_option maxRecDepth 100000 in
theorem fits14 (w : World) (key val : ByteArray) (cr md ver ls : Int) : Calls Try.prog 19 #[.agg #[.string key, .string val, .int .i64 cr, .int .i64 md, .int .i64 ver, .int .i64 ls]] w (Fits.SomeBool w) := by
  go_enter Try.func19, Try.ntmps19
  go_wp2
  all_goals (go_ret; exact Fits.some_bool _ (Below.new _ _))

def short (s : ByteArray) : Bool := decide ((s.size : Int) ≤ 64)
set_option maxRecDepth 100000 in
theorem txn_text (w : World) (s : ByteArray) : Calls Try.prog 37 #[.string s] w fun e w' => e = .returned (.bool (short s)) ∧ w = w' := by
  go_enter Try.func37, Try.ntmps37
  go_wp2
  go_ret
  exact ⟨rfl, rfl⟩

def goodB (t r : Int) (k e x : ByteArray) : Bool := decide (0 ≤ t) && decide (t ≤ 4) && decide (0 ≤ r) && decide (r ≤ 3) && short k && short e && short x
set_option maxRecDepth 100000 in
theorem txn_cmp (w : World) (t r : Int) (k e : ByteArray) (n : Int) (x : ByteArray) (b : Bool) :
    Calls Try.prog 20 #[.agg #[.int .i64 t, .int .i64 r, .string k, .string e, .int .i64 n, .string x, .bool b]] w (Gives (.bool (goodB t r k e x)) w) := by
  go_enter Try.func20, Try.ntmps20
  go_wp2_with (go_at_call 37; refine (txn_text _ _).mono ?_; rintro e' w' ⟨rfl, rfl⟩)
  all_goals
    go_ret
    refine ⟨?_, Below.new _ _⟩
    congr 2
    unfold goodB
    simp_all
    try (intros; omega)
end Go.Proofs.Ytibopfemknnocaa.CmpKv
