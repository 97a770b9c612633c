import Derived.Test.YtibopfemknnocaaCmpLaw
import Derived.Deep.WholeRow
namespace Go.Proofs.Ytibopfemknnocaa.CmpLaw
open Go.RowKit Go.Lib Go.Proofs.Ytibopfemknnocaa.Open Go.Proofs.Ytibopfemknnocaa.Kept Go.Proofs.Ytibopfemknnocaa.Cmp Go.Proofs.Ytibopfemknnocaa.CmpIn Go.Proofs.Ytibopfemknnocaa.CmpKv

theorem cnt_bd (A : Int → Bool) (i : Nat) : 0 ≤ cnt A i ∧ cnt A i ≤ 3 := by
  unfold cnt b2i
  split <;> split <;> split <;> (repeat' split) <;> omega
theorem heap_alloc_size (w : World) (o : Obj) : (w.alloc o).heap.size = w.heap.size + 1 := by simp
theorem new7 (w : World) (t r n : Int) (k e x : ByteArray) :
    (storeCells ⟨w.heap.size, 0, none⟩ (cells7 t r k e n x).toList 0).run Try.prog (w.alloc (.cells #[.int .i64 0, .int .i64 0, .string ⟨#[]⟩, .string ⟨#[]⟩, .int .i64 0, .string ⟨#[]⟩, .bool false] 38)) = .ok () (w.alloc (.cells (cells7 t r k e n x) 38)) :=
  run_storeCells_new w 38 _ _ (by kernel_rfl) rfl (by simp [cells7, Value.oneCell'])
theorem new6 (w : World) (key val : ByteArray) (cr md ver ls : Int) :
    (storeCells ⟨w.heap.size, 0, none⟩ (cells6 key val cr md ver ls).toList 0).run Try.prog (w.alloc (.cells #[.string ⟨#[]⟩, .string ⟨#[]⟩, .int .i64 0, .int .i64 0, .int .i64 0, .int .i64 0] 34)) = .ok () (w.alloc (.cells (cells6 key val cr md ver ls) 34)) :=
  run_storeCells_new w 34 _ _ (by kernel_rfl) rfl (by simp [cells6, Value.oneCell'])
theorem cmp64_neg (a b : Int) : cmp64 a b = - cmp64 b a := by unfold cmp64; split <;> split <;> omega
theorem bytes_neg : ∀ a b : List UInt8, compareBytes a b = - compareBytes b a
  | [], [] => rfl
  | [], _ :: _ => rfl
  | _ :: _, [] => rfl
  | x :: a, y :: b => by
    unfold compareBytes
    have := bytes_neg a b
    rcases Nat.lt_trichotomy x.toNat y.toNat with h | h | h
    · simp [UInt8.lt_iff_toNat_lt, h, Nat.lt_asymm h]
    · simp [UInt8.lt_iff_toNat_lt, h, this]
    · simp [UInt8.lt_iff_toNat_lt, h, Nat.lt_asymm h]
theorem flip0 (n : Int) (x val : List UInt8) (cr md ver ls : Int) : res 0 ver x val cr md n ls = - res 0 n x val cr md ver ls := by simp only [res, if_true]; exact cmp64_neg _ _
theorem flip1 (n : Int) (x val : List UInt8) (cr md ver ls : Int) : res 1 cr x val n md ver ls = - res 1 n x val cr md ver ls := by simp [res]; exact cmp64_neg _ _
theorem flip2 (n : Int) (x val : List UInt8) (cr md ver ls : Int) : res 2 md x val cr n ver ls = - res 2 n x val cr md ver ls := by simp [res]; exact cmp64_neg _ _
theorem flip4 (n : Int) (x val : List UInt8) (cr md ver ls : Int) : res 4 ls x val cr md ver n = - res 4 n x val cr md ver ls := by simp [res]; exact cmp64_neg _ _
theorem flip3 (n : Int) (x val : List UInt8) (cr md ver ls : Int) : res 3 n val x cr md ver ls = - res 3 n x val cr md ver ls := by simp [res]; exact bytes_neg _ _
theorem cnt_one (R : Int) : cnt (fun j => ans j R) 4 = 1 := by
  simp [cnt, ans, b2i]
  rcases Int.lt_trichotomy R 0 with h | h | h
  · simp [h, Int.ne_of_lt h, Int.not_lt.2 (Int.le_of_lt h)]
  · simp [h]
  · simp [h, Int.ne_of_gt h, Int.not_lt.2 (Int.le_of_lt h)]
theorem exec_load_row {P : Program} {f : Operand → Value} {o : Oper} {w : World} (ty : TypeId) (x : Operand) (ho : o.op = .load ty x)
    (g : Nat) (hx : f x = .pointer (some ⟨g, 0, none⟩)) (t : TypeId) (cs : Array Value) (fr : Nat × Nat) (d : TypeDesc) (hg : w.heap[g]? = some (.cells cs t fr))
    (hu : P.underlying ty = some d) (hd : (match d with | .struct _ | .array _ _ => true | _ => false) = true) (hi : (P.info? ty).map (·.size) = some cs.size) :
    (execOp f o).run P w = .ok (.value (.agg cs)) w := by
  unfold execOp
  simp only [ho, hx, Instr.loadAt, Instr.sureAddr, Sem.run_bind, Sem.run_pure, Result.andThen_ok, run_loadVar_row w g t ty cs fr d hg hu hd hi]
theorem ans_ne (R : Int) : (ans 0 R != ans 3 R) = true := by
  show ((R == 0) != (R != 0)) = true
  unfold bne
  cases R == 0 <;> rfl
theorem ans_flip (R S : Int) (h : S = - R) : (ans 1 R == ans 2 S) = true := by
  subst h
  simp [ans]
structure Fin (w : World) (sb ob : Nat) (A : Int → Bool) (C K O B : Array Value) (W : World) : Prop where
  below : Below w.heap.size w W
  c : W.heap[w.heap.size]? = some (.cells C 38 (0, 0))
  kv : W.heap[w.heap.size + 1]? = some (.cells K 34 (0, 0))
  is : W.heap[sb]? = some (.cells (arr A 4) 41 (0, 0))
  o : W.heap[ob]? = some (.cells O 38 (0, 0))
  b : W.heap[ob + 1]? = some (.cells B 34 (0, 0))
theorem Fin.drew {w : World} {sb ob : Nat} {A : Int → Bool} {C K O B : Array Value} {W : World} (h : Fin w sb ob A C K O B W) : Fin w sb ob A C K O B W.drew := ⟨h.below.drew, h.c, h.kv, h.is, h.o, h.b⟩
theorem Fin.setO {w : World} {sb ob : Nat} {A : Int → Bool} {C K O B : Array Value} {W : World} (h : Fin w sb ob A C K O B W) (h1 : w.heap.size + 1 < sb) (h2 : sb < ob) (i : Nat) (v : Value) : Fin w sb ob A C K (O.setIfInBounds i v) B (W.setCell ⟨ob, i, none⟩ v) :=
  ⟨h.below.setCell (show w.heap.size ≤ ob by omega) _, set_other h.c (by omega) _ _, set_other h.kv (by omega) _ _, set_other h.is (by omega) _ _, set_block h.o _ _, set_other h.b (by omega) _ _⟩
theorem Fin.setB {w : World} {sb ob : Nat} {A : Int → Bool} {C K O B : Array Value} {W : World} (h : Fin w sb ob A C K O B W) (h1 : w.heap.size + 1 < sb) (h2 : sb < ob) (i : Nat) (v : Value) : Fin w sb ob A C K O (B.setIfInBounds i v) (W.setCell ⟨ob + 1, i, none⟩ v) :=
  ⟨h.below.setCell (show w.heap.size ≤ ob + 1 by omega) _, set_other h.c (by omega) _ _, set_other h.kv (by omega) _ _, set_other h.is (by omega) _ _, set_other h.o (by omega) _ _, set_block h.b _ _⟩
theorem Fin.more {w : World} {sb ob : Nat} {A : Int → Bool} {C K O B : Array Value} {W W' : World} (h : Fin w sb ob A C K O B W) (hb : Below W.heap.size W W') : Fin w sb ob A C K O B W' :=
  ⟨h.below.more hb, (hb.block _ (lt_of_block h.c)).trans h.c, (hb.block _ (lt_of_block h.kv)).trans h.kv, (hb.block _ (lt_of_block h.is)).trans h.is, (hb.block _ (lt_of_block h.o)).trans h.o, (hb.block _ (lt_of_block h.b)).trans h.b⟩
theorem arr_step0 (A : Int → Bool) : (arr A 0).setIfInBounds 0 (.bool (A 0)) = arr A 1 := by simp [arr]
theorem arr_step1 (A : Int → Bool) : (arr A 1).setIfInBounds 1 (.bool (A 1)) = arr A 2 := by simp [arr]
theorem arr_step2 (A : Int → Bool) : (arr A 2).setIfInBounds 2 (.bool (A 2)) = arr A 3 := by simp [arr]
theorem arr_step3 (A : Int → Bool) : (arr A 3).setIfInBounds 3 (.bool (A 3)) = arr A 4 := by simp [arr]
theorem c7 {w : World} {g : Nat} {t r n : Int} {k e x : ByteArray} {b : Bool} (h : w.heap[g]? = some (.cells #[.int .i64 t, .int .i64 r, .string k, .string e, .int .i64 n, .string x, .bool b] 38 (0, 0))) :
    w.cell? ⟨g, 0, none⟩ = some (.int .i64 t) ∧ w.cell? ⟨g, 1, none⟩ = some (.int .i64 r) ∧ w.cell? ⟨g, 2, none⟩ = some (.string k) ∧ w.cell? ⟨g, 3, none⟩ = some (.string e) ∧ w.cell? ⟨g, 4, none⟩ = some (.int .i64 n) ∧
    w.cell? ⟨g, 5, none⟩ = some (.string x) ∧ w.cell? ⟨g, 6, none⟩ = some (.bool b) := by
  have f := fun i => cell_of h i
  exact ⟨f 0, f 1, f 2, f 3, f 4, f 5, f 6⟩
theorem c6 {w : World} {g : Nat} {key val : ByteArray} {cr md ver ls : Int} (h : w.heap[g]? = some (.cells #[.string key, .string val, .int .i64 cr, .int .i64 md, .int .i64 ver, .int .i64 ls] 34 (0, 0))) :
    w.cell? ⟨g, 0, none⟩ = some (.string key) ∧ w.cell? ⟨g, 1, none⟩ = some (.string val) ∧ w.cell? ⟨g, 2, none⟩ = some (.int .i64 cr) ∧ w.cell? ⟨g, 3, none⟩ = some (.int .i64 md) ∧ w.cell? ⟨g, 4, none⟩ = some (.int .i64 ver) ∧ w.cell? ⟨g, 5, none⟩ = some (.int .i64 ls) := by
  have f := fun i => cell_of h i
  exact ⟨f 0, f 1, f 2, f 3, f 4, f 5⟩

set_option maxRecDepth 100000 in
set_option maxHeartbeats 4000000 in
theorem law (w : World) (t r n : Int) (k e x key val : ByteArray) (cr md ver ls : Int) (b : Bool) :
    Calls Try.prog 6 #[.agg #[.int .i64 t, .int .i64 r, .string k, .string e, .int .i64 n, .string x, .bool b], .agg #[.string key, .string val, .int .i64 cr, .int .i64 md, .int .i64 ver, .int .i64 ls]] w (Gives (.bool true) w) := by
  go_enter Try.func6, Try.ntmps6
  go_wp2_with fail
  refine (Fits.fits10 _ _ _ _ _ _ _ _).mono ?_
  rintro e' w1 ⟨b1, rfl, hb1⟩
  have HB1 : Box _ := ⟨((Below.new w _).more (Below.new _ _)).more hb1⟩
  have hc1 := hb1.block w.heap.size (by simp; omega)
  have hk1 := hb1.block (w.heap.size + 1) (by simp)
  have ec := alloc_at (alloc_new w (.cells #[.int .i64 t, .int .i64 r, .string k, .string e, .int .i64 n, .string x, .bool b] 38)) (.cells #[.string key, .string val, .int .i64 cr, .int .i64 md, .int .i64 ver, .int .i64 ls] 34)
  have ek := alloc_new (w.alloc (.cells #[.int .i64 t, .int .i64 r, .string k, .string e, .int .i64 n, .string x, .bool b] 38)) (.cells #[.string key, .string val, .int .i64 cr, .int .i64 md, .int .i64 ver, .int .i64 ls] 34)
  rw [show (w.alloc (.cells #[.int .i64 t, .int .i64 r, .string k, .string e, .int .i64 n, .string x, .bool b] 38)).heap.size = w.heap.size + 1 by simp] at ek
  rw [ec] at hc1
  rw [ek] at hk1
  obtain ⟨d0, d1, d2, d3, d4, d5⟩ := c6 hk1
  have HC1 : Box _ := ⟨hc1⟩
  have HK1 : Box _ := ⟨hk1⟩
  clear hb1 hc1 hk1 ec ek
  cases b1 with
  | false => go_wp2_with fail; go_ret; exact ⟨rfl, HB1.out⟩
  | true =>
  go_wp2_with fail
  refine (fits14 _ _ _ _ _ _ _).mono ?_
  rintro e' w2 ⟨b2, rfl, hb2⟩
  have HB2 : Box _ := ⟨HB1.out.more hb2⟩
  have HC2 : Box _ := ⟨(hb2.block _ (lt_of_block HC1.out)).trans HC1.out⟩
  have HK2 : Box _ := ⟨(hb2.block _ (lt_of_block HK1.out)).trans HK1.out⟩
  clear hb2 d0 d1 d2 d3 d4 d5
  obtain ⟨c0, c1, c2, c3, c4, c5, c6⟩ := c7 HC2.out
  cases b2 with
  | false => go_wp2_with fail; go_ret; exact ⟨rfl, HB2.out⟩
  | true =>
  go_wp2_with fail
  refine (txn_cmp _ _ _ _ _ _ _ _).mono ?_
  rintro e' w3 ⟨rfl, hb3⟩
  have HB3 : Box _ := ⟨HB2.out.more hb3⟩
  have HC3 : Box _ := ⟨(hb3.block _ (lt_of_block HC2.out)).trans HC2.out⟩
  have HK3 : Box _ := ⟨(hb3.block _ (lt_of_block HK2.out)).trans HK2.out⟩
  clear hb3 c0 c1 c2 c3 c4 c5 c6 HB1 HB2 HC1 HC2 HK1 HK2
  obtain ⟨c0, c1, c2, c3, c4, c5, c6⟩ := c7 HC3.out
  obtain ⟨d0, d1, -⟩ := CmpLaw.c6 HK3.out
  have HG : Box (goodB t r k e x = goodB t r k e x) := ⟨rfl⟩
  cases hg : goodB t r k e x with
  | false => go_wp2_with fail; go_ret; exact ⟨rfl, HB3.out⟩
  | true =>
  cases b with
  | true => go_wp2_with fail; go_ret; exact ⟨rfl, HB3.out⟩
  | false =>
  cases hk1 : decide ((1000 : Int) < key.size) with
  | true => go_wp2_with fail; go_ret; exact ⟨rfl, HB3.out⟩
  | false =>
  cases hk2 : decide ((1000 : Int) < val.size) with
  | true => go_wp2_with fail; go_ret; exact ⟨rfl, HB3.out⟩
  | false =>
  have hb : (0 ≤ t ∧ t ≤ 4) := by
    unfold goodB at hg; simp at hg; omega
  obtain ⟨A, hA⟩ : ∃ A : Int → Bool, A = fun j => ans j (res t n x.data.toList val.data.toList cr md ver ls) := ⟨_, rfl⟩
  have HA : Box (∀ (j : Int) (w' : World), 0 ≤ j → j ≤ 4 → Calls Try.prog 21 #[.agg (cells7 t j k e n x), .agg (cells6 key val cr md ver ls)] w' (Gives (.bool (A j)) w')) :=
    ⟨fun j w' h0 h1 => by rw [hA]; exact CmpKv.kv w' t j n k e x key val cr md ver ls hb.1 hb.2 h0 h1⟩
  have HAE : Box _ := ⟨hA⟩
  have HBT : Box _ := ⟨hb⟩
  clear hA hb
  go_wp2_with fail
  have hlt : w.heap.size + 1 < w3.heap.size := lt_of_block HK3.out
  clear HG hk1 hk2 hg c0 c1 c2 c3 c4 c5 c6 d0 d1
  go_loopw [6, 37] (fun sn si wr => ∃ i : Nat, i ≤ 4 ∧ si = .int .i64 i ∧ sn = .int .i64 (cnt A i) ∧ Inv w w3.heap.size A t r k e n x key val cr md ver ls i wr) (fun _ i _ => 4 - (intOf i).toNat)
  case atStart =>
    refine ⟨0, by omega, rfl, by simp [cnt], ⟨HB3.out.more (Below.new _ _), ⟨r, alloc_at HC3.out _⟩, alloc_at HK3.out _, ?_⟩⟩
    have := alloc_new w3 (.cells #[.bool false, .bool false, .bool false, .bool false] 41)
    simpa [arr] using this
  case round =>
    obtain ⟨i, hi, rfl, rfl, hinv⟩ := hrel
    obtain ⟨hb0, ⟨r', hc⟩, hk, hs⟩ := hinv
    have hcb := cnt_bd A i
    by_cases hlt4 : i < 4
    · have c1 : wr.cell? ⟨w.heap.size, 1, none⟩ = some (.int .i64 r') := cell_of hc 1
      have f1 := free_of hc 1
      have HC4 : Box _ := ⟨set_block hc 1 (.int .i64 (i : Int))⟩
      have HK4 : Box _ := ⟨set_other hk (show w.heap.size + 1 ≠ w.heap.size by omega) 1 (.int .i64 (i : Int))⟩
      have HS4 : Box _ := ⟨set_other hs (show w3.heap.size ≠ w.heap.size by omega) 1 (.int .i64 (i : Int))⟩
      have HB4 : Box (Below w.heap.size w (wr.setCell ⟨w.heap.size, 1, none⟩ (.int .i64 (i : Int)))) := ⟨hb0.setCell (Nat.le_refl _) _⟩
      have hn1 : ¬ w3.heap.size = w.heap.size := by omega
      have hn2 : ¬ w3.heap.size = w.heap.size + 1 := by omega
      clear hb0 hc hk hs
      rcases (by omega : i = 0 ∨ i = 1 ∨ i = 2 ∨ i = 3) with rfl | rfl | rfl | rfl
      · go_wp2_with (first | (refine wpList_load_block (by rfl) 38 _ rfl _ rfl _ _ _ _ HC4.out Try.underlying38 rfl (by kernel_rfl) ?_) | (refine wpList_load_block (by rfl) 34 _ rfl _ rfl _ _ _ _ HK4.out Try.underlying34 rfl (by kernel_rfl) ?_))
        refine (HA.out _ _ (by omega) (by omega)).mono ?_
        rintro e' w5 ⟨rfl, hb5⟩
        have hs5 := (hb5.block _ (lt_of_block HS4.out)).trans HS4.out
        have hc5 := (hb5.block _ (lt_of_block HC4.out)).trans HC4.out
        have hk5 := (hb5.block _ (lt_of_block HK4.out)).trans HK4.out
        have s1 : w5.cell? ⟨w3.heap.size, 0, none⟩ = some (.bool false) := cell_of hs5 0
        have f5 := free_of hs5 0
        have HE : Box (∃ r', (w5.setCell ⟨w3.heap.size, 0, none⟩ (.bool (A 0))).heap[w.heap.size]? = some (.cells (cells7 t r' k e n x) 38 (0, 0))) := ⟨⟨0, set_other hc5 (show w.heap.size ≠ w3.heap.size by omega) 0 (.bool (A 0))⟩⟩
        have HI : Box (Inv w w3.heap.size A t r k e n x key val cr md ver ls 1 (w5.setCell ⟨w3.heap.size, 0, none⟩ (.bool (A 0)))) :=
          ⟨⟨(HB4.out.more hb5).setCell (show w.heap.size ≤ w3.heap.size by omega) _, HE.out, set_other hk5 (show w.heap.size + 1 ≠ w3.heap.size by omega) 0 (.bool (A 0)), (set_block hs5 0 (.bool (A 0))).trans (by rw [arr_step0])⟩⟩
        have hcn : cnt A 1 = cnt A 0 + b2i (A 0) := by simp [cnt]
        clear hb5 hs5 hc5 hk5 HC4 HK4 HS4 HB4
        generalize hAi : A 0 = ai at *
        cases ai with
        | false =>
          go_wp2_with fail
          exact ⟨⟨1, by omega, rfl, by rw [hcn]; simp [b2i], HI.out⟩, by simp [intOf]⟩
        | true =>
          go_wp2_with fail
          exact ⟨⟨1, by omega, rfl, by rw [hcn]; simp [b2i], HI.out⟩, by simp [intOf]⟩
      · go_wp2_with (first | (refine wpList_load_block (by rfl) 38 _ rfl _ rfl _ _ _ _ HC4.out Try.underlying38 rfl (by kernel_rfl) ?_) | (refine wpList_load_block (by rfl) 34 _ rfl _ rfl _ _ _ _ HK4.out Try.underlying34 rfl (by kernel_rfl) ?_))
        refine (HA.out _ _ (by omega) (by omega)).mono ?_
        rintro e' w5 ⟨rfl, hb5⟩
        have hs5 := (hb5.block _ (lt_of_block HS4.out)).trans HS4.out
        have hc5 := (hb5.block _ (lt_of_block HC4.out)).trans HC4.out
        have hk5 := (hb5.block _ (lt_of_block HK4.out)).trans HK4.out
        have s1 : w5.cell? ⟨w3.heap.size, 1, none⟩ = some (.bool false) := cell_of hs5 1
        have f5 := free_of hs5 1
        have HE : Box (∃ r', (w5.setCell ⟨w3.heap.size, 1, none⟩ (.bool (A 1))).heap[w.heap.size]? = some (.cells (cells7 t r' k e n x) 38 (0, 0))) := ⟨⟨1, set_other hc5 (show w.heap.size ≠ w3.heap.size by omega) 1 (.bool (A 1))⟩⟩
        have HI : Box (Inv w w3.heap.size A t r k e n x key val cr md ver ls 2 (w5.setCell ⟨w3.heap.size, 1, none⟩ (.bool (A 1)))) :=
          ⟨⟨(HB4.out.more hb5).setCell (show w.heap.size ≤ w3.heap.size by omega) _, HE.out, set_other hk5 (show w.heap.size + 1 ≠ w3.heap.size by omega) 1 (.bool (A 1)), (set_block hs5 1 (.bool (A 1))).trans (by rw [arr_step1])⟩⟩
        have hcn : cnt A 2 = cnt A 1 + b2i (A 1) := by simp [cnt]
        clear hb5 hs5 hc5 hk5 HC4 HK4 HS4 HB4
        generalize hAi : A 1 = ai at *
        cases ai with
        | false =>
          go_wp2_with fail
          exact ⟨⟨2, by omega, rfl, by rw [hcn]; simp [b2i], HI.out⟩, by simp [intOf]⟩
        | true =>
          go_wp2_with fail
          exact ⟨⟨2, by omega, rfl, by rw [hcn]; simp [b2i], HI.out⟩, by simp [intOf]⟩
      · go_wp2_with (first | (refine wpList_load_block (by rfl) 38 _ rfl _ rfl _ _ _ _ HC4.out Try.underlying38 rfl (by kernel_rfl) ?_) | (refine wpList_load_block (by rfl) 34 _ rfl _ rfl _ _ _ _ HK4.out Try.underlying34 rfl (by kernel_rfl) ?_))
        refine (HA.out _ _ (by omega) (by omega)).mono ?_
        rintro e' w5 ⟨rfl, hb5⟩
        have hs5 := (hb5.block _ (lt_of_block HS4.out)).trans HS4.out
        have hc5 := (hb5.block _ (lt_of_block HC4.out)).trans HC4.out
        have hk5 := (hb5.block _ (lt_of_block HK4.out)).trans HK4.out
        have s1 : w5.cell? ⟨w3.heap.size, 2, none⟩ = some (.bool false) := cell_of hs5 2
        have f5 := free_of hs5 2
        have HE : Box (∃ r', (w5.setCell ⟨w3.heap.size, 2, none⟩ (.bool (A 2))).heap[w.heap.size]? = some (.cells (cells7 t r' k e n x) 38 (0, 0))) := ⟨⟨2, set_other hc5 (show w.heap.size ≠ w3.heap.size by omega) 2 (.bool (A 2))⟩⟩
        have HI : Box (Inv w w3.heap.size A t r k e n x key val cr md ver ls 3 (w5.setCell ⟨w3.heap.size, 2, none⟩ (.bool (A 2)))) :=
          ⟨⟨(HB4.out.more hb5).setCell (show w.heap.size ≤ w3.heap.size by omega) _, HE.out, set_other hk5 (show w.heap.size + 1 ≠ w3.heap.size by omega) 2 (.bool (A 2)), (set_block hs5 2 (.bool (A 2))).trans (by rw [arr_step2])⟩⟩
        have hcn : cnt A 3 = cnt A 2 + b2i (A 2) := by simp [cnt]
        clear hb5 hs5 hc5 hk5 HC4 HK4 HS4 HB4
        generalize hAi : A 2 = ai at *
        cases ai with
        | false =>
          go_wp2_with fail
          exact ⟨⟨3, by omega, rfl, by rw [hcn]; simp [b2i], HI.out⟩, by simp [intOf]⟩
        | true =>
          go_wp2_with fail
          exact ⟨⟨3, by omega, rfl, by rw [hcn]; simp [b2i], HI.out⟩, by simp [intOf]⟩
      · go_wp2_with (first | (refine wpList_load_block (by rfl) 38 _ rfl _ rfl _ _ _ _ HC4.out Try.underlying38 rfl (by kernel_rfl) ?_) | (refine wpList_load_block (by rfl) 34 _ rfl _ rfl _ _ _ _ HK4.out Try.underlying34 rfl (by kernel_rfl) ?_))
        refine (HA.out _ _ (by omega) (by omega)).mono ?_
        rintro e' w5 ⟨rfl, hb5⟩
        have hs5 := (hb5.block _ (lt_of_block HS4.out)).trans HS4.out
        have hc5 := (hb5.block _ (lt_of_block HC4.out)).trans HC4.out
        have hk5 := (hb5.block _ (lt_of_block HK4.out)).trans HK4.out
        have s1 : w5.cell? ⟨w3.heap.size, 3, none⟩ = some (.bool false) := cell_of hs5 3
        have f5 := free_of hs5 3
        have HE : Box (∃ r', (w5.setCell ⟨w3.heap.size, 3, none⟩ (.bool (A 3))).heap[w.heap.size]? = some (.cells (cells7 t r' k e n x) 38 (0, 0))) := ⟨⟨3, set_other hc5 (show w.heap.size ≠ w3.heap.size by omega) 3 (.bool (A 3))⟩⟩
        have HI : Box (Inv w w3.heap.size A t r k e n x key val cr md ver ls 4 (w5.setCell ⟨w3.heap.size, 3, none⟩ (.bool (A 3)))) :=
          ⟨⟨(HB4.out.more hb5).setCell (show w.heap.size ≤ w3.heap.size by omega) _, HE.out, set_other hk5 (show w.heap.size + 1 ≠ w3.heap.size by omega) 3 (.bool (A 3)), (set_block hs5 3 (.bool (A 3))).trans (by rw [arr_step3])⟩⟩
        have hcn : cnt A 4 = cnt A 3 := by simp [cnt]
        clear hb5 hs5 hc5 hk5 HC4 HK4 HS4 HB4
        generalize hAi : A 3 = ai at *
        cases ai with
        | false =>
          go_wp2_with fail
          exact ⟨⟨4, by omega, rfl, by rw [hcn], HI.out⟩, by simp [intOf]⟩
        | true =>
          go_wp2_with fail
          exact ⟨⟨4, by omega, rfl, by rw [hcn], HI.out⟩, by simp [intOf]⟩
    · have hi4 : i = 4 := by omega
      subst hi4
      have hlr : w.heap.size + 1 < wr.heap.size := lt_of_block hk
      have hn3 : ¬ wr.heap.size = w.heap.size := by omega
      have hn4 : ¬ wr.heap.size + 1 = w.heap.size := by omega
      have hn5 : ¬ wr.heap.size = w.heap.size + 1 := by omega
      have hn6 : ¬ wr.heap.size + 1 = w.heap.size + 1 := by omega
      have c0 := cell_of (alloc_at (alloc_at hc (.cells (cells7 t r' k e n x) 38)) (.cells (cells6 key val cr md ver ls) 34)) 0
      rw [show (cells7 t r' k e n x)[0]? = some (.int .i64 t) from rfl] at c0
      have HC4 : Box _ := ⟨hc⟩
      have HK4 : Box _ := ⟨hk⟩
      have HS4 : Box _ := ⟨hs⟩
      have HB4 : Box _ := ⟨hb0⟩
      have E1 := new7 wr t r' n k e x
      have E2 := new6 (wr.alloc (.cells (cells7 t r' k e n x) 38)) key val cr md ver ls
      simp only [heap_alloc_size] at E2
      have HK5 : Box _ := ⟨alloc_at hk (.cells (cells7 t r' k e n x) 38)⟩
      have HF : Box (Fin w w3.heap.size wr.heap.size A (cells7 t r' k e n x) (cells6 key val cr md ver ls) (cells7 t r' k e n x) (cells6 key val cr md ver ls) ((wr.alloc (.cells (cells7 t r' k e n x) 38)).alloc (.cells (cells6 key val cr md ver ls) 34))) :=
        ⟨⟨(hb0.more (Below.new _ _)).more (Below.new _ _), alloc_at (alloc_at hc _) _, alloc_at (alloc_at hk _) _, alloc_at (alloc_at hs _) _, alloc_at (alloc_new wr _) _, by have := alloc_new (wr.alloc (.cells (cells7 t r' k e n x) 38)) (.cells (cells6 key val cr md ver ls) 34); rwa [heap_alloc_size] at this⟩⟩
      have hls : w3.heap.size < wr.heap.size := lt_of_block hs
      clear hb0 hc hk hs
      have hcnt : cnt A 4 = 1 := by rw [HAE.out]; exact cnt_one _
      rw [hcnt]
      go_upto_block 2 with (first | (refine wpList_load_block (by rfl) 38 _ rfl _ rfl _ _ _ _ HC4.out Try.underlying38 rfl (by kernel_rfl) ?_) | (refine wpList_load_block (by rfl) 34 _ rfl _ rfl _ _ _ _ HK5.out Try.underlying34 rfl (by kernel_rfl) ?_))
      clear E1 E2 HC4 HK4 HS4 HB4 HK5
      go_cut [] (fun wx => ∃ n' x' cr' md' ver' ls' val', res t n' x'.data.toList val'.data.toList cr' md' ver' ls' = - res t n x.data.toList val.data.toList cr md ver ls ∧ Fin w w3.heap.size wr.heap.size A (cells7 t r' k e n x) (cells6 key val cr md ver ls) (cells7 t r' k e n' x') (cells6 key val' cr' md' ver' ls') wx)
      case first =>
        go_wp2_with fail
        · refine wp_region_held_drew (S := fun W => W.heap[w.heap.size]? = some (.cells (cells7 t r' k e n x) 38 (0, 0)) ∧ W.heap[w.heap.size + 1]? = some (.cells (cells6 key val cr md ver ls) 34 (0, 0))) (by kernel_rfl) ⟨HF.out.c, HF.out.kv⟩ (fun _ => ?_)
          have HFd : Box _ := ⟨HF.out.drew⟩
          generalize World.drew _ = W5 at *
          have hHeld : W5.heap[w.heap.size]? = some (.cells (cells7 t r' k e n x) 38 (0, 0)) ∧ W5.heap[w.heap.size + 1]? = some (.cells (cells6 key val cr md ver ls) 34 (0, 0)) := ⟨HFd.out.c, HFd.out.kv⟩
          refine Flow.take (i := 0) (d := (some 69)) (v := ?v20_0) rfl rfl (by kernel_rfl) (by kernel_rfl) (by kernel_rfl) (fun _ _ _ h => h) (by rfl) ?y20_0 hHeld ?r20_0
          case y20_0 =>
            intro w' hS
            have q1 : w'.cell? ⟨w.heap.size, 4, none⟩ = some (.int .i64 n) := cell_of hS.1 4
            have q2 : w'.cell? ⟨w.heap.size + 1, 4, none⟩ = some (.int .i64 ver) := cell_of hS.2 4
            clear hS
            go_simp
            with_reducible rfl
          case r20_0 =>
          simp only [Act.put, List.setIfInBounds_toArray, List.set_cons_zero, List.set_cons_succ]
          refine Flow.take (i := 1) (d := (some 70)) (v := ?v20_1) rfl rfl (by kernel_rfl) (by kernel_rfl) (by kernel_rfl) (fun _ _ _ h => h) (by rfl) ?y20_1 hHeld ?r20_1
          case y20_1 =>
            intro w' hS
            have q1 : w'.cell? ⟨w.heap.size, 4, none⟩ = some (.int .i64 n) := cell_of hS.1 4
            have q2 : w'.cell? ⟨w.heap.size + 1, 4, none⟩ = some (.int .i64 ver) := cell_of hS.2 4
            clear hS
            go_simp
            with_reducible rfl
          case r20_1 =>
          simp only [Act.put, List.setIfInBounds_toArray, List.set_cons_zero, List.set_cons_succ]
          refine Flow.take (i := 2) (d := (some 71)) (v := ?v20_2) rfl rfl (by kernel_rfl) (by kernel_rfl) (by kernel_rfl) (fun _ _ _ h => h) (by rfl) ?y20_2 hHeld ?r20_2
          case y20_2 =>
            intro w' hS
            have q1 : w'.cell? ⟨w.heap.size, 4, none⟩ = some (.int .i64 n) := cell_of hS.1 4
            have q2 : w'.cell? ⟨w.heap.size + 1, 4, none⟩ = some (.int .i64 ver) := cell_of hS.2 4
            clear hS
            go_simp
            with_reducible rfl
          case r20_2 =>
          simp only [Act.put, List.setIfInBounds_toArray, List.set_cons_zero, List.set_cons_succ]
          refine Flow.take (i := 3) (d := (some 72)) (v := ?v20_3) rfl rfl (by kernel_rfl) (by kernel_rfl) (by kernel_rfl) (fun _ _ _ h => h) (by rfl) ?y20_3 hHeld ?r20_3
          case y20_3 =>
            intro w' hS
            have q1 : w'.cell? ⟨w.heap.size, 4, none⟩ = some (.int .i64 n) := cell_of hS.1 4
            have q2 : w'.cell? ⟨w.heap.size + 1, 4, none⟩ = some (.int .i64 ver) := cell_of hS.2 4
            clear hS
            go_simp
            with_reducible rfl
          case r20_3 =>
          simp only [Act.put, List.setIfInBounds_toArray, List.set_cons_zero, List.set_cons_succ]
          refine Flow.take (i := 4) (d := (some 73)) (v := ?v20_4) rfl rfl (by kernel_rfl) (by kernel_rfl) (by kernel_rfl) (fun _ _ _ h => h) (by rfl) ?y20_4 hHeld ?r20_4
          case y20_4 =>
            intro w' hS
            have q1 : w'.cell? ⟨w.heap.size, 4, none⟩ = some (.int .i64 n) := cell_of hS.1 4
            have q2 : w'.cell? ⟨w.heap.size + 1, 4, none⟩ = some (.int .i64 ver) := cell_of hS.2 4
            clear hS
            go_simp
            with_reducible rfl
          case r20_4 =>
          simp only [Act.put, List.setIfInBounds_toArray, List.set_cons_zero, List.set_cons_succ]
          have o1 : W5.cell? ⟨wr.heap.size, 4, none⟩ = some (.int .i64 n) := cell_of HFd.out.o 4
          have o2 := free_of HFd.out.o 4
          have HF6 : Box _ := ⟨HFd.out.setO hlt hls 4 (.int .i64 ver)⟩
          have p1 : (W5.setCell ⟨wr.heap.size, 4, none⟩ (.int .i64 ver)).cell? ⟨wr.heap.size + 1, 4, none⟩ = some (.int .i64 ver) := cell_of HF6.out.b 4
          have p2 := free_of HF6.out.b 4
          have HF7 : Box _ := ⟨HF6.out.setB hlt hls 4 (.int .i64 n)⟩
          refine Flow.stepB 5 (by kernel_rfl) rfl (fun Kc hKc => ?_)
          go_simp
          refine hKc _ _ ⟨HF6.out.c, HF6.out.kv⟩ (fun hHeld => ?_)
          clear hKc Kc
          refine Flow.take (i := 6) (d := (some 74)) (v := ?v20_6) rfl rfl (by kernel_rfl) (by kernel_rfl) (by kernel_rfl) (fun _ _ _ h => h) (by rfl) ?y20_6 hHeld ?r20_6
          case y20_6 => (intro w' hS; go_simp; with_reducible rfl)
          case r20_6 =>
          simp only [Act.put, List.setIfInBounds_toArray, List.set_cons_zero, List.set_cons_succ]
          refine Flow.stepB 7 (by kernel_rfl) rfl (fun Kc hKc => ?_)
          go_simp
          refine hKc _ _ ⟨HF7.out.c, HF7.out.kv⟩ (fun hHeld => ?_)
          clear hKc Kc
          refine Flow.doneB (by kernel_rfl) ?_
          go_wp2_with fail
          go_meet
          exact ⟨ver, x, cr, md, n, ls, val, by have ht : t = 0 := eq_of_beq (by assumption); rw [ht]; exact flip0 _ _ _ _ _ _ _, HF7.out⟩
        · refine wp_region_held_drew (S := fun W => W.heap[w.heap.size]? = some (.cells (cells7 t r' k e n x) 38 (0, 0)) ∧ W.heap[w.heap.size + 1]? = some (.cells (cells6 key val cr md ver ls) 34 (0, 0))) (by kernel_rfl) ⟨HF.out.c, HF.out.kv⟩ (fun _ => ?_)
          have HFd : Box _ := ⟨HF.out.drew⟩
          generalize World.drew _ = W5 at *
          have hHeld : W5.heap[w.heap.size]? = some (.cells (cells7 t r' k e n x) 38 (0, 0)) ∧ W5.heap[w.heap.size + 1]? = some (.cells (cells6 key val cr md ver ls) 34 (0, 0)) := ⟨HFd.out.c, HFd.out.kv⟩
          refine Flow.take (i := 0) (d := (some 77)) (v := ?v22_0) rfl rfl (by kernel_rfl) (by kernel_rfl) (by kernel_rfl) (fun _ _ _ h => h) (by rfl) ?y22_0 hHeld ?r22_0
          case y22_0 =>
            intro w' hS
            have q1 : w'.cell? ⟨w.heap.size, 4, none⟩ = some (.int .i64 n) := cell_of hS.1 4
            have q2 : w'.cell? ⟨w.heap.size + 1, 2, none⟩ = some (.int .i64 cr) := cell_of hS.2 2
            clear hS
            go_simp
            with_reducible rfl
          case r22_0 =>
          simp only [Act.put, List.setIfInBounds_toArray, List.set_cons_zero, List.set_cons_succ]
          refine Flow.take (i := 1) (d := (some 78)) (v := ?v22_1) rfl rfl (by kernel_rfl) (by kernel_rfl) (by kernel_rfl) (fun _ _ _ h => h) (by rfl) ?y22_1 hHeld ?r22_1
          case y22_1 =>
            intro w' hS
            have q1 : w'.cell? ⟨w.heap.size, 4, none⟩ = some (.int .i64 n) := cell_of hS.1 4
            have q2 : w'.cell? ⟨w.heap.size + 1, 2, none⟩ = some (.int .i64 cr) := cell_of hS.2 2
            clear hS
            go_simp
            with_reducible rfl
          case r22_1 =>
          simp only [Act.put, List.setIfInBounds_toArray, List.set_cons_zero, List.set_cons_succ]
          refine Flow.take (i := 2) (d := (some 79)) (v := ?v22_2) rfl rfl (by kernel_rfl) (by kernel_rfl) (by kernel_rfl) (fun _ _ _ h => h) (by rfl) ?y22_2 hHeld ?r22_2
          case y22_2 =>
            intro w' hS
            have q1 : w'.cell? ⟨w.heap.size, 4, none⟩ = some (.int .i64 n) := cell_of hS.1 4
            have q2 : w'.cell? ⟨w.heap.size + 1, 2, none⟩ = some (.int .i64 cr) := cell_of hS.2 2
            clear hS
            go_simp
            with_reducible rfl
          case r22_2 =>
          simp only [Act.put, List.setIfInBounds_toArray, List.set_cons_zero, List.set_cons_succ]
          refine Flow.take (i := 3) (d := (some 80)) (v := ?v22_3) rfl rfl (by kernel_rfl) (by kernel_rfl) (by kernel_rfl) (fun _ _ _ h => h) (by rfl) ?y22_3 hHeld ?r22_3
          case y22_3 =>
            intro w' hS
            have q1 : w'.cell? ⟨w.heap.size, 4, none⟩ = some (.int .i64 n) := cell_of hS.1 4
            have q2 : w'.cell? ⟨w.heap.size + 1, 2, none⟩ = some (.int .i64 cr) := cell_of hS.2 2
            clear hS
            go_simp
            with_reducible rfl
          case r22_3 =>
          simp only [Act.put, List.setIfInBounds_toArray, List.set_cons_zero, List.set_cons_succ]
          refine Flow.take (i := 4) (d := (some 81)) (v := ?v22_4) rfl rfl (by kernel_rfl) (by kernel_rfl) (by kernel_rfl) (fun _ _ _ h => h) (by rfl) ?y22_4 hHeld ?r22_4
          case y22_4 =>
            intro w' hS
            have q1 : w'.cell? ⟨w.heap.size, 4, none⟩ = some (.int .i64 n) := cell_of hS.1 4
            have q2 : w'.cell? ⟨w.heap.size + 1, 2, none⟩ = some (.int .i64 cr) := cell_of hS.2 2
            clear hS
            go_simp
            with_reducible rfl
          case r22_4 =>
          simp only [Act.put, List.setIfInBounds_toArray, List.set_cons_zero, List.set_cons_succ]
          have o1 : W5.cell? ⟨wr.heap.size, 4, none⟩ = some (.int .i64 n) := cell_of HFd.out.o 4
          have o2 := free_of HFd.out.o 4
          have HF6 : Box _ := ⟨HFd.out.setO hlt hls 4 (.int .i64 cr)⟩
          have p1 : (W5.setCell ⟨wr.heap.size, 4, none⟩ (.int .i64 cr)).cell? ⟨wr.heap.size + 1, 2, none⟩ = some (.int .i64 cr) := cell_of HF6.out.b 2
          have p2 := free_of HF6.out.b 2
          have HF7 : Box _ := ⟨HF6.out.setB hlt hls 2 (.int .i64 n)⟩
          refine Flow.stepB 5 (by kernel_rfl) rfl (fun Kc hKc => ?_)
          go_simp
          refine hKc _ _ ⟨HF6.out.c, HF6.out.kv⟩ (fun hHeld => ?_)
          clear hKc Kc
          refine Flow.take (i := 6) (d := (some 82)) (v := ?v22_6) rfl rfl (by kernel_rfl) (by kernel_rfl) (by kernel_rfl) (fun _ _ _ h => h) (by rfl) ?y22_6 hHeld ?r22_6
          case y22_6 => (intro w' hS; go_simp; with_reducible rfl)
          case r22_6 =>
          simp only [Act.put, List.setIfInBounds_toArray, List.set_cons_zero, List.set_cons_succ]
          refine Flow.stepB 7 (by kernel_rfl) rfl (fun Kc hKc => ?_)
          go_simp
          refine hKc _ _ ⟨HF7.out.c, HF7.out.kv⟩ (fun hHeld => ?_)
          clear hKc Kc
          refine Flow.doneB (by kernel_rfl) ?_
          go_wp2_with fail
          go_meet
          exact ⟨cr, x, n, md, ver, ls, val, by have ht : t = 1 := eq_of_beq (by assumption); rw [ht]; exact flip1 _ _ _ _ _ _ _, HF7.out⟩
        · refine wp_region_held_drew (S := fun W => W.heap[w.heap.size]? = some (.cells (cells7 t r' k e n x) 38 (0, 0)) ∧ W.heap[w.heap.size + 1]? = some (.cells (cells6 key val cr md ver ls) 34 (0, 0))) (by kernel_rfl) ⟨HF.out.c, HF.out.kv⟩ (fun _ => ?_)
          have HFd : Box _ := ⟨HF.out.drew⟩
          generalize World.drew _ = W5 at *
          have hHeld : W5.heap[w.heap.size]? = some (.cells (cells7 t r' k e n x) 38 (0, 0)) ∧ W5.heap[w.heap.size + 1]? = some (.cells (cells6 key val cr md ver ls) 34 (0, 0)) := ⟨HFd.out.c, HFd.out.kv⟩
          refine Flow.take (i := 0) (d := (some 85)) (v := ?v24_0) rfl rfl (by kernel_rfl) (by kernel_rfl) (by kernel_rfl) (fun _ _ _ h => h) (by rfl) ?y24_0 hHeld ?r24_0
          case y24_0 =>
            intro w' hS
            have q1 : w'.cell? ⟨w.heap.size, 4, none⟩ = some (.int .i64 n) := cell_of hS.1 4
            have q2 : w'.cell? ⟨w.heap.size + 1, 3, none⟩ = some (.int .i64 md) := cell_of hS.2 3
            clear hS
            go_simp
            with_reducible rfl
          case r24_0 =>
          simp only [Act.put, List.setIfInBounds_toArray, List.set_cons_zero, List.set_cons_succ]
          refine Flow.take (i := 1) (d := (some 86)) (v := ?v24_1) rfl rfl (by kernel_rfl) (by kernel_rfl) (by kernel_rfl) (fun _ _ _ h => h) (by rfl) ?y24_1 hHeld ?r24_1
          case y24_1 =>
            intro w' hS
            have q1 : w'.cell? ⟨w.heap.size, 4, none⟩ = some (.int .i64 n) := cell_of hS.1 4
            have q2 : w'.cell? ⟨w.heap.size + 1, 3, none⟩ = some (.int .i64 md) := cell_of hS.2 3
            clear hS
            go_simp
            with_reducible rfl
          case r24_1 =>
          simp only [Act.put, List.setIfInBounds_toArray, List.set_cons_zero, List.set_cons_succ]
          refine Flow.take (i := 2) (d := (some 87)) (v := ?v24_2) rfl rfl (by kernel_rfl) (by kernel_rfl) (by kernel_rfl) (fun _ _ _ h => h) (by rfl) ?y24_2 hHeld ?r24_2
          case y24_2 =>
            intro w' hS
            have q1 : w'.cell? ⟨w.heap.size, 4, none⟩ = some (.int .i64 n) := cell_of hS.1 4
            have q2 : w'.cell? ⟨w.heap.size + 1, 3, none⟩ = some (.int .i64 md) := cell_of hS.2 3
            clear hS
            go_simp
            with_reducible rfl
          case r24_2 =>
          simp only [Act.put, List.setIfInBounds_toArray, List.set_cons_zero, List.set_cons_succ]
          refine Flow.take (i := 3) (d := (some 88)) (v := ?v24_3) rfl rfl (by kernel_rfl) (by kernel_rfl) (by kernel_rfl) (fun _ _ _ h => h) (by rfl) ?y24_3 hHeld ?r24_3
          case y24_3 =>
            intro w' hS
            have q1 : w'.cell? ⟨w.heap.size, 4, none⟩ = some (.int .i64 n) := cell_of hS.1 4
            have q2 : w'.cell? ⟨w.heap.size + 1, 3, none⟩ = some (.int .i64 md) := cell_of hS.2 3
            clear hS
            go_simp
            with_reducible rfl
          case r24_3 =>
          simp only [Act.put, List.setIfInBounds_toArray, List.set_cons_zero, List.set_cons_succ]
          refine Flow.take (i := 4) (d := (some 89)) (v := ?v24_4) rfl rfl (by kernel_rfl) (by kernel_rfl) (by kernel_rfl) (fun _ _ _ h => h) (by rfl) ?y24_4 hHeld ?r24_4
          case y24_4 =>
            intro w' hS
            have q1 : w'.cell? ⟨w.heap.size, 4, none⟩ = some (.int .i64 n) := cell_of hS.1 4
            have q2 : w'.cell? ⟨w.heap.size + 1, 3, none⟩ = some (.int .i64 md) := cell_of hS.2 3
            clear hS
            go_simp
            with_reducible rfl
          case r24_4 =>
          simp only [Act.put, List.setIfInBounds_toArray, List.set_cons_zero, List.set_cons_succ]
          have o1 : W5.cell? ⟨wr.heap.size, 4, none⟩ = some (.int .i64 n) := cell_of HFd.out.o 4
          have o2 := free_of HFd.out.o 4
          have HF6 : Box _ := ⟨HFd.out.setO hlt hls 4 (.int .i64 md)⟩
          have p1 : (W5.setCell ⟨wr.heap.size, 4, none⟩ (.int .i64 md)).cell? ⟨wr.heap.size + 1, 3, none⟩ = some (.int .i64 md) := cell_of HF6.out.b 3
          have p2 := free_of HF6.out.b 3
          have HF7 : Box _ := ⟨HF6.out.setB hlt hls 3 (.int .i64 n)⟩
          refine Flow.stepB 5 (by kernel_rfl) rfl (fun Kc hKc => ?_)
          go_simp
          refine hKc _ _ ⟨HF6.out.c, HF6.out.kv⟩ (fun hHeld => ?_)
          clear hKc Kc
          refine Flow.take (i := 6) (d := (some 90)) (v := ?v24_6) rfl rfl (by kernel_rfl) (by kernel_rfl) (by kernel_rfl) (fun _ _ _ h => h) (by rfl) ?y24_6 hHeld ?r24_6
          case y24_6 => (intro w' hS; go_simp; with_reducible rfl)
          case r24_6 =>
          simp only [Act.put, List.setIfInBounds_toArray, List.set_cons_zero, List.set_cons_succ]
          refine Flow.stepB 7 (by kernel_rfl) rfl (fun Kc hKc => ?_)
          go_simp
          refine hKc _ _ ⟨HF7.out.c, HF7.out.kv⟩ (fun hHeld => ?_)
          clear hKc Kc
          refine Flow.doneB (by kernel_rfl) ?_
          go_wp2_with fail
          go_meet
          exact ⟨md, x, cr, n, ver, ls, val, by have ht : t = 2 := eq_of_beq (by assumption); rw [ht]; exact flip2 _ _ _ _ _ _ _, HF7.out⟩
        · refine wp_region_held_drew (S := fun W => W.heap[w.heap.size]? = some (.cells (cells7 t r' k e n x) 38 (0, 0)) ∧ W.heap[w.heap.size + 1]? = some (.cells (cells6 key val cr md ver ls) 34 (0, 0))) (by kernel_rfl) ⟨HF.out.c, HF.out.kv⟩ (fun _ => ?_)
          have HFd : Box _ := ⟨HF.out.drew⟩
          generalize World.drew _ = W5 at *
          have hHeld : W5.heap[w.heap.size]? = some (.cells (cells7 t r' k e n x) 38 (0, 0)) ∧ W5.heap[w.heap.size + 1]? = some (.cells (cells6 key val cr md ver ls) 34 (0, 0)) := ⟨HFd.out.c, HFd.out.kv⟩
          refine Flow.take (i := 0) (d := (some 93)) (v := ?v26_0) rfl rfl (by kernel_rfl) (by kernel_rfl) (by kernel_rfl) (fun _ _ _ h => h) (by rfl) ?y26_0 hHeld ?r26_0
          case y26_0 =>
            intro w' hS
            have q1 : w'.cell? ⟨w.heap.size, 4, none⟩ = some (.int .i64 n) := cell_of hS.1 4
            have q2 : w'.cell? ⟨w.heap.size + 1, 5, none⟩ = some (.int .i64 ls) := cell_of hS.2 5
            clear hS
            go_simp
            with_reducible rfl
          case r26_0 =>
          simp only [Act.put, List.setIfInBounds_toArray, List.set_cons_zero, List.set_cons_succ]
          refine Flow.take (i := 1) (d := (some 94)) (v := ?v26_1) rfl rfl (by kernel_rfl) (by kernel_rfl) (by kernel_rfl) (fun _ _ _ h => h) (by rfl) ?y26_1 hHeld ?r26_1
          case y26_1 =>
            intro w' hS
            have q1 : w'.cell? ⟨w.heap.size, 4, none⟩ = some (.int .i64 n) := cell_of hS.1 4
            have q2 : w'.cell? ⟨w.heap.size + 1, 5, none⟩ = some (.int .i64 ls) := cell_of hS.2 5
            clear hS
            go_simp
            with_reducible rfl
          case r26_1 =>
          simp only [Act.put, List.setIfInBounds_toArray, List.set_cons_zero, List.set_cons_succ]
          refine Flow.take (i := 2) (d := (some 95)) (v := ?v26_2) rfl rfl (by kernel_rfl) (by kernel_rfl) (by kernel_rfl) (fun _ _ _ h => h) (by rfl) ?y26_2 hHeld ?r26_2
          case y26_2 =>
            intro w' hS
            have q1 : w'.cell? ⟨w.heap.size, 4, none⟩ = some (.int .i64 n) := cell_of hS.1 4
            have q2 : w'.cell? ⟨w.heap.size + 1, 5, none⟩ = some (.int .i64 ls) := cell_of hS.2 5
            clear hS
            go_simp
            with_reducible rfl
          case r26_2 =>
          simp only [Act.put, List.setIfInBounds_toArray, List.set_cons_zero, List.set_cons_succ]
          refine Flow.take (i := 3) (d := (some 96)) (v := ?v26_3) rfl rfl (by kernel_rfl) (by kernel_rfl) (by kernel_rfl) (fun _ _ _ h => h) (by rfl) ?y26_3 hHeld ?r26_3
          case y26_3 =>
            intro w' hS
            have q1 : w'.cell? ⟨w.heap.size, 4, none⟩ = some (.int .i64 n) := cell_of hS.1 4
            have q2 : w'.cell? ⟨w.heap.size + 1, 5, none⟩ = some (.int .i64 ls) := cell_of hS.2 5
            clear hS
            go_simp
            with_reducible rfl
          case r26_3 =>
          simp only [Act.put, List.setIfInBounds_toArray, List.set_cons_zero, List.set_cons_succ]
          refine Flow.take (i := 4) (d := (some 97)) (v := ?v26_4) rfl rfl (by kernel_rfl) (by kernel_rfl) (by kernel_rfl) (fun _ _ _ h => h) (by rfl) ?y26_4 hHeld ?r26_4
          case y26_4 =>
            intro w' hS
            have q1 : w'.cell? ⟨w.heap.size, 4, none⟩ = some (.int .i64 n) := cell_of hS.1 4
            have q2 : w'.cell? ⟨w.heap.size + 1, 5, none⟩ = some (.int .i64 ls) := cell_of hS.2 5
            clear hS
            go_simp
            with_reducible rfl
          case r26_4 =>
          simp only [Act.put, List.setIfInBounds_toArray, List.set_cons_zero, List.set_cons_succ]
          have o1 : W5.cell? ⟨wr.heap.size, 4, none⟩ = some (.int .i64 n) := cell_of HFd.out.o 4
          have o2 := free_of HFd.out.o 4
          have HF6 : Box _ := ⟨HFd.out.setO hlt hls 4 (.int .i64 ls)⟩
          have p1 : (W5.setCell ⟨wr.heap.size, 4, none⟩ (.int .i64 ls)).cell? ⟨wr.heap.size + 1, 5, none⟩ = some (.int .i64 ls) := cell_of HF6.out.b 5
          have p2 := free_of HF6.out.b 5
          have HF7 : Box _ := ⟨HF6.out.setB hlt hls 5 (.int .i64 n)⟩
          refine Flow.stepB 5 (by kernel_rfl) rfl (fun Kc hKc => ?_)
          go_simp
          refine hKc _ _ ⟨HF6.out.c, HF6.out.kv⟩ (fun hHeld => ?_)
          clear hKc Kc
          refine Flow.take (i := 6) (d := (some 98)) (v := ?v26_6) rfl rfl (by kernel_rfl) (by kernel_rfl) (by kernel_rfl) (fun _ _ _ h => h) (by rfl) ?y26_6 hHeld ?r26_6
          case y26_6 => (intro w' hS; go_simp; with_reducible rfl)
          case r26_6 =>
          simp only [Act.put, List.setIfInBounds_toArray, List.set_cons_zero, List.set_cons_succ]
          refine Flow.stepB 7 (by kernel_rfl) rfl (fun Kc hKc => ?_)
          go_simp
          refine hKc _ _ ⟨HF7.out.c, HF7.out.kv⟩ (fun hHeld => ?_)
          clear hKc Kc
          refine Flow.doneB (by kernel_rfl) ?_
          go_wp2_with fail
          go_meet
          exact ⟨ls, x, cr, md, ver, n, val, by have ht : t = 4 := eq_of_beq (by assumption); rw [ht]; exact flip4 _ _ _ _ _ _ _, HF7.out⟩
        · refine wp_region_held_drew (S := fun W => W.heap[w.heap.size]? = some (.cells (cells7 t r' k e n x) 38 (0, 0)) ∧ W.heap[w.heap.size + 1]? = some (.cells (cells6 key val cr md ver ls) 34 (0, 0))) (by kernel_rfl) ⟨HF.out.c, HF.out.kv⟩ (fun _ => ?_)
          have HFd : Box _ := ⟨HF.out.drew⟩
          generalize World.drew _ = W5 at *
          have hHeld : W5.heap[w.heap.size]? = some (.cells (cells7 t r' k e n x) 38 (0, 0)) ∧ W5.heap[w.heap.size + 1]? = some (.cells (cells6 key val cr md ver ls) 34 (0, 0)) := ⟨HFd.out.c, HFd.out.kv⟩
          refine Flow.take (i := 0) (d := (some 61)) (v := ?v18_0) rfl rfl (by kernel_rfl) (by kernel_rfl) (by kernel_rfl) (fun _ _ _ h => h) (by rfl) ?y18_0 hHeld ?r18_0
          case y18_0 =>
            intro w' hS
            have q1 : w'.cell? ⟨w.heap.size, 5, none⟩ = some (.string x) := cell_of hS.1 5
            have q2 : w'.cell? ⟨w.heap.size + 1, 1, none⟩ = some (.string val) := cell_of hS.2 1
            clear hS
            go_simp
            with_reducible rfl
          case r18_0 =>
          simp only [Act.put, List.setIfInBounds_toArray, List.set_cons_zero, List.set_cons_succ]
          refine Flow.take (i := 1) (d := (some 62)) (v := ?v18_1) rfl rfl (by kernel_rfl) (by kernel_rfl) (by kernel_rfl) (fun _ _ _ h => h) (by rfl) ?y18_1 hHeld ?r18_1
          case y18_1 =>
            intro w' hS
            have q1 : w'.cell? ⟨w.heap.size, 5, none⟩ = some (.string x) := cell_of hS.1 5
            have q2 : w'.cell? ⟨w.heap.size + 1, 1, none⟩ = some (.string val) := cell_of hS.2 1
            clear hS
            go_simp
            with_reducible rfl
          case r18_1 =>
          simp only [Act.put, List.setIfInBounds_toArray, List.set_cons_zero, List.set_cons_succ]
          refine Flow.take (i := 2) (d := (some 63)) (v := ?v18_2) rfl rfl (by kernel_rfl) (by kernel_rfl) (by kernel_rfl) (fun _ _ _ h => h) (by rfl) ?y18_2 hHeld ?r18_2
          case y18_2 =>
            intro w' hS
            have q1 : w'.cell? ⟨w.heap.size, 5, none⟩ = some (.string x) := cell_of hS.1 5
            have q2 : w'.cell? ⟨w.heap.size + 1, 1, none⟩ = some (.string val) := cell_of hS.2 1
            clear hS
            go_simp
            with_reducible rfl
          case r18_2 =>
          simp only [Act.put, List.setIfInBounds_toArray, List.set_cons_zero, List.set_cons_succ]
          refine Flow.take (i := 3) (d := (some 64)) (v := ?v18_3) rfl rfl (by kernel_rfl) (by kernel_rfl) (by kernel_rfl) (fun _ _ _ h => h) (by rfl) ?y18_3 hHeld ?r18_3
          case y18_3 =>
            intro w' hS
            have q1 : w'.cell? ⟨w.heap.size, 5, none⟩ = some (.string x) := cell_of hS.1 5
            have q2 : w'.cell? ⟨w.heap.size + 1, 1, none⟩ = some (.string val) := cell_of hS.2 1
            clear hS
            go_simp
            with_reducible rfl
          case r18_3 =>
          simp only [Act.put, List.setIfInBounds_toArray, List.set_cons_zero, List.set_cons_succ]
          refine Flow.take (i := 4) (d := (some 65)) (v := ?v18_4) rfl rfl (by kernel_rfl) (by kernel_rfl) (by kernel_rfl) (fun _ _ _ h => h) (by rfl) ?y18_4 hHeld ?r18_4
          case y18_4 =>
            intro w' hS
            have q1 : w'.cell? ⟨w.heap.size, 5, none⟩ = some (.string x) := cell_of hS.1 5
            have q2 : w'.cell? ⟨w.heap.size + 1, 1, none⟩ = some (.string val) := cell_of hS.2 1
            clear hS
            go_simp
            with_reducible rfl
          case r18_4 =>
          simp only [Act.put, List.setIfInBounds_toArray, List.set_cons_zero, List.set_cons_succ]
          have o1 : W5.cell? ⟨wr.heap.size, 5, none⟩ = some (.string x) := cell_of HFd.out.o 5
          have o2 := free_of HFd.out.o 5
          have HF6 : Box _ := ⟨HFd.out.setO hlt hls 5 (.string val)⟩
          have p1 : (W5.setCell ⟨wr.heap.size, 5, none⟩ (.string val)).cell? ⟨wr.heap.size + 1, 1, none⟩ = some (.string val) := cell_of HF6.out.b 1
          have p2 := free_of HF6.out.b 1
          have HF7 : Box _ := ⟨HF6.out.setB hlt hls 1 (.string x)⟩
          refine Flow.stepB 5 (by kernel_rfl) rfl (fun Kc hKc => ?_)
          go_simp
          refine hKc _ _ ⟨HF6.out.c, HF6.out.kv⟩ (fun hHeld => ?_)
          clear hKc Kc
          refine Flow.take (i := 6) (d := (some 66)) (v := ?v18_6) rfl rfl (by kernel_rfl) (by kernel_rfl) (by kernel_rfl) (fun _ _ _ h => h) (by rfl) ?y18_6 hHeld ?r18_6
          case y18_6 => (intro w' hS; go_simp; with_reducible rfl)
          case r18_6 =>
          simp only [Act.put, List.setIfInBounds_toArray, List.set_cons_zero, List.set_cons_succ]
          refine Flow.stepB 7 (by kernel_rfl) rfl (fun Kc hKc => ?_)
          go_simp
          refine hKc _ _ ⟨HF7.out.c, HF7.out.kv⟩ (fun hHeld => ?_)
          clear hKc Kc
          refine Flow.doneB (by kernel_rfl) ?_
          go_wp2_with fail
          go_meet
          exact ⟨n, val, cr, md, ver, ls, x, by have ht : t = 3 := (by have := HBT.out; have h0 : (t == 0) = false := (by assumption); have h1 : (t == 1) = false := (by assumption); have h2 : (t == 2) = false := (by assumption); have h4 : (t == 4) = false := (by assumption); simp only [beq_eq_false_iff_ne] at h0 h1 h2 h4; omega); rw [ht]; exact flip3 _ _ _ _ _ _ _, HF7.out⟩
      case rest =>
        obtain ⟨n', x', cr', md', ver', ls', val', hres, hfin⟩ := hcut
        have o1 := cell_of hfin.o 1
        rw [show (cells7 t r' k e n' x')[1]? = some (.int .i64 r') from rfl] at o1
        have o2 := free_of hfin.o 1
        have HNE : Box ((A 0 != A 3) = true) := ⟨by rw [HAE.out]; exact ans_ne _⟩
        have HFL : Box ((A 1 == ans 2 (res t n' x'.data.toList val'.data.toList cr' md' ver' ls')) = true) := ⟨by rw [HAE.out]; exact ans_flip _ _ hres⟩
        have HF8 : Box (Fin w w3.heap.size wr.heap.size A (cells7 t r' k e n x) (cells6 key val cr md ver ls) (cells7 t 2 k e n' x') (cells6 key val' cr' md' ver' ls') _) := ⟨hfin.setO hlt hls 1 (.int .i64 2)⟩
        clear hfin hres
        go_wp2_with fail
        refine wp_region_held_drew (S := Fin w w3.heap.size wr.heap.size A (cells7 t r' k e n x) (cells6 key val cr md ver ls) (cells7 t 2 k e n' x') (cells6 key val' cr' md' ver' ls')) (by kernel_rfl) HF8.out.drew (fun hHeld => ?_)
        refine Flow.take (i := 0) (d := (some 100)) (v := ?vz0) rfl rfl (by kernel_rfl) (by kernel_rfl) (by kernel_rfl) (fun _ _ _ h => h) (by rfl) ?yz0 hHeld ?rz0
        case yz0 => (intro w' hS; clear hS; go_simp; with_reducible rfl)
        case rz0 =>
        simp only [Act.put, List.setIfInBounds_toArray, List.set_cons_zero, List.set_cons_succ]
        refine Flow.take (i := 1) (d := (some 101)) (v := .bool true) rfl rfl (by kernel_rfl) (by kernel_rfl) (by kernel_rfl) (fun _ _ _ h => h) (by rfl) ?yz1 hHeld ?rz1
        case yz1 => (intro w' hS; clear hS; go_simp; first | done | with_reducible rfl)
        case rz1 =>
        simp only [Act.put, List.setIfInBounds_toArray, List.set_cons_zero, List.set_cons_succ]
        refine Flow.take (i := 2) (d := (some 102)) (v := .bool true) rfl rfl (by kernel_rfl) (by kernel_rfl) (by kernel_rfl) (fun _ _ _ h => h) (by rfl) ?yz2 hHeld ?rz2
        case yz2 => (intro w' hS; clear hS; go_simp; first | done | with_reducible rfl)
        case rz2 =>
        simp only [Act.put, List.setIfInBounds_toArray, List.set_cons_zero, List.set_cons_succ]
        refine Flow.take (i := 3) (d := (some 103)) (v := ?vz3) rfl rfl (by kernel_rfl) (by kernel_rfl) (by kernel_rfl) (fun _ _ _ h => h) (by rfl) ?yz3 hHeld ?rz3
        case yz3 => (intro w' hS; clear hS; go_simp; with_reducible rfl)
        case rz3 =>
        simp only [Act.put, List.setIfInBounds_toArray, List.set_cons_zero, List.set_cons_succ]
        refine Flow.take (i := 4) (d := (some 104)) (v := .bool (A 0)) rfl rfl (by kernel_rfl) (by kernel_rfl) (by kernel_rfl) (fun _ _ _ h => h) (by rfl) ?yz4 hHeld ?rz4
        case yz4 => (intro w' hS; have q := cell_of hS.is 0; rw [show (arr A 4)[0]? = some (.bool (A 0)) from rfl] at q; clear hS; go_simp; try with_reducible rfl)
        case rz4 =>
        simp only [Act.put, List.setIfInBounds_toArray, List.set_cons_zero, List.set_cons_succ]
        refine Flow.take (i := 5) (d := (some 105)) (v := ?vz5) rfl rfl (by kernel_rfl) (by kernel_rfl) (by kernel_rfl) (fun _ _ _ h => h) (by rfl) ?yz5 hHeld ?rz5
        case yz5 => (intro w' hS; clear hS; go_simp; with_reducible rfl)
        case rz5 =>
        simp only [Act.put, List.setIfInBounds_toArray, List.set_cons_zero, List.set_cons_succ]
        refine Flow.take (i := 6) (d := (some 106)) (v := .bool (A 3)) rfl rfl (by kernel_rfl) (by kernel_rfl) (by kernel_rfl) (fun _ _ _ h => h) (by rfl) ?yz6 hHeld ?rz6
        case yz6 => (intro w' hS; have q := cell_of hS.is 3; rw [show (arr A 4)[3]? = some (.bool (A 3)) from rfl] at q; clear hS; go_simp; try with_reducible rfl)
        case rz6 =>
        simp only [Act.put, List.setIfInBounds_toArray, List.set_cons_zero, List.set_cons_succ]
        refine Flow.take (i := 7) (d := (some 107)) (v := .bool true) rfl rfl (by kernel_rfl) (by kernel_rfl) (by kernel_rfl) (fun _ _ _ h => h) (by rfl) ?yz7 hHeld ?rz7
        case yz7 => (intro w' hS; clear hS; have hn := HNE.out; go_simp; exact bne_iff_ne.1 hn)
        case rz7 =>
        simp only [Act.put, List.setIfInBounds_toArray, List.set_cons_zero, List.set_cons_succ]
        refine Flow.take (i := 8) (d := (some 108)) (v := .bool true) rfl rfl (by kernel_rfl) (by kernel_rfl) (by kernel_rfl) (fun _ _ _ h => h) (by rfl) ?yz8 hHeld ?rz8
        case yz8 => (intro w' hS; clear hS; go_simp; first | done | with_reducible rfl)
        case rz8 =>
        simp only [Act.put, List.setIfInBounds_toArray, List.set_cons_zero, List.set_cons_succ]
        refine Flow.take (i := 9) (d := (some 109)) (v := .bool true) rfl rfl (by kernel_rfl) (by kernel_rfl) (by kernel_rfl) (fun _ _ _ h => h) (by rfl) ?yz9 hHeld ?rz9
        case yz9 => (intro w' hS; clear hS; go_simp; first | done | with_reducible rfl)
        case rz9 =>
        simp only [Act.put, List.setIfInBounds_toArray, List.set_cons_zero, List.set_cons_succ]
        refine Flow.take (i := 10) (d := (some 110)) (v := ?vz10) rfl rfl (by kernel_rfl) (by kernel_rfl) (by kernel_rfl) (fun _ _ _ h => h) (by rfl) ?yz10 hHeld ?rz10
        case yz10 => (intro w' hS; clear hS; go_simp; with_reducible rfl)
        case rz10 =>
        simp only [Act.put, List.setIfInBounds_toArray, List.set_cons_zero, List.set_cons_succ]
        refine Flow.take (i := 11) (d := (some 111)) (v := .bool (A 1)) rfl rfl (by kernel_rfl) (by kernel_rfl) (by kernel_rfl) (fun _ _ _ h => h) (by rfl) ?yz11 hHeld ?rz11
        case yz11 => (intro w' hS; have q := cell_of hS.is 1; rw [show (arr A 4)[1]? = some (.bool (A 1)) from rfl] at q; clear hS; go_simp; try with_reducible rfl)
        case rz11 =>
        simp only [Act.put, List.setIfInBounds_toArray, List.set_cons_zero, List.set_cons_succ]
        refine Flow.take (i := 12) (d := (some 112)) (v := .agg (cells7 t 2 k e n' x')) rfl rfl (by kernel_rfl) (by kernel_rfl) (by kernel_rfl) (fun _ _ _ h => h) (by rfl) ?yz12 hHeld ?rz12
        case yz12 => (intro w' hS; exact exec_load_row 38 _ rfl _ rfl _ _ _ _ hS.o Try.underlying38 rfl (by kernel_rfl))
        case rz12 =>
        simp only [Act.put, List.setIfInBounds_toArray, List.set_cons_zero, List.set_cons_succ]
        refine Flow.take (i := 13) (d := (some 113)) (v := .agg (cells6 key val' cr' md' ver' ls')) rfl rfl (by kernel_rfl) (by kernel_rfl) (by kernel_rfl) (fun _ _ _ h => h) (by rfl) ?yz13 hHeld ?rz13
        case yz13 => (intro w' hS; exact exec_load_row 34 _ rfl _ rfl _ _ _ _ hS.b Try.underlying34 rfl (by kernel_rfl))
        case rz13 =>
        simp only [Act.put, List.setIfInBounds_toArray, List.set_cons_zero, List.set_cons_succ]
        refine Flow.stepB 14 (by kernel_rfl) rfl (fun Kc hKc => ?_)
        go_simp
        refine (CmpKv.kv _ t 2 n' k e x' key val' cr' md' ver' ls' HBT.out.1 HBT.out.2 (by omega) (by omega)).mono ?_
        rintro e' w6 ⟨rfl, hb6⟩
        refine hKc _ _ (hHeld.more hb6) (fun hHeld => ?_)
        clear hKc Kc
        refine Flow.take (i := 15) (d := (some 115)) (v := .bool true) rfl rfl (by kernel_rfl) (by kernel_rfl) (by kernel_rfl) (fun _ _ _ h => h) (by rfl) ?yz15 hHeld ?rz15
        case yz15 => (intro w' hS; clear hS; have hn := HFL.out; go_simp; first | done | with_reducible rfl | (simp [hn]))
        case rz15 =>
        simp only [Act.put, List.setIfInBounds_toArray, List.set_cons_zero, List.set_cons_succ]
        refine Flow.take (i := 16) (d := (some 116)) (v := .bool true) rfl rfl (by kernel_rfl) (by kernel_rfl) (by kernel_rfl) (fun _ _ _ h => h) (by rfl) ?yz16 hHeld ?rz16
        case yz16 => (intro w' hS; clear hS; go_simp; first | done | with_reducible rfl)
        case rz16 =>
        simp only [Act.put, List.setIfInBounds_toArray, List.set_cons_zero, List.set_cons_succ]
        refine Flow.take (i := 17) (d := (some 4)) (v := .bool true) rfl rfl (by kernel_rfl) (by kernel_rfl) (by kernel_rfl) (fun _ _ _ h => h) (by rfl) ?yz17 hHeld ?rz17
        case yz17 => (intro w' hS; clear hS; go_simp; first | done | with_reducible rfl)
        case rz17 =>
        simp only [Act.put, List.setIfInBounds_toArray, List.set_cons_zero, List.set_cons_succ]
        refine Flow.doneB (by kernel_rfl) ?_
        have HH : Box _ := ⟨hHeld.below⟩
        clear hHeld
        go_wp2_with fail
        go_ret
        exact ⟨rfl, HH.out⟩
end Go.Proofs.Ytibopfemknnocaa.CmpLaw
