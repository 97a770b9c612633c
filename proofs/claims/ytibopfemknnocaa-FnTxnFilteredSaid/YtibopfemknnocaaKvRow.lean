import Derived.Test.YtibopfemknnocaaCmp
import Derived.Test.YtibopfemknnocaaOpens
import Derived.Deep.AppendLies
import Derived.Deep.MidRow
namespace Go.Proofs.Ytibopfemknnocaa.KvRow
open Go.RowKit Go.Lib Go.Proofs.Ytibopfemknnocaa.Open Go.Proofs.Ytibopfemknnocaa.Kept Go.Proofs.Ytibopfemknnocaa.Cmp

structure KV where
  key : ByteArray
  val : ByteArray
  cr : Int
  md : Int
  ver : Int
  ls : Int
def KV.cells (x : KV) : List Value := [.string x.key, .string x.val, .int .i64 x.cr, .int .i64 x.md, .int .i64 x.ver, .int .i64 x.ls]
def flat (l : List KV) : List Value := l.flatMap KV.cells
@[simp] theorem KV.cells_length (x : KV) : x.cells.length = 6 := rfl
@[simp] theorem flat_length (l : List KV) : (flat l).length = l.length * 6 := by
  induction l with
  | nil => rfl
  | cons x l ih => simp only [flat, List.flatMap_cons, List.length_append, KV.cells_length, List.length_cons] at *; omega
theorem flat_append (l m : List KV) : flat (l ++ m) = flat l ++ flat m := by simp [flat]
theorem flat_at : ∀ (l : List KV) (i j : Nat) (x : KV), l[i]? = some x → j < 6 → (flat l)[i * 6 + j]? = x.cells[j]?
  | y :: l, 0, j, x, h, hj => by
    obtain rfl : y = x := by simpa using h
    simp only [flat, List.flatMap_cons, Nat.zero_mul, Nat.zero_add]
    rw [List.getElem?_append_left (by simpa using hj)]
  | y :: l, i + 1, j, x, h, hj => by
    have ih := flat_at l i j x (by simpa using h) hj
    simp only [flat, List.flatMap_cons] at *
    rw [List.getElem?_append_right (by simp; omega)]
    rw [← ih]
    congr 1
    simp
    omega
/-- a slice of key-values -/
def KvsAt (w : World) (a : Option Addr) (l : List KV) : Prop := l = [] ∨ ∃ b o, a = some ⟨b, o, none⟩ ∧ b < w.heap.size ∧ ∀ i x, l[i]? = some x → w.rangeAt b (o + i * 6) x.cells
theorem KvsAt.below {w w' : World} {a : Option Addr} {l : List KV} (h : KvsAt w a l) (hb : Below w.heap.size w w') : KvsAt w' a l := by
  rcases h with h | ⟨b, o, rfl, hl, h⟩
  · exact .inl h
  · exact .inr ⟨b, o, rfl, Nat.lt_of_lt_of_le hl hb.size, fun i x hi j v hj => (hb.cell (p := ⟨b, o + i * 6 + j, none⟩) hl).trans (h i x hi j v hj)⟩

theorem open30 {w : World} {cs : List Value} (h : Reads Try.prog w 30 cs) : ∃ a n c l, cs = [.slice a n c] ∧ n ≤ c ∧ c ≤ maxLen ∧ (a = none → n = 0 ∧ c = 0) ∧ l.length = n ∧ KvsAt w a l := by
  have hc : Try.prog.cellsOf 34 = 6 := by kernel_rfl
  obtain ⟨a, n, c, h1, h2, h3, h4, h5⟩ := h.slice Try.underlying30 (by rw [hc]; decide)
  rw [hc] at h5
  have hx : ∀ i, i < n → ∃ x : KV, CellsAt w a (i * 6) x.cells := by
    intro i hi
    obtain ⟨ds, -, hat, hr⟩ := h5 i hi
    obtain ⟨key, val, cr, md, ver, ls, rfl, -⟩ := Opens.open34 hr
    exact ⟨⟨key, val, cr, md, ver, ls⟩, hat⟩
  have : ∀ m, m ≤ n → ∃ l : List KV, l.length = m ∧ ∀ i x, l[i]? = some x → CellsAt w a (i * 6) x.cells := by
    intro m
    induction m with
    | zero => intro _; exact ⟨[], rfl, by simp⟩
    | succ m ih =>
      intro hm
      obtain ⟨l, hl, hl2⟩ := ih (by omega)
      obtain ⟨x, hx⟩ := hx m (by omega)
      refine ⟨l ++ [x], by simp [hl], fun i y hy => ?_⟩
      rcases Nat.lt_or_ge i l.length with h | h
      · rw [List.getElem?_append_left h] at hy
        exact hl2 i y hy
      · rw [List.getElem?_append_right h] at hy
        have : i - l.length = 0 := by
          rcases Nat.eq_zero_or_pos (i - l.length) with h | h
          · exact h
          · rw [List.getElem?_eq_none (by simp; omega)] at hy; cases hy
        rw [this] at hy
        obtain rfl : x = y := by simpa using hy
        rw [show i = m by omega]
        exact hx
  obtain ⟨l, hl, hl2⟩ := this n (Nat.le_refl _)
  refine ⟨a, n, c, l, h1, h2, h3, h4, hl, ?_⟩
  cases l with
  | nil => exact .inl rfl
  | cons x l =>
    obtain ⟨b, o, rfl, hb, -⟩ := hl2 0 x rfl
    refine .inr ⟨b, o, rfl, hb, fun i y hy j v hj => ?_⟩
    obtain ⟨b', o', he, hb', hat⟩ := hl2 i y hy
    cases he
    have hj6 : j < y.cells.length := (List.getElem?_eq_some_iff.1 hj).1
    rw [Nat.add_assoc, hat j hj6]
    exact hj

/-! ### a row of the walk's own -/
theorem info_of {P : Program} {t : TypeId} {n b : Nat} (h : (P.info? t).map (fun i => (i.zero.map (·.cells.size), i.size, i.bytes)) = some (some n, n, b)) :
    ∃ i z, P.info? t = some i ∧ i.zero = some z ∧ i.size = n ∧ i.bytes = b ∧ z.cells.size = n := by
  cases hi : P.info? t with
  | none => rw [hi] at h; cases h
  | some i =>
    rw [hi] at h
    cases hz : i.zero with
    | none => simp [hz] at h
    | some z => simp [hz] at h; exact ⟨i, z, rfl, hz, h.2.1, h.2.2, h.1⟩
theorem wpList_push {P : Program} {ops : Array Oper} {rest : List Oper} {o : Oper} {a : Act} {w : World} {Q : Exit → Act → World → Prop} (hgd : o.guard = none) (s x : Operand) (t e : TypeId) (size bytes : Nat)
    (ho : o.op = .call { callee := .builtin .append, args := #[s, x], argTypes := #[t, t] }) (ht : P.underlying t = some (.slice e))
    (hinfo : (P.info? e).map (fun i => (i.zero.map (·.cells.size), i.size, i.bytes)) = some (some size, size, bytes)) (hsz : 0 < size)
    (base : Nat) (v : Value) (n : Nat) (xs : List Value) (hs : a.eval s = v) (hown : w.ownsRow base e size v n xs) (B c : Nat) (cs : List Value) (fr : Nat × Nat) (hx : a.eval x = .slice (some ⟨B, 0, none⟩) 1 c)
    (hB : w.heap[B]? = some (.cells cs.toArray e fr)) (hcs : cs.length = size) (h1 : ∀ u ∈ cs, u.oneCell' = true) (h63 : n + 1 ≤ maxLen) (hbytes : (n + 1) * bytes ≤ 140737488355328) (hbase : base ≤ w.heap.size)
    (h : ∀ g cap w', w'.ownsRow base e size (.slice (some ⟨g, 0, none⟩) (n + 1) cap) (n + 1) (xs ++ cs) → Kept (fun k => v.ownBlock = some k) w w' → (v.ownBlock = some g ∨ g = w.heap.size) → g < w'.heap.size →
      wpList P ops Q rest (a.put o.dst (.slice (some ⟨g, 0, none⟩) (n + 1) cap)) w') : wpList P ops Q (o :: rest) a w := by
  obtain ⟨i, z, hi, hz, hsize, hby, hzs⟩ := info_of hinfo
  refine wpList_append_lies w hgd s x t ho base e i z size bytes ht hi hz hsize hby hzs hsz v n xs hs hown _ 1 c cs hx (by omega) (by have := World.news_of_block hB; simpa using this) h1 (by omega) h63 hbytes hbase _ rfl ?_
  intro g cap w' h2 h3 h4 h5
  exact h g cap w' h2 ⟨h3.os, h3.tape, h3.output, h3.size, fun k hk hm => h3.block k hk (fun e => hm e.symm)⟩ h4 h5

theorem own_kept {w w' : World} {base : Nat} {e : TypeId} {size : Nat} {v : Value} {n : Nat} {xs : List Value} {M : Nat → Prop} (h : w.ownsRow base e size v n xs) (hk : Kept M w w') (hm : ∀ k, v.ownBlock = some k → ¬ M k) : w'.ownsRow base e size v n xs := by
  refine ⟨h.1, ?_⟩
  rcases h.2 with hn | ⟨g, cap, cur, rfl, hb, hgg, rest⟩
  · exact .inl hn
  · exact .inr ⟨g, cap, cur, rfl, hb, hk.at hgg (hm g rfl), rest⟩
theorem own_below {w w' : World} {base : Nat} {e : TypeId} {size : Nat} {v : Value} {n : Nat} {xs : List Value} (h : w.ownsRow base e size v n xs) (hb : Below w.heap.size w w') : w'.ownsRow base e size v n xs :=
  own_kept h (.of_below (M := fun _ => False) hb) (fun _ _ => id)

/-! ### a key-value as the store has it -/
/-- it reads as kv, whatever is done with the blocks of M -/
def El (M : Nat → Prop) (w : World) (b : Nat) (x : KV) : Prop :=
  b < w.heap.size ∧ ∀ w', (∀ k, k < w.heap.size → ¬ M k → w'.heap[k]? = w.heap[k]?) → KvAt w' b x.key.data.toList x.val.data.toList x.cr x.md x.ver x.ls
theorem El.at {M : Nat → Prop} {w : World} {b : Nat} {x : KV} (h : El M w b x) : KvAt w b x.key.data.toList x.val.data.toList x.cr x.md x.ver x.ls := h.2 w fun _ _ _ => rfl
theorem El.kept {M M' M2 : Nat → Prop} {w w' : World} {b : Nat} {x : KV} (h : El M w b x) (hk : Kept M' w w') (h1 : ∀ k, k < w.heap.size → M' k → M k) (h2 : ∀ k, k < w.heap.size → M2 k → M k) : El M2 w' b x :=
  ⟨Nat.lt_of_lt_of_le h.1 hk.size, fun w2 hw => h.2 w2 fun k hlt hm => (hw k (Nat.lt_of_lt_of_le hlt hk.size) (fun h => hm (h2 k hlt h))).trans (hk.block k hlt (fun h => hm (h1 k hlt h)))⟩
theorem row_agree {M : Nat → Prop} {w w' : World} {a : Option Addr} {l : List UInt8} (h : Vr.RowAt w a l) (hm : ∀ x, a = some x → ¬ M x.block) (hw : ∀ k, k < w.heap.size → ¬ M k → w'.heap[k]? = w.heap[k]?) : Vr.RowAt w' a l := by
  rcases h with rfl | ⟨b, o, rfl, h⟩
  · exact .inl rfl
  · refine .inr ⟨b, o, rfl, fun i hi => ?_⟩
    have hc := h i hi
    rw [← hc]
    exact World.cell?_of_block (hw b (cell_lt hc).1 (hm _ rfl))

set_option maxRecDepth 100000 in
set_option maxHeartbeats 1000000 in
theorem kv_in2 (w : World) (x : KV) :
    Calls Try.prog 40 #[.agg x.cells.toArray] w fun e w' => ∃ b, e = .returned (.pointer (some ⟨b, 0, none⟩)) ∧ El (fun k => k < w.heap.size) w' b x ∧ w.heap.size ≤ b ∧ Below w.heap.size w w' := by
  obtain ⟨key, val, cr, md, ver, ls⟩ := x
  show Calls Try.prog 40 #[.agg #[.string key, .string val, .int .i64 cr, .int .i64 md, .int .i64 ver, .int .i64 ls]] w _
  go_enter Try.func40, Try.ntmps40
  go_wp2_with (refine wpList_conv (by rfl) _ rfl _ rfl ?_)
  rintro ka kc w1 hk hf1 hb1
  unfold New at hb1
  have q1 : w1.cell? ⟨w.heap.size, 1, none⟩ = some (.string val) := (Kept.of_below (M := fun _ => False) hb1).cell (by simp) id
  have q2 : w1.cell? ⟨w.heap.size, 2, none⟩ = some (.int .i64 cr) := (Kept.of_below (M := fun _ => False) hb1).cell (by simp) id
  have q3 : w1.cell? ⟨w.heap.size, 3, none⟩ = some (.int .i64 md) := (Kept.of_below (M := fun _ => False) hb1).cell (by simp) id
  have q4 : w1.cell? ⟨w.heap.size, 4, none⟩ = some (.int .i64 ver) := (Kept.of_below (M := fun _ => False) hb1).cell (by simp) id
  have q5 : w1.cell? ⟨w.heap.size, 5, none⟩ = some (.int .i64 ls) := (Kept.of_below (M := fun _ => False) hb1).cell (by simp) id
  have HK1 : Box _ := ⟨hk⟩
  have HF1 : Box (∀ x, ka = some x → ¬ x.block < w.heap.size) := ⟨fun x hx => by have := hf1 x hx; simp at this; omega⟩
  have HB1 : Box _ := ⟨hb1⟩
  clear hk hb1 hf1
  go_wp2_with (refine wpList_conv (by rfl) _ rfl _ rfl ?_)
  rintro va vc w2 hv hf2 hb2
  unfold New at hb2
  replace q2 := (Kept.of_below (M := fun _ => False) hb2).cell q2 id
  replace q3 := (Kept.of_below (M := fun _ => False) hb2).cell q3 id
  replace q4 := (Kept.of_below (M := fun _ => False) hb2).cell q4 id
  replace q5 := (Kept.of_below (M := fun _ => False) hb2).cell q5 id
  have HK2 : Box _ := ⟨row_below HK1.out hb2⟩
  have HV : Box _ := ⟨hv⟩
  have HF2 : Box (∀ x, va = some x → ¬ x.block < w.heap.size) := ⟨fun x hx => by have := hf2 x hx; have := HB1.out.size; simp at this; omega⟩
  have HB2 : Box _ := ⟨((Below.new _ _).more HB1.out).more hb2⟩
  have hz := HB2.out.size
  clear hv hb2 q1 hf2
  go_wp2_with fail
  go_ret
  refine ⟨w2.heap.size, rfl, ⟨by simp, fun w4 hw => ⟨.slice ka key.size kc, .slice va val.size vc, ?_, ?_, ?_⟩⟩, hz, HB2.out.more (Below.new _ _)⟩
  · rw [hw _ (by simp) (by omega)]
    exact alloc_new _ _
  · exact ⟨ka, kc, by simp, row_agree (row_below HK2.out (Below.new _ _)) HF1.out hw⟩
  · exact ⟨va, vc, by simp, row_agree (row_below HV.out (Below.new _ _)) HF2.out hw⟩
end Go.Proofs.Ytibopfemknnocaa.KvRow
