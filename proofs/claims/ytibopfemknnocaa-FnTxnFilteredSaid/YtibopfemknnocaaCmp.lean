import Derived.Test.YtibopfemknnocaaKept
import Derived.Test.YtibopfemknnocaaVr
import Derived.Deep.DeepCutAuto
namespace Go.Proofs.Ytibopfemknnocaa.Cmp
open Go.RowKit Go.Lib Go.Proofs.Ytibopfemknnocaa.Open Go.Proofs.Ytibopfemknnocaa.Kept

def cmp64 (a b : Int) : Int := if a < b then -1 else if b < a then 1 else 0
set_option maxRecDepth 100000 in
theorem compare_int (w : World) (a b : Int) : Calls Try.prog 73 #[.int .i64 a, .int .i64 b] w fun e w' => e = .returned (.int .i64 (cmp64 a b)) ∧ w = w' := by
  go_enter Try.func73, Try.ntmps73
  go_wp2
  all_goals
    go_ret
    refine ⟨?_, rfl⟩
    congr 2
    unfold cmp64
    simp_all
    try omega

def ans (r res : Int) : Bool := if r = 0 then res == 0 else if r = 3 then res != 0 else if r = 1 then decide (0 < res) else if r = 2 then decide (res < 0) else true

theorem ta99 (v : Value) (w : World) : (Instr.typeAssert (.iface 99 v) 20 99 true).run Try.prog w = .ok (.tuple #[v, .bool true]) w := by kernel_rfl
theorem ta102 (v : Value) (w : World) : (Instr.typeAssert (.iface 102 v) 20 102 true).run Try.prog w = .ok (.tuple #[v, .bool true]) w := by kernel_rfl
theorem ta105 (v : Value) (w : World) : (Instr.typeAssert (.iface 105 v) 20 105 true).run Try.prog w = .ok (.tuple #[v, .bool true]) w := by kernel_rfl
theorem ta108 (v : Value) (w : World) : (Instr.typeAssert (.iface 108 v) 20 108 true).run Try.prog w = .ok (.tuple #[v, .bool true]) w := by kernel_rfl
theorem ta111 (v : Value) (w : World) : (Instr.typeAssert (.iface 111 v) 20 111 true).run Try.prog w = .ok (.tuple #[v, .bool true]) w := by kernel_rfl

set_option maxRecDepth 100000 in
set_option maxHeartbeats 1000000 in
theorem kv_version (w : World) (cb kb ub : Nat) (r n x : Int) (c0 : w.cell? ⟨cb, 0, none⟩ = some (.int .i32 r)) (c1 : w.cell? ⟨cb, 1, none⟩ = some (.int .i32 0)) (c3 : w.cell? ⟨cb, 3, none⟩ = some (.iface 99 (.pointer (some ⟨ub, 0, none⟩))))
    (u0 : w.cell? ⟨ub, 0, none⟩ = some (.int .i64 n)) (k3 : w.cell? ⟨kb, 3, none⟩ = some (.int .i64 x)) :
    Calls Try.prog 57 #[.pointer (some ⟨cb, 0, none⟩), .pointer (some ⟨kb, 0, none⟩)] w fun e w' => e = .returned (.bool (ans r (cmp64 x n))) ∧ w = w' := by
  have h1 := ta99
  go_enter Try.func57, Try.ntmps57
  go_wp2_with (go_at_call 73; refine (compare_int _ _ _).mono ?_; rintro e w' ⟨rfl, rfl⟩)
  all_goals
    go_ret
    refine ⟨?_, rfl⟩
    congr 2
    unfold ans
    simp_all

set_option maxRecDepth 100000 in
set_option maxHeartbeats 1000000 in
theorem kv_create (w : World) (cb kb ub : Nat) (r n x : Int) (c0 : w.cell? ⟨cb, 0, none⟩ = some (.int .i32 r)) (c1 : w.cell? ⟨cb, 1, none⟩ = some (.int .i32 1)) (c3 : w.cell? ⟨cb, 3, none⟩ = some (.iface 102 (.pointer (some ⟨ub, 0, none⟩))))
    (u0 : w.cell? ⟨ub, 0, none⟩ = some (.int .i64 n)) (k3 : w.cell? ⟨kb, 1, none⟩ = some (.int .i64 x)) :
    Calls Try.prog 57 #[.pointer (some ⟨cb, 0, none⟩), .pointer (some ⟨kb, 0, none⟩)] w fun e w' => e = .returned (.bool (ans r (cmp64 x n))) ∧ w = w' := by
  have h1 := ta102
  go_enter Try.func57, Try.ntmps57
  go_wp2_with (go_at_call 73; refine (compare_int _ _ _).mono ?_; rintro e w' ⟨rfl, rfl⟩)
  all_goals
    go_ret
    refine ⟨?_, rfl⟩
    congr 2
    unfold ans
    simp_all

set_option maxRecDepth 100000 in
set_option maxHeartbeats 1000000 in
theorem kv_mod (w : World) (cb kb ub : Nat) (r n x : Int) (c0 : w.cell? ⟨cb, 0, none⟩ = some (.int .i32 r)) (c1 : w.cell? ⟨cb, 1, none⟩ = some (.int .i32 2)) (c3 : w.cell? ⟨cb, 3, none⟩ = some (.iface 105 (.pointer (some ⟨ub, 0, none⟩))))
    (u0 : w.cell? ⟨ub, 0, none⟩ = some (.int .i64 n)) (k3 : w.cell? ⟨kb, 2, none⟩ = some (.int .i64 x)) :
    Calls Try.prog 57 #[.pointer (some ⟨cb, 0, none⟩), .pointer (some ⟨kb, 0, none⟩)] w fun e w' => e = .returned (.bool (ans r (cmp64 x n))) ∧ w = w' := by
  have h1 := ta105
  go_enter Try.func57, Try.ntmps57
  go_wp2_with (go_at_call 73; refine (compare_int _ _ _).mono ?_; rintro e w' ⟨rfl, rfl⟩)
  all_goals
    go_ret
    refine ⟨?_, rfl⟩
    congr 2
    unfold ans
    simp_all

set_option maxRecDepth 100000 in
set_option maxHeartbeats 1000000 in
theorem kv_lease (w : World) (cb kb ub : Nat) (r n x : Int) (c0 : w.cell? ⟨cb, 0, none⟩ = some (.int .i32 r)) (c1 : w.cell? ⟨cb, 1, none⟩ = some (.int .i32 4)) (c3 : w.cell? ⟨cb, 3, none⟩ = some (.iface 111 (.pointer (some ⟨ub, 0, none⟩))))
    (u0 : w.cell? ⟨ub, 0, none⟩ = some (.int .i64 n)) (k3 : w.cell? ⟨kb, 5, none⟩ = some (.int .i64 x)) :
    Calls Try.prog 57 #[.pointer (some ⟨cb, 0, none⟩), .pointer (some ⟨kb, 0, none⟩)] w fun e w' => e = .returned (.bool (ans r (cmp64 x n))) ∧ w = w' := by
  have h1 := ta111
  go_enter Try.func57, Try.ntmps57
  go_wp2_with (go_at_call 73; refine (compare_int _ _ _).mono ?_; rintro e w' ⟨rfl, rfl⟩)
  all_goals
    go_ret
    refine ⟨?_, rfl⟩
    congr 2
    unfold ans
    simp_all

set_option maxRecDepth 100000 in
set_option maxHeartbeats 1000000 in
theorem kv_value (w : World) (cb kb ub : Nat) (r : Int) (va xa : Option Addr) (vc xc : Nat) (v x : List UInt8) (c0 : w.cell? ⟨cb, 0, none⟩ = some (.int .i32 r)) (c1 : w.cell? ⟨cb, 1, none⟩ = some (.int .i32 3)) (c3 : w.cell? ⟨cb, 3, none⟩ = some (.iface 108 (.pointer (some ⟨ub, 0, none⟩))))
    (u0 : w.cell? ⟨ub, 0, none⟩ = some (.slice xa x.length xc)) (k3 : w.cell? ⟨kb, 4, none⟩ = some (.slice va v.length vc)) (hv : Vr.RowAt w va v) (hx : Vr.RowAt w xa x) :
    Calls Try.prog 57 #[.pointer (some ⟨cb, 0, none⟩), .pointer (some ⟨kb, 0, none⟩)] w fun e w' => e = .returned (.bool (ans r (compareBytes v x))) ∧ w = w' := by
  have h1 := ta108
  have HC : Box _ := ⟨Vr.bytes_compare w va xa vc xc v x hv hx⟩
  generalize compareBytes v x = z at *
  generalize v.length = vn at *
  generalize x.length = xn at *
  clear hv hx
  go_enter Try.func57, Try.ntmps57
  go_wp2_with (go_at_call 72; refine HC.out.mono ?_; rintro e w' ⟨rfl, rfl⟩)
  all_goals
    go_ret
    refine ⟨?_, rfl⟩
    congr 2
    unfold ans
    simp_all

/-- a value that reads as bytes -/
def IsBytes (l : List UInt8) (v : Value) (w : World) : Prop := ∃ a c, v = .slice a l.length c ∧ Vr.RowAt w a l
theorem row_below {w w' : World} {a : Option Addr} {l : List UInt8} (h : Vr.RowAt w a l) (hb : Below w.heap.size w w') : Vr.RowAt w' a l := by
  rcases h with rfl | ⟨b, o, rfl, h⟩
  · exact .inl rfl
  · exact .inr ⟨b, o, rfl, fun i hi => (hb.cell (p := ⟨b, o + i, none⟩) (cell_lt (h i hi)).1).trans (h i hi)⟩
theorem IsBytes.below {l : List UInt8} {v : Value} {w w' : World} (h : IsBytes l v w) (hb : Below w.heap.size w w') : IsBytes l v w' := by
  obtain ⟨a, c, h1, h2⟩ := h
  exact ⟨a, c, h1, row_below h2 hb⟩
theorem kconv (w : World) (s : ByteArray) : (convert 9 47 (.string s)).run Try.prog w = .ok (.slice (some ⟨w.heap.size, 0, none⟩) s.size (grownCap w s.size 0 5)) (bytesWorld w 5 s) :=
  Lib.run_convert_string_bytes (P := Try.prog) w 9 47 5 s Try.underlying9 Try.underlying47 Try.underlying5
theorem conv_bytes (w : World) (s : ByteArray) : IsBytes s.data.toList (.slice (some ⟨w.heap.size, 0, none⟩) s.size (grownCap w s.size 0 5)) (bytesWorld w 5 s) :=
  ⟨_, _, by simp; rfl, Vr.bytesWorld_row w 5 s⟩

def New (w w' : World) : Prop := Below w.heap.size w w'
def Fresh (w : World) (a : Option Addr) : Prop := ∀ x, a = some x → w.heap.size ≤ x.block
theorem row_set {w : World} {a : Option Addr} {l : List UInt8} {k i : Nat} {v : Value} (h : Vr.RowAt w a l) (hne : ∀ x, a = some x → x.block ≠ k) : Vr.RowAt (w.setCell ⟨k, i, none⟩ v) a l := by
  rcases h with rfl | ⟨b, o, rfl, h⟩
  · exact .inl rfl
  · exact .inr ⟨b, o, rfl, fun j hj => cell_other (h j hj) (hne ⟨b, o, none⟩ rfl)⟩
/-- '[]byte(s)', in whatever world it leaves -/
theorem wp_conv {o : Oper} {a : Act} {w : World} {K : Act → World → Prop} {Q : Exit → Act → World → Prop} (x : Operand) (ho : o.op = .convert 9 47 x) (s : ByteArray) (hx : a.eval x = .string s)
    (h : ∀ va vc w', Vr.RowAt w' va s.data.toList → Fresh w va → New w w' → K (a.put o.dst (.slice va s.size vc)) w') : o.wp Try.prog a w K Q := by
  unfold Oper.wp execOp
  simp only [ho, hx, Sem.run_bind, kconv, Result.andThen_ok, Sem.run_pure, Oper.upon]
  exact h _ _ _ (Vr.bytesWorld_row w 5 s) (fun x hx => by cases hx; exact Nat.le_refl _) (Vr.bytesWorld_below w 5 s)
theorem wpList_conv {ops : Array Oper} {rest : List Oper} {o : Oper} {a : Act} {w : World} {Q : Exit → Act → World → Prop} (hw : Region.wanted o (yielded ops a.tmps) = true) (x : Operand) (ho : o.op = .convert 9 47 x) (s : ByteArray) (hx : a.eval x = .string s)
    (h : ∀ va vc w', Vr.RowAt w' va s.data.toList → Fresh w va → New w w' → wpList Try.prog ops Q rest (a.put o.dst (.slice va s.size vc)) w') : wpList Try.prog ops Q (o :: rest) a w :=
  wpList_step fun _ hK => by rw [if_pos hw]; exact wp_conv x ho s hx fun va vc w' h1 h2 h3 => hK _ _ (h va vc w' h1 h2 h3)
/-- what kvIn hands back -/
structure KvAt (w : World) (b : Nat) (key val : List UInt8) (cr md ver ls : Int) : Prop where
  cells : ∃ K V, w.heap[b]? = some (.cells #[K, .int .i64 cr, .int .i64 md, .int .i64 ver, V, .int .i64 ls] 115 (0, 0)) ∧ IsBytes key K w ∧ IsBytes val V w
def KvRet (key val : List UInt8) (cr md ver ls : Int) (w : World) (e : Ending) (w' : World) : Prop :=
  ∃ b, e = .returned (.pointer (some ⟨b, 0, none⟩)) ∧ KvAt w' b key val cr md ver ls ∧ Below w.heap.size w w'

set_option maxRecDepth 100000 in
set_option maxHeartbeats 1000000 in
theorem kv_in (w : World) (key val : ByteArray) (cr md ver ls : Int) :
    Calls Try.prog 40 #[.agg #[.string key, .string val, .int .i64 cr, .int .i64 md, .int .i64 ver, .int .i64 ls]] w (KvRet key.data.toList val.data.toList cr md ver ls w) := by
  go_enter Try.func40, Try.ntmps40
  go_wp2_with (refine wpList_conv (by rfl) _ rfl _ rfl ?_)
  rintro ka kc w1 hk - hb1
  unfold New at hb1
  have q1 : w1.cell? ⟨w.heap.size, 1, none⟩ = some (.string val) := (Kept.of_below (M := fun _ => False) hb1).cell (by simp) id
  have q2 : w1.cell? ⟨w.heap.size, 2, none⟩ = some (.int .i64 cr) := (Kept.of_below (M := fun _ => False) hb1).cell (by simp) id
  have q3 : w1.cell? ⟨w.heap.size, 3, none⟩ = some (.int .i64 md) := (Kept.of_below (M := fun _ => False) hb1).cell (by simp) id
  have q4 : w1.cell? ⟨w.heap.size, 4, none⟩ = some (.int .i64 ver) := (Kept.of_below (M := fun _ => False) hb1).cell (by simp) id
  have q5 : w1.cell? ⟨w.heap.size, 5, none⟩ = some (.int .i64 ls) := (Kept.of_below (M := fun _ => False) hb1).cell (by simp) id
  have HK1 : Box _ := ⟨hk⟩
  have HB1 : Box _ := ⟨hb1⟩
  clear hk hb1
  go_wp2_with (refine wpList_conv (by rfl) _ rfl _ rfl ?_)
  rintro va vc w2 hv - hb2
  unfold New at hb2
  replace q2 := (Kept.of_below (M := fun _ => False) hb2).cell q2 id
  replace q3 := (Kept.of_below (M := fun _ => False) hb2).cell q3 id
  replace q4 := (Kept.of_below (M := fun _ => False) hb2).cell q4 id
  replace q5 := (Kept.of_below (M := fun _ => False) hb2).cell q5 id
  have HK2 : Box _ := ⟨row_below HK1.out hb2⟩
  have HV : Box _ := ⟨hv⟩
  have HB2 : Box _ := ⟨((Below.new _ _).more HB1.out).more hb2⟩
  clear hv hb2 q1
  go_wp2_with fail
  go_ret
  refine ⟨w2.heap.size, rfl, ⟨.slice ka key.size kc, .slice va val.size vc, alloc_new _ _, ?_, ?_⟩, HB2.out.more (Below.new _ _)⟩
  · exact ⟨ka, kc, by simp, row_below HK2.out (Below.new _ _)⟩
  · exact ⟨va, vc, by simp, row_below HV.out (Below.new _ _)⟩
end Go.Proofs.Ytibopfemknnocaa.Cmp
