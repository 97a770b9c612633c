import Derived.Test.YtibopfemknnocaaTy
import Derived.Test.YtibopfemknnocaaSlData
import Derived.Test.YtibopfemknnocaaKvRow
import Derived.Test.YtibopfemknnocaaRange
namespace Go.Proofs.Ytibopfemknnocaa.Flt
open Go.RowKit Go.Proofs.Ytibopfemknnocaa Go.Proofs.Ytibopfemknnocaa.Sl Go.Proofs.Ytibopfemknnocaa.KvRow
set_option linter.unusedVariables false


/-- a key-value of the store's, for good -/
def Kvp (b : Nat) (x : KV) : HProp := Ex fun q : Value × Value => Sep [Byts q.1 x.key.data.toList, Byts q.2 x.val.data.toList, Ro (Blk b [q.1, .int .i64 x.cr, .int .i64 x.md, .int .i64 x.ver, q.2, .int .i64 x.ls] 115)]
theorem Kvp.pers (b : Nat) (x : KV) : Pers (Kvp b x) := Pers.ex fun _ => Pers.sep (by simp only [List.mem_cons, List.not_mem_nil, or_false]; rintro A (rfl | rfl | rfl); exact Byts.pers; exact Byts.pers; exact Pers.ro)
theorem kvp_open {W w : World} {b : Nat} {x : KV} {L : List HProp} (h : Sat W (Kvp b x :: L) w) : ∃ k v, Sat W (Byts k x.key.data.toList :: Byts v x.val.data.toList :: Ro (Blk b [k, .int .i64 x.cr, .int .i64 x.md, .int .i64 x.ver, v, .int .i64 x.ls] 115) :: L) w := by
  obtain ⟨q, h⟩ := h.ex
  exact ⟨q.1, q.2, h.sep⟩
theorem kvp_mk {W w : World} {b : Nat} {x : KV} {k v : Value} {L : List HProp} (h : Sat W (Byts k x.key.data.toList :: Byts v x.val.data.toList :: Ro (Blk b [k, .int .i64 x.cr, .int .i64 x.md, .int .i64 x.ver, v, .int .i64 x.ls] 115) :: L) w) : Sat W (Kvp b x :: L) w :=
  Sat.ex_mk (k, v) (Sat.sep_mk h)
def row (qs : List (Nat × KV)) : List Value := qs.map fun q => .pointer (some ⟨q.1, 0, none⟩)
def Kvps (qs : List (Nat × KV)) : HProp := AllP (fun q : Nat × KV => Kvp q.1 q.2) qs
theorem kvps_add {W w : World} {p : Nat} {x : KV} {qs : List (Nat × KV)} {L : List HProp} (h : Sat W (Kvp p x :: Kvps qs :: L) w) : Sat W (Kvps (qs ++ [(p, x)]) :: L) w :=
  Sat.allAdd (f := fun q : Nat × KV => Kvp q.1 q.2) (x := (p, x)) (Kvp.pers p x) (by
    intro y hy
    rcases List.mem_append.1 hy with h | h
    · exact .inr h
    · exact .inl (by simpa using h)) h
theorem row_snoc (qs : List (Nat × KV)) (p : Nat) (x : KV) : row (qs ++ [(p, x)]) = row qs ++ [.pointer (some ⟨p, 0, none⟩)] := by simp [row]
theorem take_more {α : Type} {l : List α} {i : Nat} {x : α} (h : l[i]? = some x) : l.take (i + 1) = l.take i ++ [x] := by
  rw [List.take_add_one, h]; rfl
set_option maxRecDepth 100000 in
set_option maxHeartbeats 1000000 in
theorem kvIn_spec (x : KV) : Does Try.prog 40 [.agg #[.string x.key, .string x.val, .int .i64 (x.cr), .int .i64 (x.md), .int .i64 (x.ver), .int .i64 (x.ls)]] [] (fun v L => ∃ b, v = .pointer (some ⟨b, 0, none⟩) ∧ L = [Kvp b x]) := by
  refine Does.enter 19 Try.func40 rfl rfl rfl fun W F => ?_
  show WPc _ _ _ _ _ [(0, .agg #[.string x.key, .string x.val, .int .i64 (x.cr), .int .i64 (x.md), .int .i64 (x.ver), .int .i64 (x.ls)])] (F)
  refine WPc.seq ?_
  refine WPc.region ?_
  refine WP.eff rfl rfl rfl (Eff.box (C := [.string x.key, .string x.val, .int .i64 (x.cr), .int .i64 (x.md), .int .i64 (x.ver), .int .i64 (x.ls)]) rfl rfl rfl) ?_
  rintro _ _ ⟨b1, rfl, rfl⟩
  refine WP.val rfl rfl rfl (Val.assign rfl rfl) ?_
  refine WP.nil ?_
  refine Out.next ?_
  refine WPc.seq ?_
  refine WPc.region ?_
  refine WP.val rfl rfl rfl (Val.fieldAddr (j := 0) rfl Ty.fo34_0 rfl rfl) ?_
  refine WP.val rfl rfl rfl (Val.load rfl Ty.sc9 rfl (fun w h => h.cell 0 rfl rfl)) ?_
  refine WP.eff rfl rfl rfl (Eff.bytes rfl Ty.st9 Ty.by47 rfl) ?_
  rintro _ _ ⟨b2, capb2, spb2, rfl, hcb2, hsb2, rfl⟩
  refine WP.val rfl rfl rfl (Val.fieldAddr (j := 1) rfl Ty.fo34_1 rfl rfl) ?_
  refine WP.val rfl rfl rfl (Val.load rfl Ty.sc9 rfl (fun w h => h.cell 1 rfl rfl)) ?_
  refine WP.eff rfl rfl rfl (Eff.bytes rfl Ty.st9 Ty.by47 rfl) ?_
  rintro _ _ ⟨b3, capb3, spb3, rfl, hcb3, hsb3, rfl⟩
  refine WP.val rfl rfl rfl (Val.fieldAddr (j := 2) rfl Ty.fo34_2 rfl rfl) ?_
  refine WP.val rfl rfl rfl (Val.load rfl Ty.sc2 rfl (fun w h => h.cell 2 rfl rfl)) ?_
  refine WP.val rfl rfl rfl (Val.fieldAddr (j := 3) rfl Ty.fo34_3 rfl rfl) ?_
  refine WP.val rfl rfl rfl (Val.load rfl Ty.sc2 rfl (fun w h => h.cell 2 rfl rfl)) ?_
  refine WP.val rfl rfl rfl (Val.fieldAddr (j := 4) rfl Ty.fo34_4 rfl rfl) ?_
  refine WP.val rfl rfl rfl (Val.load rfl Ty.sc2 rfl (fun w h => h.cell 2 rfl rfl)) ?_
  refine WP.val rfl rfl rfl (Val.fieldAddr (j := 5) rfl Ty.fo34_5 rfl rfl) ?_
  refine WP.val rfl rfl rfl (Val.load rfl Ty.sc2 rfl (fun w h => h.cell 2 rfl rfl)) ?_
  refine WP.val rfl rfl rfl (Val.mk (cs := [.slice (some ⟨b2, 0, none⟩) ((x.key).size) capb2, .int .i64 (x.cr), .int .i64 (x.md), .int .i64 (x.ver), .slice (some ⟨b3, 0, none⟩) ((x.val).size) capb3, .int .i64 (x.ls)]) rfl rfl (fun _ => by kernel_rfl)) ?_
  refine WP.eff rfl rfl rfl (Eff.box (C := [.slice (some ⟨b2, 0, none⟩) ((x.key).size) capb2, .int .i64 (x.cr), .int .i64 (x.md), .int .i64 (x.ver), .slice (some ⟨b3, 0, none⟩) ((x.val).size) capb3, .int .i64 (x.ls)]) rfl rfl rfl) ?_
  rintro _ _ ⟨b4, rfl, rfl⟩
  refine WP.val rfl rfl rfl (Val.assign rfl rfl) ?_
  refine WP.nil ?_
  refine Out.next ?_
  refine WPc.ret ?_
  refine Out.perm pl3 ?_
  refine Out.drop ?_
  refine Out.perm pl1 ?_
  refine Out.perm pl2 ?_
  exact Out.ret1 (L' := [Kvp b4 x]) Try.results40 rfl ⟨b4, rfl, rfl⟩ (fun w h => kvp_mk (((((h.bytsStr hcb2).perm pl1).bytsStr hcb3).perm pl2).freeze.perm pl2 |>.perm pl1 |>.perm pl2 |>.perm pl2))

/-- the slice va reads as l as long as A holds -/
def KvsIn (A : HProp) (va : Value) (l : List KV) : Prop :=
  (∃ b0 o0 c0, va = .slice (some ⟨b0, o0, none⟩) l.length c0 ∧ ∀ w, Holds A w → ∀ i x, l[i]? = some x → w.rangeAt b0 (o0 + i * 6) x.cells) ∨ (l = [] ∧ ∃ a c, va = .slice a 0 c)
set_option maxRecDepth 100000 in
set_option maxHeartbeats 1000000 in
theorem kvsIn_nil (A : HProp)  (a : Option Addr) (c : Nat) : Does Try.prog 36 [.slice a 0 c] [A] (fun v L => ∃ qs : List (Nat × KV), qs.map (·.2) = ([] : List KV) ∧ L = [Own 70 1 v qs.length (row qs), Kvps qs, A]) := by
  have hl : ([] : List KV).length ≤ 1000 := by simp
  refine Does.enter 20 Try.func36 rfl rfl rfl fun W F => ?_
  show WPc _ _ _ _ _ [(0, .slice a 0 c)] (A :: F)
  refine WPc.seq ?_
  refine WPc.region ?_
  refine WP.val rfl rfl rfl (Val.assign rfl rfl) ?_
  refine WP.nil ?_
  refine Out.next ?_
  refine WPc.seq ?_
  refine WPc.region ?_
  refine WP.val rfl rfl rfl (Val.assign rfl rfl) ?_
  refine WP.nil ?_
  refine Out.next ?_
  refine WPc.seq ?_
  refine WPc.seq ?_
  refine WPc.region ?_
  refine WP.val rfl rfl rfl (Val.assign rfl rfl) ?_
  refine WP.nil ?_
  refine Out.next ?_
  refine WPc.block ?_
  refine WPc.loop (ι := Nat × Value × List (Nat × KV)) (fun ⟨i, v, qs⟩ => i ≤ ([] : List KV).length ∧ qs.map (·.2) = ([] : List KV).take i) (fun ⟨i, v, qs⟩ => [(0, .slice a 0 c), (3, v), (4, .int .i64 (((i : Nat) : Int)))]) (fun ⟨i, v, qs⟩ => Own 70 1 v qs.length (row qs) :: Kvps qs :: A :: F) (fun ⟨i, v, qs⟩ => ([] : List KV).length - i) (0, .slice none 0 0, []) ⟨by omega, rfl⟩ ((Sub.cons rfl (Sub.cons rfl (Sub.cons rfl Sub.nil)))) (fun w h => h.allNil.ownNil) ?_
  rintro ⟨i, v, qs⟩ ⟨hi, hq⟩
  show WPc _ _ _ _ _ [(0, .slice a 0 c), (3, v), (4, .int .i64 (((i : Nat) : Int)))] (Own 70 1 v qs.length (row qs) :: Kvps qs :: A :: F)
  refine WPc.seq ?_
  refine WPc.seq ?_
  refine WPc.region ?_
  refine WP.val rfl rfl rfl (Val.move rfl rfl) ?_
  refine WP.val rfl rfl rfl (Val.move rfl rfl) ?_
  refine WP.val rfl rfl rfl (Val.len rfl Ty.sl30 rfl) ?_
  refine WP.val rfl rfl rfl (Val.lss rfl rfl rfl) ?_
  refine WP.nil ?_
  refine Out.next ?_
  refine WPc.ifP rfl (fun h1 => ?_) (fun h1 => ?_)
  · skip
    have h1 : (((i : Nat) : Int) < (0 : Int)) := h1
    exfalso; simp at *; omega
  · skip
    have h1 : ¬ (((i : Nat) : Int) < (0 : Int)) := h1
    refine WPc.exit ?_
    refine Out.then_exit ?_
    refine Out.then_exit ?_
    refine Out.block_exit ?_
    refine Out.next ?_
    refine WPc.seq ?_
    refine WPc.region ?_
    refine WP.val rfl rfl rfl (Val.move rfl rfl) ?_
    refine WP.val rfl rfl rfl (Val.assign rfl rfl) ?_
    refine WP.nil ?_
    refine Out.next ?_
    refine WPc.ret ?_
    have e : i = ([] : List KV).length := by simp at *; omega
    subst e
    rw [List.take_length] at hq
    exact Out.ret1 (L' := [Own 70 1 v qs.length (row qs), Kvps qs, A]) Try.results36 rfl ⟨qs, hq, rfl⟩ (fun _ h => h)

set_option maxRecDepth 100000 in
set_option maxHeartbeats 1000000 in
theorem kvsIn_row (A : HProp) (l : List KV) (hl : l.length ≤ 1000)  (b0 o0 c0 : Nat) (hr : ∀ w, Holds A w → ∀ i x, l[i]? = some x → w.rangeAt b0 (o0 + i * 6) x.cells) : Does Try.prog 36 [.slice (some ⟨b0, o0, none⟩) l.length c0] [A] (fun v L => ∃ qs : List (Nat × KV), qs.map (·.2) = l ∧ L = [Own 70 1 v qs.length (row qs), Kvps qs, A]) := by
  refine Does.enter 20 Try.func36 rfl rfl rfl fun W F => ?_
  show WPc _ _ _ _ _ [(0, .slice (some ⟨b0, o0, none⟩) l.length c0)] (A :: F)
  refine WPc.seq ?_
  refine WPc.region ?_
  refine WP.val rfl rfl rfl (Val.assign rfl rfl) ?_
  refine WP.nil ?_
  refine Out.next ?_
  refine WPc.seq ?_
  refine WPc.region ?_
  refine WP.val rfl rfl rfl (Val.assign rfl rfl) ?_
  refine WP.nil ?_
  refine Out.next ?_
  refine WPc.seq ?_
  refine WPc.seq ?_
  refine WPc.region ?_
  refine WP.val rfl rfl rfl (Val.assign rfl rfl) ?_
  refine WP.nil ?_
  refine Out.next ?_
  refine WPc.block ?_
  refine WPc.loop (ι := Nat × Value × List (Nat × KV)) (fun ⟨i, v, qs⟩ => i ≤ l.length ∧ qs.map (·.2) = l.take i) (fun ⟨i, v, qs⟩ => [(0, .slice (some ⟨b0, o0, none⟩) l.length c0), (3, v), (4, .int .i64 (((i : Nat) : Int)))]) (fun ⟨i, v, qs⟩ => Own 70 1 v qs.length (row qs) :: Kvps qs :: A :: F) (fun ⟨i, v, qs⟩ => l.length - i) (0, .slice none 0 0, []) ⟨by omega, rfl⟩ ((Sub.cons rfl (Sub.cons rfl (Sub.cons rfl Sub.nil)))) (fun w h => h.allNil.ownNil) ?_
  rintro ⟨i, v, qs⟩ ⟨hi, hq⟩
  show WPc _ _ _ _ _ [(0, .slice (some ⟨b0, o0, none⟩) l.length c0), (3, v), (4, .int .i64 (((i : Nat) : Int)))] (Own 70 1 v qs.length (row qs) :: Kvps qs :: A :: F)
  refine WPc.seq ?_
  refine WPc.seq ?_
  refine WPc.region ?_
  refine WP.val rfl rfl rfl (Val.move rfl rfl) ?_
  refine WP.val rfl rfl rfl (Val.move rfl rfl) ?_
  refine WP.val rfl rfl rfl (Val.len rfl Ty.sl30 rfl) ?_
  refine WP.val rfl rfl rfl (Val.lss rfl rfl rfl) ?_
  refine WP.nil ?_
  refine Out.next ?_
  refine WPc.ifP rfl (fun h1 => ?_) (fun h1 => ?_)
  · skip
    have h1 : (((i : Nat) : Int) < ((l.length : Nat) : Int)) := h1
    refine WPc.skip ?_
    refine Out.next ?_
    refine WPc.seq ?_
    refine WPc.block ?_
    have hlt : i < l.length := by omega
    obtain ⟨x, hx⟩ : ∃ x, l[i]? = some x := ⟨_, List.getElem?_eq_getElem hlt⟩
    have hqs : qs.length = i := by have := congrArg List.length hq; simp at this; omega
    refine WPc.region ?_
    refine WP.val rfl rfl rfl (Val.move rfl rfl) ?_
    refine WP.val rfl rfl rfl (Val.move rfl rfl) ?_
    refine WP.val rfl rfl rfl (Val.move rfl rfl) ?_
    refine WP.val rfl rfl rfl (Val.indexAddr (j := i) (q := o0 + i * 6) rfl Ty.sl30 rfl rfl (by omega) (by omega) (by omega)) ?_
    refine WP.val rfl rfl rfl (Val.loadAgg (cs := x.cells) rfl Ty.ag34 rfl (by rfl) (fun w h => hr w (h.at 2 rfl) i x hx)) ?_
    refine WP.eff rfl rfl rfl (Eff.call rfl rfl Try.call40 (kvIn_spec x)) ?_
    rintro _ _ ⟨_, ⟨p1, rfl, rfl⟩, rfl⟩
    show WP _ _ _ _ _ _ _ (Kvp p1 x :: Own 70 1 v qs.length (row qs) :: Kvps qs :: A :: F)
    refine WP.eff rfl rfl rfl (Eff.mkSlice (C := [.pointer (some ⟨p1, 0, none⟩)]) rfl Ty.sl63 rfl (fun _ => by kernel_rfl)) ?_
    rintro _ _ ⟨b2, rfl, rfl⟩
    refine WP.perm pl2 ?_
    refine WP.eff rfl rfl rfl (Eff.append (m := 1) (n0 := qs.length) (news := [.pointer (some ⟨p1, 0, none⟩)]) rfl Ty.sl63 Ty.z70 rfl rfl rfl (.slice Ty.sl63 rfl rfl (fun w h => cells_range (h.range 1 rfl rfl))) (by omega) (by omega)) ?_
    rintro v3 _ rfl
    refine WP.val rfl rfl rfl (Val.assign rfl rfl) ?_
    refine WP.nil ?_
    refine Out.block ?_
    refine Out.next ?_
    refine WPc.region ?_
    refine WP.val rfl rfl rfl (Val.move rfl rfl) ?_
    refine WP.val rfl rfl rfl (Val.add (z := ((i + 1 : Nat) : Int)) rfl rfl rfl ((w64 (by omega) (by omega)).trans (by omega))) ?_
    refine WP.val rfl rfl rfl (Val.assign rfl rfl) ?_
    refine WP.nil ?_
    refine Out.perm pl3 ?_
    refine Out.perm pl3 ?_
    refine Out.conv (fun w h => kvps_add h) ?_
    refine Out.perm pl2 ?_
    refine Out.drop ?_
    refine Out.perm pl2 ?_
    refine Out.perm pl1 ?_
    refine Out.perm pl2 ?_
    refine Out.again (i + 1, v3, qs ++ [(p1, x)]) ?_ ?_ ?_ ?_
    · exact ⟨by omega, by simp [hq, take_more hx]⟩
    · first | omega | (dsimp only; omega)
    · exact (Sub.cons rfl (Sub.cons rfl (Sub.cons rfl Sub.nil)))
    · exact (fun w h => by simpa [row_snoc] using h)
  · skip
    have h1 : ¬ (((i : Nat) : Int) < ((l.length : Nat) : Int)) := h1
    refine WPc.exit ?_
    refine Out.then_exit ?_
    refine Out.then_exit ?_
    refine Out.block_exit ?_
    refine Out.next ?_
    refine WPc.seq ?_
    refine WPc.region ?_
    refine WP.val rfl rfl rfl (Val.move rfl rfl) ?_
    refine WP.val rfl rfl rfl (Val.assign rfl rfl) ?_
    refine WP.nil ?_
    refine Out.next ?_
    refine WPc.ret ?_
    have e : i = l.length := by omega
    subst e
    rw [List.take_length] at hq
    exact Out.ret1 (L' := [Own 70 1 v qs.length (row qs), Kvps qs, A]) Try.results36 rfl ⟨qs, hq, rfl⟩ (fun _ h => h)

theorem kvsIn_spec (A : HProp) (l : List KV) (hl : l.length ≤ 1000)  (va : Value) (hva : KvsIn A va l) : Does Try.prog 36 [va] [A] (fun v L => ∃ qs : List (Nat × KV), qs.map (·.2) = l ∧ L = [Own 70 1 v qs.length (row qs), Kvps qs, A]) := by
  rcases hva with ⟨b0, o0, c0, rfl, hr⟩ | ⟨rfl, a, c, rfl⟩
  · exact kvsIn_row A l hl b0 o0 c0 hr
  · exact kvsIn_nil A a c

/-- the request's bounds -/
def Req (rq : Nat) (mm xm mc xc : Int) : HProp := AllP (fun p : Nat × Value => Cel rq p.1 p.2) [(9, .int .i64 mm), (10, .int .i64 xm), (11, .int .i64 mc), (12, .int .i64 xc)]
theorem Req.c9 {rq : Nat} {mm xm mc xc : Int} {w : World} (h : Holds (Req rq mm xm mc xc) w) : w.cell? ⟨rq, 9, none⟩ = some (.int .i64 mm) := (h.allGet (x := (9, .int .i64 mm)) (by simp)).cel
theorem Req.c10 {rq : Nat} {mm xm mc xc : Int} {w : World} (h : Holds (Req rq mm xm mc xc) w) : w.cell? ⟨rq, 10, none⟩ = some (.int .i64 xm) := (h.allGet (x := (10, .int .i64 xm)) (by simp)).cel
theorem Req.c11 {rq : Nat} {mm xm mc xc : Int} {w : World} (h : Holds (Req rq mm xm mc xc) w) : w.cell? ⟨rq, 11, none⟩ = some (.int .i64 mc) := (h.allGet (x := (11, .int .i64 mc)) (by simp)).cel
theorem Req.c12 {rq : Nat} {mm xm mc xc : Int} {w : World} (h : Holds (Req rq mm xm mc xc) w) : w.cell? ⟨rq, 12, none⟩ = some (.int .i64 xc) := (h.allGet (x := (12, .int .i64 xc)) (by simp)).cel
theorem kvp_both {W w : World} {b : Nat} {x : KV} {L : List HProp} (h : Sat W (Kvp b x :: L) w) : ∃ q : Value × Value, Sat W (Ro (Blk b [q.1, .int .i64 x.cr, .int .i64 x.md, .int .i64 x.ver, q.2, .int .i64 x.ls] 115) :: Kvp b x :: L) w := by
  obtain ⟨k, v, h1⟩ := kvp_open (h.dup (Kvp.pers b x))
  exact ⟨(k, v), h1.drop.drop⟩
def pred (f : Nat) (mm xm mc xc : Int) (x : KV) : Bool := if f = 68 then decide (xm < x.md) else if f = 69 then decide (x.md < mm) else if f = 70 then decide (xc < x.cr) else decide (x.cr < mc)
set_option maxRecDepth 100000 in
set_option maxHeartbeats 1000000 in
theorem clo68 (b rv rq : Nat) (mm xm mc xc : Int) (x : KV) : Does Try.prog 68 [.pointer (some ⟨b, 0, none⟩), .pointer (some ⟨rv, 0, none⟩)] [Kvp b x, Blk rv [.pointer (some ⟨rq, 0, none⟩)] 59, Req rq mm xm mc xc] (fun v L => v = .bool (pred 68 mm xm mc xc x) ∧ L = [Kvp b x, Blk rv [.pointer (some ⟨rq, 0, none⟩)] 59, Req rq mm xm mc xc]) := by
  refine Does.enter 13 Try.func68 rfl rfl rfl fun W F => ?_
  show WPc _ _ _ _ _ [(0, .pointer (some ⟨b, 0, none⟩)), (1, .pointer (some ⟨rv, 0, none⟩))] (Kvp b x :: Blk rv [.pointer (some ⟨rq, 0, none⟩)] 59 :: Req rq mm xm mc xc :: F)
  refine WPc.seq ?_
  refine WPc.open (fun w h => kvp_both h) ?_
  rintro ⟨k, v⟩
  show WPc _ _ _ _ _ _ (Ro (Blk b [k, .int .i64 (x.cr), .int .i64 (x.md), .int .i64 (x.ver), v, .int .i64 (x.ls)] 115) :: Kvp b x :: Blk rv [.pointer (some ⟨rq, 0, none⟩)] 59 :: Req rq mm xm mc xc :: F)
  refine WPc.region ?_
  refine WP.val rfl rfl rfl (Val.assign rfl rfl) ?_
  refine WP.nil ?_
  refine Out.next ?_
  refine WPc.seq ?_
  refine WPD.start (Sat W (Ro (Blk b [k, .int .i64 (x.cr), .int .i64 (x.md), .int .i64 (x.ver), v, .int .i64 (x.ls)] 115) :: Kvp b x :: Blk rv [.pointer (some ⟨rq, 0, none⟩)] 59 :: Req rq mm xm mc xc :: F)) Ty.mixed ?_
  refine WPD.take 0 rfl rfl rfl rfl (by kernel_rfl) (by kernel_rfl) (by kernel_rfl) (fun _ _ _ h => h) (fun _ h => h) (Val.move rfl rfl) ?_
  refine WPD.take 1 rfl rfl rfl rfl (by kernel_rfl) (by kernel_rfl) (by kernel_rfl) (fun _ _ _ h => h) (fun _ h => h) (Val.nilCheck rfl rfl) ?_
  refine WPD.take 2 rfl rfl rfl rfl (by kernel_rfl) (by kernel_rfl) (by kernel_rfl) (fun _ _ _ h => h) (fun _ h => h) (Val.fieldAddr (j := 2) rfl Ty.fo115_2 rfl rfl) ?_
  refine WPD.take 3 rfl rfl rfl rfl (by kernel_rfl) (by kernel_rfl) (by kernel_rfl) (fun _ _ _ h => h) (fun _ h => h) (Val.load rfl Ty.sc2 rfl (fun w h => h.cellRo 0 rfl rfl)) ?_
  refine WPD.take 4 rfl rfl rfl rfl (by kernel_rfl) (by kernel_rfl) (by kernel_rfl) (fun _ _ _ h => h) (fun _ h => h) (Val.load rfl Ty.sc59 rfl (fun w h => h.cell 2 rfl rfl)) ?_
  refine WPD.take 5 rfl rfl rfl rfl (by kernel_rfl) (by kernel_rfl) (by kernel_rfl) (fun _ _ _ h => h) (fun _ h => h) (Val.nilCheck rfl rfl) ?_
  refine WPD.take 6 rfl rfl rfl rfl (by kernel_rfl) (by kernel_rfl) (by kernel_rfl) (fun _ _ _ h => h) (fun _ h => h) (Val.fieldAddr (j := 10) rfl Ty.fo88_10 rfl rfl) ?_
  refine WPD.take 7 rfl rfl rfl rfl (by kernel_rfl) (by kernel_rfl) (by kernel_rfl) (fun _ _ _ h => h) (fun _ h => h) (Val.load (v := .int .i64 (xm)) rfl Ty.sc2 rfl (fun w h => Req.c10 (h.at 3 rfl))) ?_
  refine WPD.take 8 rfl rfl rfl rfl (by kernel_rfl) (by kernel_rfl) (by kernel_rfl) (fun _ _ _ h => h) (fun _ h => h) (Val.gtr rfl rfl rfl) ?_
  refine WPD.take 9 rfl rfl rfl rfl (by kernel_rfl) (by kernel_rfl) (by kernel_rfl) (fun _ _ _ h => h) (fun _ h => h) (Val.assign rfl rfl) ?_
  refine WPD.done (by kernel_rfl) ?_
  refine Out.next ?_
  refine WPc.ret ?_
  refine Out.drop ?_
  exact Out.ret1 (L' := [Kvp b x, Blk rv [.pointer (some ⟨rq, 0, none⟩)] 59, Req rq mm xm mc xc]) Try.results68 rfl ⟨by simp [pred], rfl⟩ (fun _ h => h)
set_option maxRecDepth 100000 in
set_option maxHeartbeats 1000000 in
theorem clo69 (b rv rq : Nat) (mm xm mc xc : Int) (x : KV) : Does Try.prog 69 [.pointer (some ⟨b, 0, none⟩), .pointer (some ⟨rv, 0, none⟩)] [Kvp b x, Blk rv [.pointer (some ⟨rq, 0, none⟩)] 59, Req rq mm xm mc xc] (fun v L => v = .bool (pred 69 mm xm mc xc x) ∧ L = [Kvp b x, Blk rv [.pointer (some ⟨rq, 0, none⟩)] 59, Req rq mm xm mc xc]) := by
  refine Does.enter 13 Try.func69 rfl rfl rfl fun W F => ?_
  show WPc _ _ _ _ _ [(0, .pointer (some ⟨b, 0, none⟩)), (1, .pointer (some ⟨rv, 0, none⟩))] (Kvp b x :: Blk rv [.pointer (some ⟨rq, 0, none⟩)] 59 :: Req rq mm xm mc xc :: F)
  refine WPc.seq ?_
  refine WPc.open (fun w h => kvp_both h) ?_
  rintro ⟨k, v⟩
  show WPc _ _ _ _ _ _ (Ro (Blk b [k, .int .i64 (x.cr), .int .i64 (x.md), .int .i64 (x.ver), v, .int .i64 (x.ls)] 115) :: Kvp b x :: Blk rv [.pointer (some ⟨rq, 0, none⟩)] 59 :: Req rq mm xm mc xc :: F)
  refine WPc.region ?_
  refine WP.val rfl rfl rfl (Val.assign rfl rfl) ?_
  refine WP.nil ?_
  refine Out.next ?_
  refine WPc.seq ?_
  refine WPD.start (Sat W (Ro (Blk b [k, .int .i64 (x.cr), .int .i64 (x.md), .int .i64 (x.ver), v, .int .i64 (x.ls)] 115) :: Kvp b x :: Blk rv [.pointer (some ⟨rq, 0, none⟩)] 59 :: Req rq mm xm mc xc :: F)) Ty.mixed ?_
  refine WPD.take 0 rfl rfl rfl rfl (by kernel_rfl) (by kernel_rfl) (by kernel_rfl) (fun _ _ _ h => h) (fun _ h => h) (Val.move rfl rfl) ?_
  refine WPD.take 1 rfl rfl rfl rfl (by kernel_rfl) (by kernel_rfl) (by kernel_rfl) (fun _ _ _ h => h) (fun _ h => h) (Val.nilCheck rfl rfl) ?_
  refine WPD.take 2 rfl rfl rfl rfl (by kernel_rfl) (by kernel_rfl) (by kernel_rfl) (fun _ _ _ h => h) (fun _ h => h) (Val.fieldAddr (j := 2) rfl Ty.fo115_2 rfl rfl) ?_
  refine WPD.take 3 rfl rfl rfl rfl (by kernel_rfl) (by kernel_rfl) (by kernel_rfl) (fun _ _ _ h => h) (fun _ h => h) (Val.load rfl Ty.sc2 rfl (fun w h => h.cellRo 0 rfl rfl)) ?_
  refine WPD.take 4 rfl rfl rfl rfl (by kernel_rfl) (by kernel_rfl) (by kernel_rfl) (fun _ _ _ h => h) (fun _ h => h) (Val.load rfl Ty.sc59 rfl (fun w h => h.cell 2 rfl rfl)) ?_
  refine WPD.take 5 rfl rfl rfl rfl (by kernel_rfl) (by kernel_rfl) (by kernel_rfl) (fun _ _ _ h => h) (fun _ h => h) (Val.nilCheck rfl rfl) ?_
  refine WPD.take 6 rfl rfl rfl rfl (by kernel_rfl) (by kernel_rfl) (by kernel_rfl) (fun _ _ _ h => h) (fun _ h => h) (Val.fieldAddr (j := 9) rfl Ty.fo88_9 rfl rfl) ?_
  refine WPD.take 7 rfl rfl rfl rfl (by kernel_rfl) (by kernel_rfl) (by kernel_rfl) (fun _ _ _ h => h) (fun _ h => h) (Val.load (v := .int .i64 (mm)) rfl Ty.sc2 rfl (fun w h => Req.c9 (h.at 3 rfl))) ?_
  refine WPD.take 8 rfl rfl rfl rfl (by kernel_rfl) (by kernel_rfl) (by kernel_rfl) (fun _ _ _ h => h) (fun _ h => h) (Val.lss rfl rfl rfl) ?_
  refine WPD.take 9 rfl rfl rfl rfl (by kernel_rfl) (by kernel_rfl) (by kernel_rfl) (fun _ _ _ h => h) (fun _ h => h) (Val.assign rfl rfl) ?_
  refine WPD.done (by kernel_rfl) ?_
  refine Out.next ?_
  refine WPc.ret ?_
  refine Out.drop ?_
  exact Out.ret1 (L' := [Kvp b x, Blk rv [.pointer (some ⟨rq, 0, none⟩)] 59, Req rq mm xm mc xc]) Try.results69 rfl ⟨by simp [pred], rfl⟩ (fun _ h => h)
set_option maxRecDepth 100000 in
set_option maxHeartbeats 1000000 in
theorem clo70 (b rv rq : Nat) (mm xm mc xc : Int) (x : KV) : Does Try.prog 70 [.pointer (some ⟨b, 0, none⟩), .pointer (some ⟨rv, 0, none⟩)] [Kvp b x, Blk rv [.pointer (some ⟨rq, 0, none⟩)] 59, Req rq mm xm mc xc] (fun v L => v = .bool (pred 70 mm xm mc xc x) ∧ L = [Kvp b x, Blk rv [.pointer (some ⟨rq, 0, none⟩)] 59, Req rq mm xm mc xc]) := by
  refine Does.enter 13 Try.func70 rfl rfl rfl fun W F => ?_
  show WPc _ _ _ _ _ [(0, .pointer (some ⟨b, 0, none⟩)), (1, .pointer (some ⟨rv, 0, none⟩))] (Kvp b x :: Blk rv [.pointer (some ⟨rq, 0, none⟩)] 59 :: Req rq mm xm mc xc :: F)
  refine WPc.seq ?_
  refine WPc.open (fun w h => kvp_both h) ?_
  rintro ⟨k, v⟩
  show WPc _ _ _ _ _ _ (Ro (Blk b [k, .int .i64 (x.cr), .int .i64 (x.md), .int .i64 (x.ver), v, .int .i64 (x.ls)] 115) :: Kvp b x :: Blk rv [.pointer (some ⟨rq, 0, none⟩)] 59 :: Req rq mm xm mc xc :: F)
  refine WPc.region ?_
  refine WP.val rfl rfl rfl (Val.assign rfl rfl) ?_
  refine WP.nil ?_
  refine Out.next ?_
  refine WPc.seq ?_
  refine WPD.start (Sat W (Ro (Blk b [k, .int .i64 (x.cr), .int .i64 (x.md), .int .i64 (x.ver), v, .int .i64 (x.ls)] 115) :: Kvp b x :: Blk rv [.pointer (some ⟨rq, 0, none⟩)] 59 :: Req rq mm xm mc xc :: F)) Ty.mixed ?_
  refine WPD.take 0 rfl rfl rfl rfl (by kernel_rfl) (by kernel_rfl) (by kernel_rfl) (fun _ _ _ h => h) (fun _ h => h) (Val.move rfl rfl) ?_
  refine WPD.take 1 rfl rfl rfl rfl (by kernel_rfl) (by kernel_rfl) (by kernel_rfl) (fun _ _ _ h => h) (fun _ h => h) (Val.nilCheck rfl rfl) ?_
  refine WPD.take 2 rfl rfl rfl rfl (by kernel_rfl) (by kernel_rfl) (by kernel_rfl) (fun _ _ _ h => h) (fun _ h => h) (Val.fieldAddr (j := 1) rfl Ty.fo115_1 rfl rfl) ?_
  refine WPD.take 3 rfl rfl rfl rfl (by kernel_rfl) (by kernel_rfl) (by kernel_rfl) (fun _ _ _ h => h) (fun _ h => h) (Val.load rfl Ty.sc2 rfl (fun w h => h.cellRo 0 rfl rfl)) ?_
  refine WPD.take 4 rfl rfl rfl rfl (by kernel_rfl) (by kernel_rfl) (by kernel_rfl) (fun _ _ _ h => h) (fun _ h => h) (Val.load rfl Ty.sc59 rfl (fun w h => h.cell 2 rfl rfl)) ?_
  refine WPD.take 5 rfl rfl rfl rfl (by kernel_rfl) (by kernel_rfl) (by kernel_rfl) (fun _ _ _ h => h) (fun _ h => h) (Val.nilCheck rfl rfl) ?_
  refine WPD.take 6 rfl rfl rfl rfl (by kernel_rfl) (by kernel_rfl) (by kernel_rfl) (fun _ _ _ h => h) (fun _ h => h) (Val.fieldAddr (j := 12) rfl Ty.fo88_12 rfl rfl) ?_
  refine WPD.take 7 rfl rfl rfl rfl (by kernel_rfl) (by kernel_rfl) (by kernel_rfl) (fun _ _ _ h => h) (fun _ h => h) (Val.load (v := .int .i64 (xc)) rfl Ty.sc2 rfl (fun w h => Req.c12 (h.at 3 rfl))) ?_
  refine WPD.take 8 rfl rfl rfl rfl (by kernel_rfl) (by kernel_rfl) (by kernel_rfl) (fun _ _ _ h => h) (fun _ h => h) (Val.gtr rfl rfl rfl) ?_
  refine WPD.take 9 rfl rfl rfl rfl (by kernel_rfl) (by kernel_rfl) (by kernel_rfl) (fun _ _ _ h => h) (fun _ h => h) (Val.assign rfl rfl) ?_
  refine WPD.done (by kernel_rfl) ?_
  refine Out.next ?_
  refine WPc.ret ?_
  refine Out.drop ?_
  exact Out.ret1 (L' := [Kvp b x, Blk rv [.pointer (some ⟨rq, 0, none⟩)] 59, Req rq mm xm mc xc]) Try.results70 rfl ⟨by simp [pred], rfl⟩ (fun _ h => h)
set_option maxRecDepth 100000 in
set_option maxHeartbeats 1000000 in
theorem clo71 (b rv rq : Nat) (mm xm mc xc : Int) (x : KV) : Does Try.prog 71 [.pointer (some ⟨b, 0, none⟩), .pointer (some ⟨rv, 0, none⟩)] [Kvp b x, Blk rv [.pointer (some ⟨rq, 0, none⟩)] 59, Req rq mm xm mc xc] (fun v L => v = .bool (pred 71 mm xm mc xc x) ∧ L = [Kvp b x, Blk rv [.pointer (some ⟨rq, 0, none⟩)] 59, Req rq mm xm mc xc]) := by
  refine Does.enter 13 Try.func71 rfl rfl rfl fun W F => ?_
  show WPc _ _ _ _ _ [(0, .pointer (some ⟨b, 0, none⟩)), (1, .pointer (some ⟨rv, 0, none⟩))] (Kvp b x :: Blk rv [.pointer (some ⟨rq, 0, none⟩)] 59 :: Req rq mm xm mc xc :: F)
  refine WPc.seq ?_
  refine WPc.open (fun w h => kvp_both h) ?_
  rintro ⟨k, v⟩
  show WPc _ _ _ _ _ _ (Ro (Blk b [k, .int .i64 (x.cr), .int .i64 (x.md), .int .i64 (x.ver), v, .int .i64 (x.ls)] 115) :: Kvp b x :: Blk rv [.pointer (some ⟨rq, 0, none⟩)] 59 :: Req rq mm xm mc xc :: F)
  refine WPc.region ?_
  refine WP.val rfl rfl rfl (Val.assign rfl rfl) ?_
  refine WP.nil ?_
  refine Out.next ?_
  refine WPc.seq ?_
  refine WPD.start (Sat W (Ro (Blk b [k, .int .i64 (x.cr), .int .i64 (x.md), .int .i64 (x.ver), v, .int .i64 (x.ls)] 115) :: Kvp b x :: Blk rv [.pointer (some ⟨rq, 0, none⟩)] 59 :: Req rq mm xm mc xc :: F)) Ty.mixed ?_
  refine WPD.take 0 rfl rfl rfl rfl (by kernel_rfl) (by kernel_rfl) (by kernel_rfl) (fun _ _ _ h => h) (fun _ h => h) (Val.move rfl rfl) ?_
  refine WPD.take 1 rfl rfl rfl rfl (by kernel_rfl) (by kernel_rfl) (by kernel_rfl) (fun _ _ _ h => h) (fun _ h => h) (Val.nilCheck rfl rfl) ?_
  refine WPD.take 2 rfl rfl rfl rfl (by kernel_rfl) (by kernel_rfl) (by kernel_rfl) (fun _ _ _ h => h) (fun _ h => h) (Val.fieldAddr (j := 1) rfl Ty.fo115_1 rfl rfl) ?_
  refine WPD.take 3 rfl rfl rfl rfl (by kernel_rfl) (by kernel_rfl) (by kernel_rfl) (fun _ _ _ h => h) (fun _ h => h) (Val.load rfl Ty.sc2 rfl (fun w h => h.cellRo 0 rfl rfl)) ?_
  refine WPD.take 4 rfl rfl rfl rfl (by kernel_rfl) (by kernel_rfl) (by kernel_rfl) (fun _ _ _ h => h) (fun _ h => h) (Val.load rfl Ty.sc59 rfl (fun w h => h.cell 2 rfl rfl)) ?_
  refine WPD.take 5 rfl rfl rfl rfl (by kernel_rfl) (by kernel_rfl) (by kernel_rfl) (fun _ _ _ h => h) (fun _ h => h) (Val.nilCheck rfl rfl) ?_
  refine WPD.take 6 rfl rfl rfl rfl (by kernel_rfl) (by kernel_rfl) (by kernel_rfl) (fun _ _ _ h => h) (fun _ h => h) (Val.fieldAddr (j := 11) rfl Ty.fo88_11 rfl rfl) ?_
  refine WPD.take 7 rfl rfl rfl rfl (by kernel_rfl) (by kernel_rfl) (by kernel_rfl) (fun _ _ _ h => h) (fun _ h => h) (Val.load (v := .int .i64 (mc)) rfl Ty.sc2 rfl (fun w h => Req.c11 (h.at 3 rfl))) ?_
  refine WPD.take 8 rfl rfl rfl rfl (by kernel_rfl) (by kernel_rfl) (by kernel_rfl) (fun _ _ _ h => h) (fun _ h => h) (Val.lss rfl rfl rfl) ?_
  refine WPD.take 9 rfl rfl rfl rfl (by kernel_rfl) (by kernel_rfl) (by kernel_rfl) (fun _ _ _ h => h) (fun _ h => h) (Val.assign rfl rfl) ?_
  refine WPD.done (by kernel_rfl) ?_
  refine Out.next ?_
  refine WPc.ret ?_
  refine Out.drop ?_
  exact Out.ret1 (L' := [Kvp b x, Blk rv [.pointer (some ⟨rq, 0, none⟩)] 59, Req rq mm xm mc xc]) Try.results71 rfl ⟨by simp [pred], rfl⟩ (fun _ h => h)

end Go.Proofs.Ytibopfemknnocaa.Flt
