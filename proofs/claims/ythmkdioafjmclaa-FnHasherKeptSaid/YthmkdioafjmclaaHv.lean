import Derived.Test.YthmkdioafjmclaaHu
namespace Go.Proofs.Ythmkdioafjmclaa.Hv
open Go.RowKit Go.Proofs.Ythmkdioafjmclaa Go.Proofs.Ythmkdioafjmclaa.Sl Go.Proofs.Ythmkdioafjmclaa.Hc Go.Proofs.Ythmkdioafjmclaa.Hp Go.Proofs.Ythmkdioafjmclaa.Hm Go.Proofs.Ythmkdioafjmclaa.Hb Go.Proofs.Ythmkdioafjmclaa.Hk Go.Proofs.Ythmkdioafjmclaa.Hr Go.Proofs.Ythmkdioafjmclaa.Hy Go.Proofs.Ythmkdioafjmclaa.Hn Go.Proofs.Ythmkdioafjmclaa.Hw Go.Proofs.Ythmkdioafjmclaa.Hl Go.Proofs.Ythmkdioafjmclaa.Hz Go.Proofs.Ythmkdioafjmclaa.Ho Go.Proofs.Ythmkdioafjmclaa.Hx Go.Proofs.Ythmkdioafjmclaa.Hs Go.Proofs.Ythmkdioafjmclaa.Hh Go.Proofs.Ythmkdioafjmclaa.Hi Go.Proofs.Ythmkdioafjmclaa.Hj Go.Proofs.Ythmkdioafjmclaa.Ht Go.Proofs.Ythmkdioafjmclaa.Hu
set_option linter.unusedVariables false
set_option linter.unusedSimpArgs false
set_option linter.unusedSectionVars false


theorem equal_str (d : Nat) (x y : ByteArray) (w : World) : (Op.equalIn (d + 1) 9 (.string x) (.string y)).run Try.prog w = .ok (x == y) w := by
  unfold Op.equalIn
  simp
theorem equal_int (d : Nat) (x y : Int) (w : World) : (Op.equalIn (d + 1) 2 (.int .i64 x) (.int .i64 y)).run Try.prog w = .ok (x == y) w := by
  unfold Op.equalIn
  simp
def kvEq (k v k' v' : ByteArray) (a b c e a' b' c' e' : Int) : Bool := (k == k') && (v == v') && a == a' && b == b' && c == c' && e == e'
theorem equal_kvd (d : Nat) (k v k' v' : ByteArray) (a b c e a' b' c' e' : Int) (w : World) : (Op.equalIn (d + 2) 104 (.agg #[.string k, .string v, .int .i64 a, .int .i64 b, .int .i64 c, .int .i64 e]) (.agg #[.string k', .string v', .int .i64 a', .int .i64 b', .int .i64 c', .int .i64 e'])).run Try.prog w = .ok (kvEq k v k' v' a b c e a' b' c' e') w := by
  unfold Op.equalIn kvEq
  simp [Try.stoodInHeld104, part, forIn, equal_str, equal_int]
  cases (k == k') <;> simp [equal_str, equal_int]
  cases (v == v') <;> simp [equal_str, equal_int]
  by_cases h1 : a = a' <;> by_cases h2 : b = b' <;> by_cases h3 : c = c' <;> by_cases h4 : e = e' <;> simp [h1, h2, h3, h4]
theorem Val.neqKV {n : Nat} {l : List (Nat × Value)} {G : World → Prop} {o : Oper} {u : TypeId} {x y : Operand} {k v k' v' : ByteArray} {a b c e a' b' c' e' : Int} (ho : o.op = .binOp .neq 104 x y u) (hx : ev l x = some (.agg #[.string k, .string v, .int .i64 a, .int .i64 b, .int .i64 c, .int .i64 e])) (hy : ev l y = some (.agg #[.string k', .string v', .int .i64 a', .int .i64 b', .int .i64 c', .int .i64 e'])) :
    Val Try.prog n l G o (.bool (!kvEq k v k' v' a b c e a' b' c' e')) := fun q w hf hs => by
  have he : (eqGuard .neq 104 x y (.agg #[.string k, .string v, .int .i64 a, .int .i64 b, .int .i64 c, .int .i64 e]) (.agg #[.string k', .string v', .int .i64 a', .int .i64 b', .int .i64 c', .int .i64 e'])).run Try.prog w = .ok () w := by
    simp [eqGuard, Try.eqGuardType104]
  have h2 : (Op.equal 104 (.agg #[.string k, .string v, .int .i64 a, .int .i64 b, .int .i64 c, .int .i64 e]) (.agg #[.string k', .string v', .int .i64 a', .int .i64 b', .int .i64 c', .int .i64 e'])).run Try.prog w = .ok (kvEq k v k' v' a b c e a' b' c' e') w := equal_kvd 9998 k v k' v' a b c e a' b' c' e' w
  simp only [execOp, ho, hf.ev hx, hf.ev hy, Sem.run_bind, he, Result.andThen_ok, binOp, h2, Sem.run_pure]
structure RoOk (x : Rw) : Prop where
  m : 1 ≤ x.m
  s : 0 ≤ x.s
  k : x.kv.key.size ≤ 60
  v : x.kv.val.size ≤ 60
set_option maxRecDepth 100000 in
set_option maxHeartbeats 1000000 in
theorem fits14_spec (x : KVr) : Does Try.prog 63 [.agg #[.string x.key, .string x.val, .int .i64 (x.create), .int .i64 (x.mod), .int .i64 (x.ver), .int .i64 (x.lease)]] [] (fun v L => ∃ b, v = .bool b ∧ L = []) := by
  refine Does.enter 11 Try.func63 rfl rfl rfl fun W F => ?_
  show WPc _ _ _ _ _ [(0, .agg #[.string x.key, .string x.val, .int .i64 (x.create), .int .i64 (x.mod), .int .i64 (x.ver), .int .i64 (x.lease)])] (F)
  refine WPc.seq ?_
  refine WPc.region ?_
  refine WP.eff rfl rfl rfl (Eff.box (C := [.string x.key, .string x.val, .int .i64 (x.create), .int .i64 (x.mod), .int .i64 (x.ver), .int .i64 (x.lease)]) rfl rfl rfl) ?_
  rintro _ _ ⟨b1, rfl, rfl⟩
  refine WP.val rfl rfl rfl (Val.assign rfl rfl) ?_
  refine WP.nil ?_
  refine Out.next ?_
  refine WPc.seq ?_
  refine WPc.seq ?_
  refine WPc.region ?_
  refine WP.val rfl rfl rfl (Val.fieldAddr (j := 0) rfl Ty.fo104_0 rfl rfl) ?_
  refine WP.val rfl rfl rfl (Val.load rfl Ty.sc9 rfl (fun w h => h.cell 0 rfl rfl)) ?_
  refine WP.val rfl rfl rfl (Val.lenS rfl Ty.st9 rfl) ?_
  refine WP.val rfl rfl rfl (Val.gtr rfl rfl rfl) ?_
  refine WP.nil ?_
  refine Out.next ?_
  refine WPc.ifP rfl (fun h1 => ?_) (fun h1 => ?_)
  · skip
    have h1 : ((2147483647 : Int) < (((x.key).size : Nat) : Int)) := h1
    refine WPc.seq ?_
    refine WPc.region ?_
    refine WP.val rfl rfl rfl (Val.assign rfl rfl) ?_
    refine WP.nil ?_
    refine Out.next ?_
    refine WPc.ret ?_
    refine Out.then_ret ?_
    refine Out.drop ?_
    exact Out.ret1 (L' := []) Try.results63 rfl ⟨_, rfl, rfl⟩ (fun _ h => h)
  · skip
    have h1 : ¬ ((2147483647 : Int) < (((x.key).size : Nat) : Int)) := h1
    refine WPc.skip ?_
    refine Out.next ?_
    refine WPc.seq ?_
    refine WPc.seq ?_
    refine WPc.region ?_
    refine WP.val rfl rfl rfl (Val.fieldAddr (j := 1) rfl Ty.fo104_1 rfl rfl) ?_
    refine WP.val rfl rfl rfl (Val.load rfl Ty.sc9 rfl (fun w h => h.cell 0 rfl rfl)) ?_
    refine WP.val rfl rfl rfl (Val.lenS rfl Ty.st9 rfl) ?_
    refine WP.val rfl rfl rfl (Val.gtr rfl rfl rfl) ?_
    refine WP.nil ?_
    refine Out.next ?_
    refine WPc.ifP rfl (fun h2 => ?_) (fun h2 => ?_)
    · skip
      have h2 : ((2147483647 : Int) < (((x.val).size : Nat) : Int)) := h2
      refine WPc.seq ?_
      refine WPc.region ?_
      refine WP.val rfl rfl rfl (Val.assign rfl rfl) ?_
      refine WP.nil ?_
      refine Out.next ?_
      refine WPc.ret ?_
      refine Out.then_ret ?_
      refine Out.drop ?_
      exact Out.ret1 (L' := []) Try.results63 rfl ⟨_, rfl, rfl⟩ (fun _ h => h)
    · skip
      have h2 : ¬ ((2147483647 : Int) < (((x.val).size : Nat) : Int)) := h2
      refine WPc.skip ?_
      refine Out.next ?_
      refine WPc.seq ?_
      refine WPc.region ?_
      refine WP.val rfl rfl rfl (Val.assign rfl rfl) ?_
      refine WP.nil ?_
      refine Out.next ?_
      refine WPc.ret ?_
      refine Out.drop ?_
      exact Out.ret1 (L' := []) Try.results63 rfl ⟨_, rfl, rfl⟩ (fun _ h => h)
set_option maxRecDepth 100000 in
set_option maxHeartbeats 1000000 in
theorem fits32_spec (x : Rw) : Does Try.prog 46 [.agg #[.int .i64 (x.m), .int .i64 (x.s), .bool (x.gone), .string x.kv.key, .string x.kv.val, .int .i64 (x.kv.create), .int .i64 (x.kv.mod), .int .i64 (x.kv.ver), .int .i64 (x.kv.lease)]] [] (fun v L => ∃ b, v = .bool b ∧ L = []) := by
  refine Does.enter 7 Try.func46 rfl rfl rfl fun W F => ?_
  show WPc _ _ _ _ _ [(0, .agg #[.int .i64 (x.m), .int .i64 (x.s), .bool (x.gone), .string x.kv.key, .string x.kv.val, .int .i64 (x.kv.create), .int .i64 (x.kv.mod), .int .i64 (x.kv.ver), .int .i64 (x.kv.lease)])] (F)
  refine WPc.seq ?_
  refine WPc.region ?_
  refine WP.eff rfl rfl rfl (Eff.box (C := [.int .i64 (x.m), .int .i64 (x.s), .bool (x.gone), .string x.kv.key, .string x.kv.val, .int .i64 (x.kv.create), .int .i64 (x.kv.mod), .int .i64 (x.kv.ver), .int .i64 (x.kv.lease)]) rfl rfl rfl) ?_
  rintro _ _ ⟨b1, rfl, rfl⟩
  refine WP.val rfl rfl rfl (Val.assign rfl rfl) ?_
  refine WP.nil ?_
  refine Out.next ?_
  refine WPc.seq ?_
  refine WPc.seq ?_
  refine WPc.region ?_
  refine WP.val rfl rfl rfl (Val.fieldAddr (j := 3) rfl Ty.fo106_2 rfl rfl) ?_
  refine WP.val rfl rfl rfl (Val.loadAgg (cs := [.string x.kv.key, .string x.kv.val, .int .i64 (x.kv.create), .int .i64 (x.kv.mod), .int .i64 (x.kv.ver), .int .i64 (x.kv.lease)]) rfl Ty.ag104 rfl rfl (fun w h => h.range 0 rfl rfl)) ?_
  refine WP.eff rfl rfl rfl (Eff.call rfl rfl Try.call63 (fits14_spec x.kv)) ?_
  rintro _ _ ⟨_, ⟨b46, rfl, rfl⟩, rfl⟩
  show WP _ _ _ _ _ _ _ (Blk b1 [.int .i64 (x.m), .int .i64 (x.s), .bool (x.gone), .string x.kv.key, .string x.kv.val, .int .i64 (x.kv.create), .int .i64 (x.kv.mod), .int .i64 (x.kv.ver), .int .i64 (x.kv.lease)] 106 :: F)
  refine WP.val rfl rfl rfl (Val.not rfl rfl) ?_
  refine WP.nil ?_
  refine Out.next ?_
  refine WPc.cond rfl (fun h1 => ?_) (fun h1 => ?_)
  · skip
    have h1 : (!b46) = true := h1
    refine WPc.seq ?_
    refine WPc.region ?_
    refine WP.val rfl rfl rfl (Val.assign rfl rfl) ?_
    refine WP.nil ?_
    refine Out.next ?_
    refine WPc.ret ?_
    refine Out.then_ret ?_
    refine Out.drop ?_
    exact Out.ret1 (L' := []) Try.results46 rfl ⟨_, rfl, rfl⟩ (fun _ h => h)
  · skip
    have h1 : (!b46) = false := h1
    refine WPc.skip ?_
    refine Out.next ?_
    refine WPc.seq ?_
    refine WPc.region ?_
    refine WP.val rfl rfl rfl (Val.assign rfl rfl) ?_
    refine WP.nil ?_
    refine Out.next ?_
    refine WPc.ret ?_
    refine Out.drop ?_
    exact Out.ret1 (L' := []) Try.results46 rfl ⟨_, rfl, rfl⟩ (fun _ h => h)
set_option maxRecDepth 100000 in
set_option maxHeartbeats 1000000 in
theorem fits31_nil (A : HProp) (a : Option Addr) (c : Nat) : Does Try.prog 17 [.slice a 0 c] [A] (fun v L => ∃ b, v = .bool b ∧ L = [A]) := by
  refine Does.enter 18 Try.func17 rfl rfl rfl fun W F => ?_
  show WPc _ _ _ _ _ [(0, .slice a 0 c)] (A :: F)
  refine WPc.seq ?_
  refine WPc.region ?_
  refine WP.val rfl rfl rfl (Val.assign rfl rfl) ?_
  refine WP.nil ?_
  refine Out.next ?_
  refine WPc.seq ?_
  refine WPc.seq ?_
  refine WPc.region ?_
  refine WP.val rfl rfl rfl (Val.move rfl rfl) ?_
  refine WP.val rfl rfl rfl (Val.len rfl Ty.sl42 rfl) ?_
  refine WP.val rfl rfl rfl (Val.gtr rfl rfl rfl) ?_
  refine WP.nil ?_
  refine Out.next ?_
  refine WPc.ifP rfl (fun h1 => ?_) (fun h1 => ?_)
  · skip
    have h1 : ((2147483647 : Int) < (0 : Int)) := h1
    exfalso; first | omega | (simp at *; done) | (simp at *; omega)
  · skip
    have h1 : ¬ ((2147483647 : Int) < (0 : Int)) := h1
    refine WPc.skip ?_
    refine Out.next ?_
    refine WPc.seq ?_
    refine WPc.seq ?_
    refine WPc.region ?_
    refine WP.val rfl rfl rfl (Val.move rfl rfl) ?_
    refine WP.val rfl rfl rfl (Val.len rfl Ty.sl42 rfl) ?_
    refine WP.val rfl rfl rfl (Val.move rfl rfl) ?_
    refine WP.nil ?_
    refine Out.next ?_
    refine WPc.block ?_
    refine WPc.loop (ι := Nat) (fun i => i ≤ (([] : List Rw)).length) (fun i => [(8, .slice a 0 c), (9, .int .i64 ((((([] : List Rw)).length : Nat) : Int))), (10, .int .i64 (((i : Nat) : Int)))]) (fun i => A :: F) (fun i => (([] : List Rw)).length - i) 0 (Nat.zero_le _) ((Sub.cons rfl (Sub.cons rfl (Sub.cons rfl Sub.nil)))) (fun _ h => h) ?_
    rintro i hi
    show WPc _ _ _ _ _ [(8, .slice a 0 c), (9, .int .i64 ((((([] : List Rw)).length : Nat) : Int))), (10, .int .i64 (((i : Nat) : Int)))] (A :: F)
    replace hi : i ≤ (([] : List Rw)).length := hi
    refine WPc.seq ?_
    refine WPc.region ?_
    refine WP.val rfl rfl rfl (Val.lss rfl rfl rfl) ?_
    refine WP.nil ?_
    refine Out.next ?_
    refine WPc.seq ?_
    refine WPc.ifP rfl (fun h2 => ?_) (fun h2 => ?_)
    · skip
      have h2 : (((i : Nat) : Int) < (((([] : List Rw)).length : Nat) : Int)) := h2
      exfalso; simp at *; omega
    · skip
      have h2 : ¬ (((i : Nat) : Int) < (((([] : List Rw)).length : Nat) : Int)) := h2
      refine WPc.exit ?_
      refine Out.then_exit ?_
      refine Out.then_exit ?_
      refine Out.block_exit ?_
      refine Out.next ?_
      refine WPc.seq ?_
      refine WPc.region ?_
      refine WP.val rfl rfl rfl (Val.assign rfl rfl) ?_
      refine WP.nil ?_
      refine Out.next ?_
      refine WPc.ret ?_
      exact Out.ret1 (L' := [A]) Try.results17 rfl ⟨_, rfl, rfl⟩ (fun _ h => h)

set_option maxRecDepth 100000 in
set_option maxHeartbeats 1000000 in
theorem fits31_row (A : HProp) (l : List Rw) (hl : l.length ≤ 9223372036854775807) (b0 o0 c0 : Nat) (hr : ∀ w, Holds A w → ∀ i x, l[i]? = some x → w.rangeAt b0 (o0 + i * 9) (Rw.cells x)) : Does Try.prog 17 [.slice (some ⟨b0, o0, none⟩) l.length c0] [A] (fun v L => ∃ b, v = .bool b ∧ L = [A]) := by
  refine Does.enter 18 Try.func17 rfl rfl rfl fun W F => ?_
  show WPc _ _ _ _ _ [(0, .slice (some ⟨b0, o0, none⟩) l.length c0)] (A :: F)
  refine WPc.seq ?_
  refine WPc.region ?_
  refine WP.val rfl rfl rfl (Val.assign rfl rfl) ?_
  refine WP.nil ?_
  refine Out.next ?_
  refine WPc.seq ?_
  refine WPc.seq ?_
  refine WPc.region ?_
  refine WP.val rfl rfl rfl (Val.move rfl rfl) ?_
  refine WP.val rfl rfl rfl (Val.len rfl Ty.sl42 rfl) ?_
  refine WP.val rfl rfl rfl (Val.gtr rfl rfl rfl) ?_
  refine WP.nil ?_
  refine Out.next ?_
  refine WPc.ifP rfl (fun h1 => ?_) (fun h1 => ?_)
  · skip
    have h1 : ((2147483647 : Int) < ((l.length : Nat) : Int)) := h1
    refine WPc.seq ?_
    refine WPc.region ?_
    refine WP.val rfl rfl rfl (Val.assign rfl rfl) ?_
    refine WP.nil ?_
    refine Out.next ?_
    refine WPc.ret ?_
    refine Out.then_ret ?_
    exact Out.ret1 (L' := [A]) Try.results17 rfl ⟨_, rfl, rfl⟩ (fun _ h => h)
  · skip
    have h1 : ¬ ((2147483647 : Int) < ((l.length : Nat) : Int)) := h1
    refine WPc.skip ?_
    refine Out.next ?_
    refine WPc.seq ?_
    refine WPc.seq ?_
    refine WPc.region ?_
    refine WP.val rfl rfl rfl (Val.move rfl rfl) ?_
    refine WP.val rfl rfl rfl (Val.len rfl Ty.sl42 rfl) ?_
    refine WP.val rfl rfl rfl (Val.move rfl rfl) ?_
    refine WP.nil ?_
    refine Out.next ?_
    refine WPc.block ?_
    refine WPc.loop (ι := Nat) (fun i => i ≤ (l).length) (fun i => [(8, .slice (some ⟨b0, o0, none⟩) l.length c0), (9, .int .i64 ((((l).length : Nat) : Int))), (10, .int .i64 (((i : Nat) : Int)))]) (fun i => A :: F) (fun i => (l).length - i) 0 (Nat.zero_le _) ((Sub.cons rfl (Sub.cons rfl (Sub.cons rfl Sub.nil)))) (fun _ h => h) ?_
    rintro i hi
    show WPc _ _ _ _ _ [(8, .slice (some ⟨b0, o0, none⟩) l.length c0), (9, .int .i64 ((((l).length : Nat) : Int))), (10, .int .i64 (((i : Nat) : Int)))] (A :: F)
    replace hi : i ≤ (l).length := hi
    refine WPc.seq ?_
    refine WPc.region ?_
    refine WP.val rfl rfl rfl (Val.lss rfl rfl rfl) ?_
    refine WP.nil ?_
    refine Out.next ?_
    refine WPc.seq ?_
    refine WPc.ifP rfl (fun h2 => ?_) (fun h2 => ?_)
    · skip
      have h2 : (((i : Nat) : Int) < (((l).length : Nat) : Int)) := h2
      refine WPc.skip ?_
      refine Out.next ?_
      refine WPc.seq ?_
      refine WPc.block ?_
      refine WPc.seq ?_
      have hlt : i < l.length := by omega
      obtain ⟨x, hx⟩ : ∃ x, l[i]? = some x := ⟨_, List.getElem?_eq_getElem hlt⟩
      refine WPc.region ?_
      refine WP.val rfl rfl rfl (Val.indexAddr (j := i) (q := o0 + i * 9) rfl Ty.sl42 rfl rfl (by omega) (by omega) (by omega)) ?_
      refine WP.val rfl rfl rfl (Val.loadAgg (cs := (Rw.cells x)) rfl Ty.ag106 rfl (by rfl) (fun w h => hr w (h.at 0 rfl) i x hx)) ?_
      refine WP.eff rfl rfl rfl (Eff.alloc rfl Ty.z106) ?_
      rintro _ _ ⟨b1, rfl, rfl⟩
      refine WP.eff0 rfl rfl (Eff.storeAgg (cs := [.int .i64 (x.m), .int .i64 (x.s), .bool (x.gone), .string x.kv.key, .string x.kv.val, .int .i64 (x.kv.create), .int .i64 (x.kv.mod), .int .i64 (x.kv.ver), .int .i64 (x.kv.lease)]) (C' := [.int .i64 (x.m), .int .i64 (x.s), .bool (x.gone), .string x.kv.key, .string x.kv.val, .int .i64 (x.kv.create), .int .i64 (x.kv.mod), .int .i64 (x.kv.ver), .int .i64 (x.kv.lease)]) rfl Ty.ag106 rfl rfl rfl rfl (by simp) rfl) ?_
      rintro _ _ rfl
      refine WP.nil ?_
      refine Out.next ?_
      refine WPc.seq ?_
      refine WPc.region ?_
      refine WP.val rfl rfl rfl (Val.loadAgg (cs := [.int .i64 (x.m), .int .i64 (x.s), .bool (x.gone), .string x.kv.key, .string x.kv.val, .int .i64 (x.kv.create), .int .i64 (x.kv.mod), .int .i64 (x.kv.ver), .int .i64 (x.kv.lease)]) rfl Ty.ag106 rfl rfl (fun w h => h.range 0 rfl rfl)) ?_
      refine WP.eff rfl rfl rfl (Eff.call rfl rfl Try.call46 (fits32_spec x)) ?_
      rintro _ _ ⟨_, ⟨b17, rfl, rfl⟩, rfl⟩
      show WP _ _ _ _ _ _ _ (Blk b1 [.int .i64 (x.m), .int .i64 (x.s), .bool (x.gone), .string x.kv.key, .string x.kv.val, .int .i64 (x.kv.create), .int .i64 (x.kv.mod), .int .i64 (x.kv.ver), .int .i64 (x.kv.lease)] 106 :: A :: F)
      refine WP.val rfl rfl rfl (Val.not rfl rfl) ?_
      refine WP.nil ?_
      refine Out.next ?_
      refine WPc.cond rfl (fun h3 => ?_) (fun h3 => ?_)
      · skip
        have h3 : (!b17) = true := h3
        refine WPc.seq ?_
        refine WPc.region ?_
        refine WP.val rfl rfl rfl (Val.assign rfl rfl) ?_
        refine WP.nil ?_
        refine Out.next ?_
        refine WPc.ret ?_
        refine Out.block_ret ?_
        refine Out.then_ret ?_
        refine Out.then_ret ?_
        refine Out.block_ret ?_
        refine Out.then_ret ?_
        refine Out.drop ?_
        exact Out.ret1 (L' := [A]) Try.results17 rfl ⟨_, rfl, rfl⟩ (fun _ h => h)
      · skip
        have h3 : (!b17) = false := h3
        refine WPc.skip ?_
        refine Out.block ?_
        refine Out.next ?_
        refine WPc.region ?_
        refine WP.val rfl rfl rfl (Val.add (z := ((i + 1 : Nat) : Int)) rfl rfl rfl ((w64 (by omega) (by omega)).trans (by omega))) ?_
        refine WP.val rfl rfl rfl (Val.move rfl rfl) ?_
        refine WP.nil ?_
        refine Out.drop ?_
        refine Out.again (i + 1) ?_ ?_ ?_ ?_
        · exact (by first | omega | (dsimp only; omega))
        · first | omega | (dsimp only; omega)
        · exact (Sub.cons rfl (Sub.cons rfl (Sub.cons rfl Sub.nil)))
        · exact (fun _ h => h)
    · skip
      have h2 : ¬ (((i : Nat) : Int) < (((l).length : Nat) : Int)) := h2
      refine WPc.exit ?_
      refine Out.then_exit ?_
      refine Out.then_exit ?_
      refine Out.block_exit ?_
      refine Out.next ?_
      refine WPc.seq ?_
      refine WPc.region ?_
      refine WP.val rfl rfl rfl (Val.assign rfl rfl) ?_
      refine WP.nil ?_
      refine Out.next ?_
      refine WPc.ret ?_
      exact Out.ret1 (L' := [A]) Try.results17 rfl ⟨_, rfl, rfl⟩ (fun _ h => h)

theorem fits31_spec (A : HProp) (l : List Rw) (hl : l.length ≤ 9223372036854775807) (va : Value) (hva : Rd A 9 Rw.cells va l) : Does Try.prog 17 [va] [A] (fun v L => ∃ b, v = .bool b ∧ L = [A]) := by
  rcases hva with ⟨b0, o0, c0, rfl, hr⟩ | ⟨rfl, a, c, rfl⟩
  · exact fits31_row A l hl b0 o0 c0 hr
  · exact fits31_nil A a c
set_option maxRecDepth 100000 in
set_option maxHeartbeats 1000000 in
theorem good_nil (A : HProp) (a : Option Addr) (c : Nat) : Does Try.prog 47 [.slice a 0 c] [A] (fun v L => ∃ b, v = .bool b ∧ (b = true → 0 ≤ 200 ∧ ∀ x ∈ ([] : List Rw), RoOk x) ∧ L = [A]) := by
  refine Does.enter 112 Try.func47 rfl rfl rfl fun W F => ?_
  show WPc _ _ _ _ _ [(0, .slice a 0 c)] (A :: F)
  refine WPc.seq ?_
  refine WPc.region ?_
  refine WP.val rfl rfl rfl (Val.assign rfl rfl) ?_
  refine WP.nil ?_
  refine Out.next ?_
  refine WPc.seq ?_
  refine WPc.seq ?_
  refine WPc.region ?_
  refine WP.val rfl rfl rfl (Val.move rfl rfl) ?_
  refine WP.val rfl rfl rfl (Val.len rfl Ty.sl42 rfl) ?_
  refine WP.val rfl rfl rfl (Val.gtr rfl rfl rfl) ?_
  refine WP.nil ?_
  refine Out.next ?_
  refine WPc.ifP rfl (fun h1 => ?_) (fun h1 => ?_)
  · skip
    have h1 : ((200 : Int) < (0 : Int)) := h1
    exfalso; first | omega | (simp at *; done) | (simp at *; omega)
  · skip
    have h1 : ¬ ((200 : Int) < (0 : Int)) := h1
    refine WPc.skip ?_
    refine Out.next ?_
    refine WPc.seq ?_
    refine WPc.seq ?_
    refine WPc.region ?_
    refine WP.val rfl rfl rfl (Val.move rfl rfl) ?_
    refine WP.val rfl rfl rfl (Val.len rfl Ty.sl42 rfl) ?_
    refine WP.val rfl rfl rfl (Val.move rfl rfl) ?_
    refine WP.nil ?_
    refine Out.next ?_
    refine WPc.block ?_
    refine WPc.loop (ι := Nat) (fun i => i ≤ (([] : List Rw)).length ∧ ∀ (k : Nat) x, k < i → (([] : List Rw))[k]? = some x → RoOk x) (fun i => [(0, .slice a 0 c), (8, .slice a 0 c), (9, .int .i64 ((((([] : List Rw)).length : Nat) : Int))), (10, .int .i64 (((i : Nat) : Int)))]) (fun i => A :: F) (fun i => (([] : List Rw)).length - i) 0 ⟨Nat.zero_le _, fun k x hk => by omega⟩ ((Sub.cons rfl (Sub.cons rfl (Sub.cons rfl (Sub.cons rfl Sub.nil))))) (fun _ h => h) ?_
    rintro i ⟨hi, hg⟩
    show WPc _ _ _ _ _ [(0, .slice a 0 c), (8, .slice a 0 c), (9, .int .i64 ((((([] : List Rw)).length : Nat) : Int))), (10, .int .i64 (((i : Nat) : Int)))] (A :: F)
    replace hi : i ≤ (([] : List Rw)).length := hi
    refine WPc.seq ?_
    refine WPc.region ?_
    refine WP.val rfl rfl rfl (Val.lss rfl rfl rfl) ?_
    refine WP.nil ?_
    refine Out.next ?_
    refine WPc.seq ?_
    refine WPc.ifP rfl (fun h2 => ?_) (fun h2 => ?_)
    · skip
      have h2 : (((i : Nat) : Int) < (((([] : List Rw)).length : Nat) : Int)) := h2
      exfalso; simp at *; omega
    · skip
      have h2 : ¬ (((i : Nat) : Int) < (((([] : List Rw)).length : Nat) : Int)) := h2
      refine WPc.exit ?_
      refine Out.then_exit ?_
      refine Out.then_exit ?_
      refine Out.block_exit ?_
      refine Out.next ?_
      refine WPc.seq ?_
      refine WPc.region ?_
      refine WP.val rfl rfl rfl (Val.assign rfl rfl) ?_
      refine WP.nil ?_
      refine Out.next ?_
      refine WPc.ret ?_
      exact Out.ret1 (L' := [A]) Try.results47 rfl ⟨true, rfl, (fun _ => ⟨by first | omega | (simp at *; done), fun x hx => by obtain ⟨k, hk⟩ := List.mem_iff_getElem?.1 hx; exact hg k x (by have := (List.getElem?_eq_some_iff.1 hk).1; omega) hk⟩), rfl⟩ (fun _ h => h)

set_option maxRecDepth 100000 in
set_option maxHeartbeats 1000000 in
theorem good_row (A : HProp) (l : List Rw) (hl : l.length ≤ 9223372036854775807) (b0 o0 c0 : Nat) (hr : ∀ w, Holds A w → ∀ i x, l[i]? = some x → w.rangeAt b0 (o0 + i * 9) (Rw.cells x)) : Does Try.prog 47 [.slice (some ⟨b0, o0, none⟩) l.length c0] [A] (fun v L => ∃ b, v = .bool b ∧ (b = true → l.length ≤ 200 ∧ ∀ x ∈ l, RoOk x) ∧ L = [A]) := by
  refine Does.enter 112 Try.func47 rfl rfl rfl fun W F => ?_
  show WPc _ _ _ _ _ [(0, .slice (some ⟨b0, o0, none⟩) l.length c0)] (A :: F)
  refine WPc.seq ?_
  refine WPc.region ?_
  refine WP.val rfl rfl rfl (Val.assign rfl rfl) ?_
  refine WP.nil ?_
  refine Out.next ?_
  refine WPc.seq ?_
  refine WPc.seq ?_
  refine WPc.region ?_
  refine WP.val rfl rfl rfl (Val.move rfl rfl) ?_
  refine WP.val rfl rfl rfl (Val.len rfl Ty.sl42 rfl) ?_
  refine WP.val rfl rfl rfl (Val.gtr rfl rfl rfl) ?_
  refine WP.nil ?_
  refine Out.next ?_
  refine WPc.ifP rfl (fun h1 => ?_) (fun h1 => ?_)
  · skip
    have h1 : ((200 : Int) < ((l.length : Nat) : Int)) := h1
    refine WPc.seq ?_
    refine WPc.region ?_
    refine WP.val rfl rfl rfl (Val.assign rfl rfl) ?_
    refine WP.nil ?_
    refine Out.next ?_
    refine WPc.ret ?_
    refine Out.then_ret ?_
    exact Out.ret1 (L' := [A]) Try.results47 rfl ⟨false, rfl, (fun h => by cases h), rfl⟩ (fun _ h => h)
  · skip
    have h1 : ¬ ((200 : Int) < ((l.length : Nat) : Int)) := h1
    refine WPc.skip ?_
    refine Out.next ?_
    refine WPc.seq ?_
    refine WPc.seq ?_
    refine WPc.region ?_
    refine WP.val rfl rfl rfl (Val.move rfl rfl) ?_
    refine WP.val rfl rfl rfl (Val.len rfl Ty.sl42 rfl) ?_
    refine WP.val rfl rfl rfl (Val.move rfl rfl) ?_
    refine WP.nil ?_
    refine Out.next ?_
    refine WPc.block ?_
    refine WPc.loop (ι := Nat) (fun i => i ≤ (l).length ∧ ∀ (k : Nat) x, k < i → (l)[k]? = some x → RoOk x) (fun i => [(0, .slice (some ⟨b0, o0, none⟩) l.length c0), (8, .slice (some ⟨b0, o0, none⟩) l.length c0), (9, .int .i64 ((((l).length : Nat) : Int))), (10, .int .i64 (((i : Nat) : Int)))]) (fun i => A :: F) (fun i => (l).length - i) 0 ⟨Nat.zero_le _, fun k x hk => by omega⟩ ((Sub.cons rfl (Sub.cons rfl (Sub.cons rfl (Sub.cons rfl Sub.nil))))) (fun _ h => h) ?_
    rintro i ⟨hi, hg⟩
    show WPc _ _ _ _ _ [(0, .slice (some ⟨b0, o0, none⟩) l.length c0), (8, .slice (some ⟨b0, o0, none⟩) l.length c0), (9, .int .i64 ((((l).length : Nat) : Int))), (10, .int .i64 (((i : Nat) : Int)))] (A :: F)
    replace hi : i ≤ (l).length := hi
    refine WPc.seq ?_
    refine WPc.region ?_
    refine WP.val rfl rfl rfl (Val.lss rfl rfl rfl) ?_
    refine WP.nil ?_
    refine Out.next ?_
    refine WPc.seq ?_
    refine WPc.ifP rfl (fun h2 => ?_) (fun h2 => ?_)
    · skip
      have h2 : (((i : Nat) : Int) < (((l).length : Nat) : Int)) := h2
      refine WPc.skip ?_
      refine Out.next ?_
      refine WPc.seq ?_
      refine WPc.block ?_
      refine WPc.seq ?_
      have hlt : i < l.length := by omega
      obtain ⟨x, hx⟩ : ∃ x, l[i]? = some x := ⟨_, List.getElem?_eq_getElem hlt⟩
      refine WPc.region ?_
      refine WP.val rfl rfl rfl (Val.move rfl rfl) ?_
      refine WP.val rfl rfl rfl (Val.indexAddr (j := i) (q := o0 + i * 9) rfl Ty.sl42 rfl rfl (by omega) (by omega) (by omega)) ?_
      refine WP.val rfl rfl rfl (Val.loadAgg (cs := (Rw.cells x)) rfl Ty.ag106 rfl (by rfl) (fun w h => hr w (h.at 0 rfl) i x hx)) ?_
      refine WP.eff rfl rfl rfl (Eff.alloc rfl Ty.z106) ?_
      rintro _ _ ⟨b1, rfl, rfl⟩
      refine WP.val rfl rfl rfl (Val.assign rfl rfl) ?_
      refine WP.eff0 rfl rfl (Eff.storeAgg (cs := [.int .i64 (x.m), .int .i64 (x.s), .bool (x.gone), .string x.kv.key, .string x.kv.val, .int .i64 (x.kv.create), .int .i64 (x.kv.mod), .int .i64 (x.kv.ver), .int .i64 (x.kv.lease)]) (C' := [.int .i64 (x.m), .int .i64 (x.s), .bool (x.gone), .string x.kv.key, .string x.kv.val, .int .i64 (x.kv.create), .int .i64 (x.kv.mod), .int .i64 (x.kv.ver), .int .i64 (x.kv.lease)]) rfl Ty.ag106 rfl rfl rfl rfl (by simp) rfl) ?_
      rintro _ _ rfl
      refine WP.nil ?_
      refine Out.next ?_
      refine WPc.seq ?_
      refine WPc.seq ?_
      refine WPD.start (Sat W (Blk b1 [.int .i64 (x.m), .int .i64 (x.s), .bool (x.gone), .string x.kv.key, .string x.kv.val, .int .i64 (x.kv.create), .int .i64 (x.kv.mod), .int .i64 (x.kv.ver), .int .i64 (x.kv.lease)] 106 :: A :: F)) Ty.mixed ?_
      refine WPD.takeM 0 rfl rfl rfl rfl (by kernel_rfl) (by kernel_rfl) (by kernel_rfl) (by kernel_rfl) (fun _ _ _ h => h) (fun _ h => h) (Val.fieldAddr (j := 0) rfl Ty.fo106_0 rfl rfl) ?_
      refine WPD.takeM 1 rfl rfl rfl rfl (by kernel_rfl) (by kernel_rfl) (by kernel_rfl) (by kernel_rfl) (fun _ _ _ h => h) (fun _ h => h) (Val.fieldAddr (j := 0) rfl Ty.fo47_0 rfl rfl) ?_
      refine WPD.take 2 rfl rfl rfl rfl (by kernel_rfl) (by kernel_rfl) (by kernel_rfl) (by kernel_rfl) (fun _ _ _ h => h) (by kernel_rfl) (fun _ h => h) (Val.load rfl Ty.sc2 rfl (fun w h => h.cell 0 rfl rfl)) ?_
      refine WPD.take 3 rfl rfl rfl rfl (by kernel_rfl) (by kernel_rfl) (by kernel_rfl) (by kernel_rfl) (fun _ _ _ h => h) (by kernel_rfl) (fun _ h => h) (Val.lss rfl rfl rfl) ?_
      refine WPD.takeM 4 rfl rfl rfl rfl (by kernel_rfl) (by kernel_rfl) (by kernel_rfl) (by kernel_rfl) (fun _ _ _ h => h) (fun _ h => h) (Val.move rfl rfl) ?_
      refine WPD.split 19 rfl (fun h3 => ?_) (fun h3 => ?_)
      · skip
        have h3 : (x.m < (1 : Int)) := h3
        refine WPD.skip 5 rfl rfl rfl rfl rfl rfl rfl rfl (by kernel_rfl) (by kernel_rfl) (by kernel_rfl) (by kernel_rfl) (fun _ _ _ h => h) (fun _ h => h) ?_
        refine WPD.skip 6 rfl rfl rfl rfl rfl rfl rfl rfl (by kernel_rfl) (by kernel_rfl) (by kernel_rfl) (by kernel_rfl) (fun _ _ _ h => h) (fun _ h => h) ?_
        refine WPD.skip 7 rfl rfl rfl rfl rfl rfl rfl rfl (by kernel_rfl) (by kernel_rfl) (by kernel_rfl) (by kernel_rfl) (fun _ _ _ h => h) (fun _ h => h) ?_
        refine WPD.skip 8 rfl rfl rfl rfl rfl rfl rfl rfl (by kernel_rfl) (by kernel_rfl) (by kernel_rfl) (by kernel_rfl) (fun _ _ _ h => h) (fun _ h => h) ?_
        refine WPD.takeM 9 rfl rfl rfl rfl (by kernel_rfl) (by kernel_rfl) (by kernel_rfl) (by kernel_rfl) (fun _ _ _ h => h) (fun _ h => h) (Val.pickT rfl rfl rfl) ?_
        refine WPD.takeM 10 rfl rfl rfl rfl (by kernel_rfl) (by kernel_rfl) (by kernel_rfl) (by kernel_rfl) (fun _ _ _ h => h) (fun _ h => h) (Val.move rfl rfl) ?_
        refine WPD.skip 11 rfl rfl rfl rfl rfl rfl rfl rfl (by kernel_rfl) (by kernel_rfl) (by kernel_rfl) (by kernel_rfl) (fun _ _ _ h => h) (fun _ h => h) ?_
        refine WPD.skip 12 rfl rfl rfl rfl rfl rfl rfl rfl (by kernel_rfl) (by kernel_rfl) (by kernel_rfl) (by kernel_rfl) (fun _ _ _ h => h) (fun _ h => h) ?_
        refine WPD.skip 13 rfl rfl rfl rfl rfl rfl rfl rfl (by kernel_rfl) (by kernel_rfl) (by kernel_rfl) (by kernel_rfl) (fun _ _ _ h => h) (fun _ h => h) ?_
        refine WPD.skipU 14 rfl rfl rfl rfl rfl rfl rfl (by kernel_rfl) (by kernel_rfl) (by kernel_rfl) (by kernel_rfl) (fun _ _ _ h => h) (fun _ h => h) ?_
        refine WPD.skipU 15 rfl rfl rfl rfl rfl rfl rfl (by kernel_rfl) (by kernel_rfl) (by kernel_rfl) (by kernel_rfl) (fun _ _ _ h => h) (fun _ h => h) ?_
        refine WPD.skipU 16 rfl rfl rfl rfl rfl rfl rfl (by kernel_rfl) (by kernel_rfl) (by kernel_rfl) (by kernel_rfl) (fun _ _ _ h => h) (fun _ h => h) ?_
        refine WPD.skipU 17 rfl rfl rfl rfl rfl rfl rfl (by kernel_rfl) (by kernel_rfl) (by kernel_rfl) (by kernel_rfl) (fun _ _ _ h => h) (fun _ h => h) ?_
        refine WPD.skipU 18 rfl rfl rfl rfl rfl rfl rfl (by kernel_rfl) (by kernel_rfl) (by kernel_rfl) (by kernel_rfl) (fun _ _ _ h => h) (fun _ h => h) ?_
        refine WPD.skipU 19 rfl rfl rfl rfl rfl rfl rfl (by kernel_rfl) (by kernel_rfl) (by kernel_rfl) (by kernel_rfl) (fun _ _ _ h => h) (fun _ h => h) ?_
        refine WPD.skipU 20 rfl rfl rfl rfl rfl rfl rfl (by kernel_rfl) (by kernel_rfl) (by kernel_rfl) (by kernel_rfl) (fun _ _ _ h => h) (fun _ h => h) ?_
        refine WPD.skipU 21 rfl rfl rfl rfl rfl rfl rfl (by kernel_rfl) (by kernel_rfl) (by kernel_rfl) (by kernel_rfl) (fun _ _ _ h => h) (fun _ h => h) ?_
        refine WPD.skipU 22 rfl rfl rfl rfl rfl rfl rfl (by kernel_rfl) (by kernel_rfl) (by kernel_rfl) (by kernel_rfl) (fun _ _ _ h => h) (fun _ h => h) ?_
        refine WPD.skipU 23 rfl rfl rfl rfl rfl rfl rfl (by kernel_rfl) (by kernel_rfl) (by kernel_rfl) (by kernel_rfl) (fun _ _ _ h => h) (fun _ h => h) ?_
        refine WPD.skip 24 rfl rfl rfl rfl rfl rfl rfl rfl (by kernel_rfl) (by kernel_rfl) (by kernel_rfl) (by kernel_rfl) (fun _ _ _ h => h) (fun _ h => h) ?_
        refine WPD.takeM 25 rfl rfl rfl rfl (by kernel_rfl) (by kernel_rfl) (by kernel_rfl) (by kernel_rfl) (fun _ _ _ h => h) (fun _ h => h) (Val.pickT rfl rfl rfl) ?_
        refine WPD.takeM 26 rfl rfl rfl rfl (by kernel_rfl) (by kernel_rfl) (by kernel_rfl) (by kernel_rfl) (fun _ _ _ h => h) (fun _ h => h) (Val.move rfl rfl) ?_
        refine WPD.skip 27 rfl rfl rfl rfl rfl rfl rfl rfl (by kernel_rfl) (by kernel_rfl) (by kernel_rfl) (by kernel_rfl) (fun _ _ _ h => h) (fun _ h => h) ?_
        refine WPD.skip 28 rfl rfl rfl rfl rfl rfl rfl rfl (by kernel_rfl) (by kernel_rfl) (by kernel_rfl) (by kernel_rfl) (fun _ _ _ h => h) (fun _ h => h) ?_
        refine WPD.skip 29 rfl rfl rfl rfl rfl rfl rfl rfl (by kernel_rfl) (by kernel_rfl) (by kernel_rfl) (by kernel_rfl) (fun _ _ _ h => h) (fun _ h => h) ?_
        refine WPD.skip 30 rfl rfl rfl rfl rfl rfl rfl rfl (by kernel_rfl) (by kernel_rfl) (by kernel_rfl) (by kernel_rfl) (fun _ _ _ h => h) (fun _ h => h) ?_
        refine WPD.takeM 31 rfl rfl rfl rfl (by kernel_rfl) (by kernel_rfl) (by kernel_rfl) (by kernel_rfl) (fun _ _ _ h => h) (fun _ h => h) (Val.pickT rfl rfl rfl) ?_
        refine WPD.takeM 32 rfl rfl rfl rfl (by kernel_rfl) (by kernel_rfl) (by kernel_rfl) (by kernel_rfl) (fun _ _ _ h => h) (fun _ h => h) (Val.move rfl rfl) ?_
        refine WPD.skip 33 rfl rfl rfl rfl rfl rfl rfl rfl (by kernel_rfl) (by kernel_rfl) (by kernel_rfl) (by kernel_rfl) (fun _ _ _ h => h) (fun _ h => h) ?_
        refine WPD.skip 34 rfl rfl rfl rfl rfl rfl rfl rfl (by kernel_rfl) (by kernel_rfl) (by kernel_rfl) (by kernel_rfl) (fun _ _ _ h => h) (fun _ h => h) ?_
        refine WPD.skip 35 rfl rfl rfl rfl rfl rfl rfl rfl (by kernel_rfl) (by kernel_rfl) (by kernel_rfl) (by kernel_rfl) (fun _ _ _ h => h) (fun _ h => h) ?_
        refine WPD.skip 36 rfl rfl rfl rfl rfl rfl rfl rfl (by kernel_rfl) (by kernel_rfl) (by kernel_rfl) (by kernel_rfl) (fun _ _ _ h => h) (fun _ h => h) ?_
        refine WPD.skip 37 rfl rfl rfl rfl rfl rfl rfl rfl (by kernel_rfl) (by kernel_rfl) (by kernel_rfl) (by kernel_rfl) (fun _ _ _ h => h) (fun _ h => h) ?_
        refine WPD.takeM 38 rfl rfl rfl rfl (by kernel_rfl) (by kernel_rfl) (by kernel_rfl) (by kernel_rfl) (fun _ _ _ h => h) (fun _ h => h) (Val.pickT rfl rfl rfl) ?_
        refine WPD.takeM 39 rfl rfl rfl rfl (by kernel_rfl) (by kernel_rfl) (by kernel_rfl) (by kernel_rfl) (fun _ _ _ h => h) (fun _ h => h) (Val.move rfl rfl) ?_
        refine WPD.skip 40 rfl rfl rfl rfl rfl rfl rfl rfl (by kernel_rfl) (by kernel_rfl) (by kernel_rfl) (by kernel_rfl) (fun _ _ _ h => h) (fun _ h => h) ?_
        refine WPD.skip 41 rfl rfl rfl rfl rfl rfl rfl rfl (by kernel_rfl) (by kernel_rfl) (by kernel_rfl) (by kernel_rfl) (fun _ _ _ h => h) (fun _ h => h) ?_
        refine WPD.skip 42 rfl rfl rfl rfl rfl rfl rfl rfl (by kernel_rfl) (by kernel_rfl) (by kernel_rfl) (by kernel_rfl) (fun _ _ _ h => h) (fun _ h => h) ?_
        refine WPD.skip 43 rfl rfl rfl rfl rfl rfl rfl rfl (by kernel_rfl) (by kernel_rfl) (by kernel_rfl) (by kernel_rfl) (fun _ _ _ h => h) (fun _ h => h) ?_
        refine WPD.skip 44 rfl rfl rfl rfl rfl rfl rfl rfl (by kernel_rfl) (by kernel_rfl) (by kernel_rfl) (by kernel_rfl) (fun _ _ _ h => h) (fun _ h => h) ?_
        refine WPD.takeM 45 rfl rfl rfl rfl (by kernel_rfl) (by kernel_rfl) (by kernel_rfl) (by kernel_rfl) (fun _ _ _ h => h) (fun _ h => h) (Val.pickT rfl rfl rfl) ?_
        refine WPD.done (by kernel_rfl) ?_
        refine Out.next ?_
        refine WPc.condT rfl rfl ?_
        refine WPc.seq ?_
        refine WPc.region ?_
        refine WP.val rfl rfl rfl (Val.assign rfl rfl) ?_
        refine WP.nil ?_
        refine Out.next ?_
        refine WPc.ret ?_
        refine Out.then_ret ?_
        refine Out.block_ret ?_
        refine Out.then_ret ?_
        refine Out.then_ret ?_
        refine Out.block_ret ?_
        refine Out.then_ret ?_
        refine Out.drop ?_
        exact Out.ret1 (L' := [A]) Try.results47 rfl ⟨false, rfl, (fun h => by cases h), rfl⟩ (fun _ h => h)
      · skip
        have h3 : ¬ (x.m < (1 : Int)) := h3
        refine WPD.takeGM 5 rfl rfl rfl rfl rfl rfl rfl rfl (by kernel_rfl) (by kernel_rfl) (by kernel_rfl) (by kernel_rfl) (fun _ _ _ h => h) (fun _ h => h) (Val.fieldAddr (j := 0) rfl Ty.fo106_0 rfl rfl) ?_
        refine WPD.takeGM 6 rfl rfl rfl rfl rfl rfl rfl rfl (by kernel_rfl) (by kernel_rfl) (by kernel_rfl) (by kernel_rfl) (fun _ _ _ h => h) (fun _ h => h) (Val.fieldAddr (j := 1) rfl Ty.fo47_1 rfl rfl) ?_
        refine WPD.takeG 7 rfl rfl rfl rfl rfl rfl rfl rfl (by kernel_rfl) (by kernel_rfl) (by kernel_rfl) (by kernel_rfl) (fun _ _ _ h => h) (by kernel_rfl) (fun _ h => h) (Val.load rfl Ty.sc2 rfl (fun w h => h.cell 0 rfl rfl)) ?_
        refine WPD.takeG 8 rfl rfl rfl rfl rfl rfl rfl rfl (by kernel_rfl) (by kernel_rfl) (by kernel_rfl) (by kernel_rfl) (fun _ _ _ h => h) (by kernel_rfl) (fun _ h => h) (Val.lss rfl rfl rfl) ?_
        refine WPD.takeM 9 rfl rfl rfl rfl (by kernel_rfl) (by kernel_rfl) (by kernel_rfl) (by kernel_rfl) (fun _ _ _ h => h) (fun _ h => h) (Val.pickF rfl rfl rfl) ?_
        refine WPD.takeM 10 rfl rfl rfl rfl (by kernel_rfl) (by kernel_rfl) (by kernel_rfl) (by kernel_rfl) (fun _ _ _ h => h) (fun _ h => h) (Val.move rfl rfl) ?_
        refine WPD.split 25 rfl (fun h4 => ?_) (fun h4 => ?_)
        · skip
          have h4 : (x.s < (0 : Int)) := h4
          refine WPD.skip 11 rfl rfl rfl rfl rfl rfl rfl rfl (by kernel_rfl) (by kernel_rfl) (by kernel_rfl) (by kernel_rfl) (fun _ _ _ h => h) (fun _ h => h) ?_
          refine WPD.skip 12 rfl rfl rfl rfl rfl rfl rfl rfl (by kernel_rfl) (by kernel_rfl) (by kernel_rfl) (by kernel_rfl) (fun _ _ _ h => h) (fun _ h => h) ?_
          refine WPD.skip 13 rfl rfl rfl rfl rfl rfl rfl rfl (by kernel_rfl) (by kernel_rfl) (by kernel_rfl) (by kernel_rfl) (fun _ _ _ h => h) (fun _ h => h) ?_
          refine WPD.skipU 14 rfl rfl rfl rfl rfl rfl rfl (by kernel_rfl) (by kernel_rfl) (by kernel_rfl) (by kernel_rfl) (fun _ _ _ h => h) (fun _ h => h) ?_
          refine WPD.skipU 15 rfl rfl rfl rfl rfl rfl rfl (by kernel_rfl) (by kernel_rfl) (by kernel_rfl) (by kernel_rfl) (fun _ _ _ h => h) (fun _ h => h) ?_
          refine WPD.skipU 16 rfl rfl rfl rfl rfl rfl rfl (by kernel_rfl) (by kernel_rfl) (by kernel_rfl) (by kernel_rfl) (fun _ _ _ h => h) (fun _ h => h) ?_
          refine WPD.skipU 17 rfl rfl rfl rfl rfl rfl rfl (by kernel_rfl) (by kernel_rfl) (by kernel_rfl) (by kernel_rfl) (fun _ _ _ h => h) (fun _ h => h) ?_
          refine WPD.skipU 18 rfl rfl rfl rfl rfl rfl rfl (by kernel_rfl) (by kernel_rfl) (by kernel_rfl) (by kernel_rfl) (fun _ _ _ h => h) (fun _ h => h) ?_
          refine WPD.skipU 19 rfl rfl rfl rfl rfl rfl rfl (by kernel_rfl) (by kernel_rfl) (by kernel_rfl) (by kernel_rfl) (fun _ _ _ h => h) (fun _ h => h) ?_
          refine WPD.skipU 20 rfl rfl rfl rfl rfl rfl rfl (by kernel_rfl) (by kernel_rfl) (by kernel_rfl) (by kernel_rfl) (fun _ _ _ h => h) (fun _ h => h) ?_
          refine WPD.skipU 21 rfl rfl rfl rfl rfl rfl rfl (by kernel_rfl) (by kernel_rfl) (by kernel_rfl) (by kernel_rfl) (fun _ _ _ h => h) (fun _ h => h) ?_
          refine WPD.skipU 22 rfl rfl rfl rfl rfl rfl rfl (by kernel_rfl) (by kernel_rfl) (by kernel_rfl) (by kernel_rfl) (fun _ _ _ h => h) (fun _ h => h) ?_
          refine WPD.skipU 23 rfl rfl rfl rfl rfl rfl rfl (by kernel_rfl) (by kernel_rfl) (by kernel_rfl) (by kernel_rfl) (fun _ _ _ h => h) (fun _ h => h) ?_
          refine WPD.skip 24 rfl rfl rfl rfl rfl rfl rfl rfl (by kernel_rfl) (by kernel_rfl) (by kernel_rfl) (by kernel_rfl) (fun _ _ _ h => h) (fun _ h => h) ?_
          refine WPD.takeM 25 rfl rfl rfl rfl (by kernel_rfl) (by kernel_rfl) (by kernel_rfl) (by kernel_rfl) (fun _ _ _ h => h) (fun _ h => h) (Val.pickT rfl rfl rfl) ?_
          refine WPD.takeM 26 rfl rfl rfl rfl (by kernel_rfl) (by kernel_rfl) (by kernel_rfl) (by kernel_rfl) (fun _ _ _ h => h) (fun _ h => h) (Val.move rfl rfl) ?_
          refine WPD.skip 27 rfl rfl rfl rfl rfl rfl rfl rfl (by kernel_rfl) (by kernel_rfl) (by kernel_rfl) (by kernel_rfl) (fun _ _ _ h => h) (fun _ h => h) ?_
          refine WPD.skip 28 rfl rfl rfl rfl rfl rfl rfl rfl (by kernel_rfl) (by kernel_rfl) (by kernel_rfl) (by kernel_rfl) (fun _ _ _ h => h) (fun _ h => h) ?_
          refine WPD.skip 29 rfl rfl rfl rfl rfl rfl rfl rfl (by kernel_rfl) (by kernel_rfl) (by kernel_rfl) (by kernel_rfl) (fun _ _ _ h => h) (fun _ h => h) ?_
          refine WPD.skip 30 rfl rfl rfl rfl rfl rfl rfl rfl (by kernel_rfl) (by kernel_rfl) (by kernel_rfl) (by kernel_rfl) (fun _ _ _ h => h) (fun _ h => h) ?_
          refine WPD.takeM 31 rfl rfl rfl rfl (by kernel_rfl) (by kernel_rfl) (by kernel_rfl) (by kernel_rfl) (fun _ _ _ h => h) (fun _ h => h) (Val.pickT rfl rfl rfl) ?_
          refine WPD.takeM 32 rfl rfl rfl rfl (by kernel_rfl) (by kernel_rfl) (by kernel_rfl) (by kernel_rfl) (fun _ _ _ h => h) (fun _ h => h) (Val.move rfl rfl) ?_
          refine WPD.skip 33 rfl rfl rfl rfl rfl rfl rfl rfl (by kernel_rfl) (by kernel_rfl) (by kernel_rfl) (by kernel_rfl) (fun _ _ _ h => h) (fun _ h => h) ?_
          refine WPD.skip 34 rfl rfl rfl rfl rfl rfl rfl rfl (by kernel_rfl) (by kernel_rfl) (by kernel_rfl) (by kernel_rfl) (fun _ _ _ h => h) (fun _ h => h) ?_
          refine WPD.skip 35 rfl rfl rfl rfl rfl rfl rfl rfl (by kernel_rfl) (by kernel_rfl) (by kernel_rfl) (by kernel_rfl) (fun _ _ _ h => h) (fun _ h => h) ?_
          refine WPD.skip 36 rfl rfl rfl rfl rfl rfl rfl rfl (by kernel_rfl) (by kernel_rfl) (by kernel_rfl) (by kernel_rfl) (fun _ _ _ h => h) (fun _ h => h) ?_
          refine WPD.skip 37 rfl rfl rfl rfl rfl rfl rfl rfl (by kernel_rfl) (by kernel_rfl) (by kernel_rfl) (by kernel_rfl) (fun _ _ _ h => h) (fun _ h => h) ?_
          refine WPD.takeM 38 rfl rfl rfl rfl (by kernel_rfl) (by kernel_rfl) (by kernel_rfl) (by kernel_rfl) (fun _ _ _ h => h) (fun _ h => h) (Val.pickT rfl rfl rfl) ?_
          refine WPD.takeM 39 rfl rfl rfl rfl (by kernel_rfl) (by kernel_rfl) (by kernel_rfl) (by kernel_rfl) (fun _ _ _ h => h) (fun _ h => h) (Val.move rfl rfl) ?_
          refine WPD.skip 40 rfl rfl rfl rfl rfl rfl rfl rfl (by kernel_rfl) (by kernel_rfl) (by kernel_rfl) (by kernel_rfl) (fun _ _ _ h => h) (fun _ h => h) ?_
          refine WPD.skip 41 rfl rfl rfl rfl rfl rfl rfl rfl (by kernel_rfl) (by kernel_rfl) (by kernel_rfl) (by kernel_rfl) (fun _ _ _ h => h) (fun _ h => h) ?_
          refine WPD.skip 42 rfl rfl rfl rfl rfl rfl rfl rfl (by kernel_rfl) (by kernel_rfl) (by kernel_rfl) (by kernel_rfl) (fun _ _ _ h => h) (fun _ h => h) ?_
          refine WPD.skip 43 rfl rfl rfl rfl rfl rfl rfl rfl (by kernel_rfl) (by kernel_rfl) (by kernel_rfl) (by kernel_rfl) (fun _ _ _ h => h) (fun _ h => h) ?_
          refine WPD.skip 44 rfl rfl rfl rfl rfl rfl rfl rfl (by kernel_rfl) (by kernel_rfl) (by kernel_rfl) (by kernel_rfl) (fun _ _ _ h => h) (fun _ h => h) ?_
          refine WPD.takeM 45 rfl rfl rfl rfl (by kernel_rfl) (by kernel_rfl) (by kernel_rfl) (by kernel_rfl) (fun _ _ _ h => h) (fun _ h => h) (Val.pickT rfl rfl rfl) ?_
          refine WPD.done (by kernel_rfl) ?_
          refine Out.next ?_
          refine WPc.condT rfl rfl ?_
          refine WPc.seq ?_
          refine WPc.region ?_
          refine WP.val rfl rfl rfl (Val.assign rfl rfl) ?_
          refine WP.nil ?_
          refine Out.next ?_
          refine WPc.ret ?_
          refine Out.then_ret ?_
          refine Out.block_ret ?_
          refine Out.then_ret ?_
          refine Out.then_ret ?_
          refine Out.block_ret ?_
          refine Out.then_ret ?_
          refine Out.drop ?_
          exact Out.ret1 (L' := [A]) Try.results47 rfl ⟨false, rfl, (fun h => by cases h), rfl⟩ (fun _ h => h)
        · skip
          have h4 : ¬ (x.s < (0 : Int)) := h4
          refine WPD.takeGM 11 rfl rfl rfl rfl rfl rfl rfl rfl (by kernel_rfl) (by kernel_rfl) (by kernel_rfl) (by kernel_rfl) (fun _ _ _ h => h) (fun _ h => h) (Val.move rfl rfl) ?_
          refine WPD.takeG 12 rfl rfl rfl rfl rfl rfl rfl rfl (by kernel_rfl) (by kernel_rfl) (by kernel_rfl) (by kernel_rfl) (fun _ _ _ h => h) (by kernel_rfl) (fun _ h => h) (Val.gtr rfl rfl rfl) ?_
          refine WPD.takeGM 13 rfl rfl rfl rfl rfl rfl rfl rfl (by kernel_rfl) (by kernel_rfl) (by kernel_rfl) (by kernel_rfl) (fun _ _ _ h => h) (fun _ h => h) (Val.move rfl rfl) ?_
          refine WPD.split 28 rfl (fun h5 => ?_) (fun h5 => ?_)
          · skip
            have h5 : ((0 : Int) < ((i : Nat) : Int)) := h5
            refine WPD.takeGM 14 rfl rfl rfl rfl rfl rfl rfl rfl (by kernel_rfl) (by kernel_rfl) (by kernel_rfl) (by kernel_rfl) (fun _ _ _ h => h) (fun _ h => h) (Val.move rfl rfl) ?_
            refine WPD.takeGM 15 rfl rfl rfl rfl rfl rfl rfl rfl (by kernel_rfl) (by kernel_rfl) (by kernel_rfl) (by kernel_rfl) (fun _ _ _ h => h) (fun _ h => h) (Val.move rfl rfl) ?_
            refine WPD.takeG 16 rfl rfl rfl rfl rfl rfl rfl rfl (by kernel_rfl) (by kernel_rfl) (by kernel_rfl) (by kernel_rfl) (fun _ _ _ h => h) (by kernel_rfl) (fun _ h => h) (Val.sub (z := ((i - 1 : Nat) : Int)) rfl rfl rfl ((w64 (by omega) (by omega)).trans (by omega))) ?_
            obtain ⟨y, hy⟩ : ∃ y, l[i - 1]? = some y := ⟨_, List.getElem?_eq_getElem (by omega)⟩
            refine WPD.takeGM 17 rfl rfl rfl rfl rfl rfl rfl rfl (by kernel_rfl) (by kernel_rfl) (by kernel_rfl) (by kernel_rfl) (fun _ _ _ h => h) (fun _ h => h) (Val.indexAddr (j := i - 1) (q := o0 + (i - 1) * 9) rfl Ty.sl42 rfl rfl (by omega) (by omega) (by omega)) ?_
            refine WPD.takeGM 18 rfl rfl rfl rfl rfl rfl rfl rfl (by kernel_rfl) (by kernel_rfl) (by kernel_rfl) (by kernel_rfl) (fun _ _ _ h => h) (fun _ h => h) (Val.fieldAddr (j := o0 + (i - 1) * 9) rfl Ty.fo106_0 rfl rfl) ?_
            refine WPD.takeG 19 rfl rfl rfl rfl rfl rfl rfl rfl (by kernel_rfl) (by kernel_rfl) (by kernel_rfl) (by kernel_rfl) (fun _ _ _ h => h) (by kernel_rfl) (fun _ h => h) (Val.loadAgg (cs := [.int .i64 (y.m), .int .i64 (y.s)]) rfl Ty.ag47 rfl (by rfl) (fun w h => sub_rng (k := 0) rfl (hr w (h.at 1 rfl) (i - 1) y hy))) ?_
            refine WPD.takeGM 20 rfl rfl rfl rfl rfl rfl rfl rfl (by kernel_rfl) (by kernel_rfl) (by kernel_rfl) (by kernel_rfl) (fun _ _ _ h => h) (fun _ h => h) (Val.fieldAddr (j := 0) rfl Ty.fo106_0 rfl rfl) ?_
            refine WPD.takeG 21 rfl rfl rfl rfl rfl rfl rfl rfl (by kernel_rfl) (by kernel_rfl) (by kernel_rfl) (by kernel_rfl) (fun _ _ _ h => h) (by kernel_rfl) (fun _ h => h) (Val.loadAgg (cs := [.int .i64 (x.m), .int .i64 (x.s)]) rfl Ty.ag47 rfl rfl (fun w h => h.range 0 rfl rfl)) ?_
            refine WPD.stepGC 22 (by kernel_rfl) rfl rfl rfl rfl rfl rfl rfl rfl (by kernel_rfl) (Eff.call rfl rfl Try.call64 (less_spec y.m y.s x.m x.s)) ?_
            rintro _ _ ⟨_, ⟨rfl, rfl⟩, rfl⟩
            refine ⟨(Sat W (Blk b1 [.int .i64 (x.m), .int .i64 (x.s), .bool (x.gone), .string x.kv.key, .string x.kv.val, .int .i64 (x.kv.create), .int .i64 (x.kv.mod), .int .i64 (x.kv.ver), .int .i64 (x.kv.lease)] 106 :: A :: F)), (fun _ h => h), ?_⟩
            show WPD _ _ _ _ _ _ _ _ _ (Blk b1 [.int .i64 (x.m), .int .i64 (x.s), .bool (x.gone), .string x.kv.key, .string x.kv.val, .int .i64 (x.kv.create), .int .i64 (x.kv.mod), .int .i64 (x.kv.ver), .int .i64 (x.kv.lease)] 106 :: A :: F)
            refine WPD.takeG 23 rfl rfl rfl rfl rfl rfl rfl rfl (by kernel_rfl) (by kernel_rfl) (by kernel_rfl) (by kernel_rfl) (fun _ _ _ h => h) (by kernel_rfl) (fun _ h => h) (Val.notP rfl rfl) ?_
            refine WPD.takeGM 24 rfl rfl rfl rfl rfl rfl rfl rfl (by kernel_rfl) (by kernel_rfl) (by kernel_rfl) (by kernel_rfl) (fun _ _ _ h => h) (fun _ h => h) (Val.pickT rfl rfl rfl) ?_
            refine WPD.takeM 25 rfl rfl rfl rfl (by kernel_rfl) (by kernel_rfl) (by kernel_rfl) (by kernel_rfl) (fun _ _ _ h => h) (fun _ h => h) (Val.pickF rfl rfl rfl) ?_
            refine WPD.takeM 26 rfl rfl rfl rfl (by kernel_rfl) (by kernel_rfl) (by kernel_rfl) (by kernel_rfl) (fun _ _ _ h => h) (fun _ h => h) (Val.move rfl rfl) ?_
            refine WPD.split 41 rfl (fun h6 => ?_) (fun h6 => ?_)
            · skip
              have h6 : (¬ ((y.m < x.m ∨ (y.m = x.m ∧ y.s < x.s)))) := h6
              refine WPD.skip 27 rfl rfl rfl rfl rfl rfl rfl rfl (by kernel_rfl) (by kernel_rfl) (by kernel_rfl) (by kernel_rfl) (fun _ _ _ h => h) (fun _ h => h) ?_
              refine WPD.skip 28 rfl rfl rfl rfl rfl rfl rfl rfl (by kernel_rfl) (by kernel_rfl) (by kernel_rfl) (by kernel_rfl) (fun _ _ _ h => h) (fun _ h => h) ?_
              refine WPD.skip 29 rfl rfl rfl rfl rfl rfl rfl rfl (by kernel_rfl) (by kernel_rfl) (by kernel_rfl) (by kernel_rfl) (fun _ _ _ h => h) (fun _ h => h) ?_
              refine WPD.skip 30 rfl rfl rfl rfl rfl rfl rfl rfl (by kernel_rfl) (by kernel_rfl) (by kernel_rfl) (by kernel_rfl) (fun _ _ _ h => h) (fun _ h => h) ?_
              refine WPD.takeM 31 rfl rfl rfl rfl (by kernel_rfl) (by kernel_rfl) (by kernel_rfl) (by kernel_rfl) (fun _ _ _ h => h) (fun _ h => h) (Val.pickT rfl rfl rfl) ?_
              refine WPD.takeM 32 rfl rfl rfl rfl (by kernel_rfl) (by kernel_rfl) (by kernel_rfl) (by kernel_rfl) (fun _ _ _ h => h) (fun _ h => h) (Val.move rfl rfl) ?_
              refine WPD.skip 33 rfl rfl rfl rfl rfl rfl rfl rfl (by kernel_rfl) (by kernel_rfl) (by kernel_rfl) (by kernel_rfl) (fun _ _ _ h => h) (fun _ h => h) ?_
              refine WPD.skip 34 rfl rfl rfl rfl rfl rfl rfl rfl (by kernel_rfl) (by kernel_rfl) (by kernel_rfl) (by kernel_rfl) (fun _ _ _ h => h) (fun _ h => h) ?_
              refine WPD.skip 35 rfl rfl rfl rfl rfl rfl rfl rfl (by kernel_rfl) (by kernel_rfl) (by kernel_rfl) (by kernel_rfl) (fun _ _ _ h => h) (fun _ h => h) ?_
              refine WPD.skip 36 rfl rfl rfl rfl rfl rfl rfl rfl (by kernel_rfl) (by kernel_rfl) (by kernel_rfl) (by kernel_rfl) (fun _ _ _ h => h) (fun _ h => h) ?_
              refine WPD.skip 37 rfl rfl rfl rfl rfl rfl rfl rfl (by kernel_rfl) (by kernel_rfl) (by kernel_rfl) (by kernel_rfl) (fun _ _ _ h => h) (fun _ h => h) ?_
              refine WPD.takeM 38 rfl rfl rfl rfl (by kernel_rfl) (by kernel_rfl) (by kernel_rfl) (by kernel_rfl) (fun _ _ _ h => h) (fun _ h => h) (Val.pickT rfl rfl rfl) ?_
              refine WPD.takeM 39 rfl rfl rfl rfl (by kernel_rfl) (by kernel_rfl) (by kernel_rfl) (by kernel_rfl) (fun _ _ _ h => h) (fun _ h => h) (Val.move rfl rfl) ?_
              refine WPD.skip 40 rfl rfl rfl rfl rfl rfl rfl rfl (by kernel_rfl) (by kernel_rfl) (by kernel_rfl) (by kernel_rfl) (fun _ _ _ h => h) (fun _ h => h) ?_
              refine WPD.skip 41 rfl rfl rfl rfl rfl rfl rfl rfl (by kernel_rfl) (by kernel_rfl) (by kernel_rfl) (by kernel_rfl) (fun _ _ _ h => h) (fun _ h => h) ?_
              refine WPD.skip 42 rfl rfl rfl rfl rfl rfl rfl rfl (by kernel_rfl) (by kernel_rfl) (by kernel_rfl) (by kernel_rfl) (fun _ _ _ h => h) (fun _ h => h) ?_
              refine WPD.skip 43 rfl rfl rfl rfl rfl rfl rfl rfl (by kernel_rfl) (by kernel_rfl) (by kernel_rfl) (by kernel_rfl) (fun _ _ _ h => h) (fun _ h => h) ?_
              refine WPD.skip 44 rfl rfl rfl rfl rfl rfl rfl rfl (by kernel_rfl) (by kernel_rfl) (by kernel_rfl) (by kernel_rfl) (fun _ _ _ h => h) (fun _ h => h) ?_
              refine WPD.takeM 45 rfl rfl rfl rfl (by kernel_rfl) (by kernel_rfl) (by kernel_rfl) (by kernel_rfl) (fun _ _ _ h => h) (fun _ h => h) (Val.pickT rfl rfl rfl) ?_
              refine WPD.done (by kernel_rfl) ?_
              refine Out.next ?_
              refine WPc.condT rfl rfl ?_
              refine WPc.seq ?_
              refine WPc.region ?_
              refine WP.val rfl rfl rfl (Val.assign rfl rfl) ?_
              refine WP.nil ?_
              refine Out.next ?_
              refine WPc.ret ?_
              refine Out.then_ret ?_
              refine Out.block_ret ?_
              refine Out.then_ret ?_
              refine Out.then_ret ?_
              refine Out.block_ret ?_
              refine Out.then_ret ?_
              refine Out.drop ?_
              exact Out.ret1 (L' := [A]) Try.results47 rfl ⟨false, rfl, (fun h => by cases h), rfl⟩ (fun _ h => h)
            · skip
              have h6 : ¬ (¬ ((y.m < x.m ∨ (y.m = x.m ∧ y.s < x.s)))) := h6
              refine WPD.takeGM 27 rfl rfl rfl rfl rfl rfl rfl rfl (by kernel_rfl) (by kernel_rfl) (by kernel_rfl) (by kernel_rfl) (fun _ _ _ h => h) (fun _ h => h) (Val.fieldAddr (j := 3) rfl Ty.fo106_2 rfl rfl) ?_
              refine WPD.takeGM 28 rfl rfl rfl rfl rfl rfl rfl rfl (by kernel_rfl) (by kernel_rfl) (by kernel_rfl) (by kernel_rfl) (fun _ _ _ h => h) (fun _ h => h) (Val.fieldAddr (j := 3) rfl Ty.fo104_0 rfl rfl) ?_
              refine WPD.takeG 29 rfl rfl rfl rfl rfl rfl rfl rfl (by kernel_rfl) (by kernel_rfl) (by kernel_rfl) (by kernel_rfl) (fun _ _ _ h => h) (by kernel_rfl) (fun _ h => h) (Val.load rfl Ty.sc9 rfl (fun w h => h.cell 0 rfl rfl)) ?_
              refine WPD.takeG 30 rfl rfl rfl rfl rfl rfl rfl rfl (by kernel_rfl) (by kernel_rfl) (by kernel_rfl) (by kernel_rfl) (fun _ _ _ h => h) (by kernel_rfl) (fun _ h => h) (Val.eqlS rfl rfl rfl) ?_
              refine WPD.takeM 31 rfl rfl rfl rfl (by kernel_rfl) (by kernel_rfl) (by kernel_rfl) (by kernel_rfl) (fun _ _ _ h => h) (fun _ h => h) (Val.pickF rfl rfl rfl) ?_
              refine WPD.takeM 32 rfl rfl rfl rfl (by kernel_rfl) (by kernel_rfl) (by kernel_rfl) (by kernel_rfl) (fun _ _ _ h => h) (fun _ h => h) (Val.move rfl rfl) ?_
              refine WPD.splitB 47 rfl (fun h7 => ?_) (fun h7 => ?_)
              · skip
                refine WPD.skip 33 rfl rfl rfl rfl rfl rfl rfl rfl (by kernel_rfl) (by kernel_rfl) (by kernel_rfl) (by kernel_rfl) (fun _ _ _ h => h) (fun _ h => h) ?_
                refine WPD.skip 34 rfl rfl rfl rfl rfl rfl rfl rfl (by kernel_rfl) (by kernel_rfl) (by kernel_rfl) (by kernel_rfl) (fun _ _ _ h => h) (fun _ h => h) ?_
                refine WPD.skip 35 rfl rfl rfl rfl rfl rfl rfl rfl (by kernel_rfl) (by kernel_rfl) (by kernel_rfl) (by kernel_rfl) (fun _ _ _ h => h) (fun _ h => h) ?_
                refine WPD.skip 36 rfl rfl rfl rfl rfl rfl rfl rfl (by kernel_rfl) (by kernel_rfl) (by kernel_rfl) (by kernel_rfl) (fun _ _ _ h => h) (fun _ h => h) ?_
                refine WPD.skip 37 rfl rfl rfl rfl rfl rfl rfl rfl (by kernel_rfl) (by kernel_rfl) (by kernel_rfl) (by kernel_rfl) (fun _ _ _ h => h) (fun _ h => h) ?_
                refine WPD.takeM 38 rfl rfl rfl rfl (by kernel_rfl) (by kernel_rfl) (by kernel_rfl) (by kernel_rfl) (fun _ _ _ h => h) (fun _ h => h) (Val.pickT rfl rfl rfl) ?_
                refine WPD.takeM 39 rfl rfl rfl rfl (by kernel_rfl) (by kernel_rfl) (by kernel_rfl) (by kernel_rfl) (fun _ _ _ h => h) (fun _ h => h) (Val.move rfl rfl) ?_
                refine WPD.skip 40 rfl rfl rfl rfl rfl rfl rfl rfl (by kernel_rfl) (by kernel_rfl) (by kernel_rfl) (by kernel_rfl) (fun _ _ _ h => h) (fun _ h => h) ?_
                refine WPD.skip 41 rfl rfl rfl rfl rfl rfl rfl rfl (by kernel_rfl) (by kernel_rfl) (by kernel_rfl) (by kernel_rfl) (fun _ _ _ h => h) (fun _ h => h) ?_
                refine WPD.skip 42 rfl rfl rfl rfl rfl rfl rfl rfl (by kernel_rfl) (by kernel_rfl) (by kernel_rfl) (by kernel_rfl) (fun _ _ _ h => h) (fun _ h => h) ?_
                refine WPD.skip 43 rfl rfl rfl rfl rfl rfl rfl rfl (by kernel_rfl) (by kernel_rfl) (by kernel_rfl) (by kernel_rfl) (fun _ _ _ h => h) (fun _ h => h) ?_
                refine WPD.skip 44 rfl rfl rfl rfl rfl rfl rfl rfl (by kernel_rfl) (by kernel_rfl) (by kernel_rfl) (by kernel_rfl) (fun _ _ _ h => h) (fun _ h => h) ?_
                refine WPD.takeM 45 rfl rfl rfl rfl (by kernel_rfl) (by kernel_rfl) (by kernel_rfl) (by kernel_rfl) (fun _ _ _ h => h) (fun _ h => h) (Val.pickT rfl rfl rfl) ?_
                refine WPD.done (by kernel_rfl) ?_
                refine Out.next ?_
                refine WPc.condT rfl rfl ?_
                refine WPc.seq ?_
                refine WPc.region ?_
                refine WP.val rfl rfl rfl (Val.assign rfl rfl) ?_
                refine WP.nil ?_
                refine Out.next ?_
                refine WPc.ret ?_
                refine Out.then_ret ?_
                refine Out.block_ret ?_
                refine Out.then_ret ?_
                refine Out.then_ret ?_
                refine Out.block_ret ?_
                refine Out.then_ret ?_
                refine Out.drop ?_
                exact Out.ret1 (L' := [A]) Try.results47 rfl ⟨false, rfl, (fun h => by cases h), rfl⟩ (fun _ h => h)
              · skip
                refine WPD.takeGM 33 rfl rfl rfl rfl rfl rfl rfl rfl (by kernel_rfl) (by kernel_rfl) (by kernel_rfl) (by kernel_rfl) (fun _ _ _ h => h) (fun _ h => h) (Val.fieldAddr (j := 3) rfl Ty.fo106_2 rfl rfl) ?_
                refine WPD.takeGM 34 rfl rfl rfl rfl rfl rfl rfl rfl (by kernel_rfl) (by kernel_rfl) (by kernel_rfl) (by kernel_rfl) (fun _ _ _ h => h) (fun _ h => h) (Val.fieldAddr (j := 3) rfl Ty.fo104_0 rfl rfl) ?_
                refine WPD.takeG 35 rfl rfl rfl rfl rfl rfl rfl rfl (by kernel_rfl) (by kernel_rfl) (by kernel_rfl) (by kernel_rfl) (fun _ _ _ h => h) (by kernel_rfl) (fun _ h => h) (Val.load rfl Ty.sc9 rfl (fun w h => h.cell 0 rfl rfl)) ?_
                refine WPD.takeG 36 rfl rfl rfl rfl rfl rfl rfl rfl (by kernel_rfl) (by kernel_rfl) (by kernel_rfl) (by kernel_rfl) (fun _ _ _ h => h) (by kernel_rfl) (fun _ h => h) (Val.lenS rfl Ty.st9 rfl) ?_
                refine WPD.takeG 37 rfl rfl rfl rfl rfl rfl rfl rfl (by kernel_rfl) (by kernel_rfl) (by kernel_rfl) (by kernel_rfl) (fun _ _ _ h => h) (by kernel_rfl) (fun _ h => h) (Val.gtr rfl rfl rfl) ?_
                refine WPD.takeM 38 rfl rfl rfl rfl (by kernel_rfl) (by kernel_rfl) (by kernel_rfl) (by kernel_rfl) (fun _ _ _ h => h) (fun _ h => h) (Val.pickF rfl rfl rfl) ?_
                refine WPD.takeM 39 rfl rfl rfl rfl (by kernel_rfl) (by kernel_rfl) (by kernel_rfl) (by kernel_rfl) (fun _ _ _ h => h) (fun _ h => h) (Val.move rfl rfl) ?_
                refine WPD.split 54 rfl (fun h8 => ?_) (fun h8 => ?_)
                · skip
                  have h8 : ((60 : Int) < (((x.kv.key).size : Nat) : Int)) := h8
                  refine WPD.skip 40 rfl rfl rfl rfl rfl rfl rfl rfl (by kernel_rfl) (by kernel_rfl) (by kernel_rfl) (by kernel_rfl) (fun _ _ _ h => h) (fun _ h => h) ?_
                  refine WPD.skip 41 rfl rfl rfl rfl rfl rfl rfl rfl (by kernel_rfl) (by kernel_rfl) (by kernel_rfl) (by kernel_rfl) (fun _ _ _ h => h) (fun _ h => h) ?_
                  refine WPD.skip 42 rfl rfl rfl rfl rfl rfl rfl rfl (by kernel_rfl) (by kernel_rfl) (by kernel_rfl) (by kernel_rfl) (fun _ _ _ h => h) (fun _ h => h) ?_
                  refine WPD.skip 43 rfl rfl rfl rfl rfl rfl rfl rfl (by kernel_rfl) (by kernel_rfl) (by kernel_rfl) (by kernel_rfl) (fun _ _ _ h => h) (fun _ h => h) ?_
                  refine WPD.skip 44 rfl rfl rfl rfl rfl rfl rfl rfl (by kernel_rfl) (by kernel_rfl) (by kernel_rfl) (by kernel_rfl) (fun _ _ _ h => h) (fun _ h => h) ?_
                  refine WPD.takeM 45 rfl rfl rfl rfl (by kernel_rfl) (by kernel_rfl) (by kernel_rfl) (by kernel_rfl) (fun _ _ _ h => h) (fun _ h => h) (Val.pickT rfl rfl rfl) ?_
                  refine WPD.done (by kernel_rfl) ?_
                  refine Out.next ?_
                  refine WPc.condT rfl rfl ?_
                  refine WPc.seq ?_
                  refine WPc.region ?_
                  refine WP.val rfl rfl rfl (Val.assign rfl rfl) ?_
                  refine WP.nil ?_
                  refine Out.next ?_
                  refine WPc.ret ?_
                  refine Out.then_ret ?_
                  refine Out.block_ret ?_
                  refine Out.then_ret ?_
                  refine Out.then_ret ?_
                  refine Out.block_ret ?_
                  refine Out.then_ret ?_
                  refine Out.drop ?_
                  exact Out.ret1 (L' := [A]) Try.results47 rfl ⟨false, rfl, (fun h => by cases h), rfl⟩ (fun _ h => h)
                · skip
                  have h8 : ¬ ((60 : Int) < (((x.kv.key).size : Nat) : Int)) := h8
                  refine WPD.takeGM 40 rfl rfl rfl rfl rfl rfl rfl rfl (by kernel_rfl) (by kernel_rfl) (by kernel_rfl) (by kernel_rfl) (fun _ _ _ h => h) (fun _ h => h) (Val.fieldAddr (j := 3) rfl Ty.fo106_2 rfl rfl) ?_
                  refine WPD.takeGM 41 rfl rfl rfl rfl rfl rfl rfl rfl (by kernel_rfl) (by kernel_rfl) (by kernel_rfl) (by kernel_rfl) (fun _ _ _ h => h) (fun _ h => h) (Val.fieldAddr (j := 4) rfl Ty.fo104_1 rfl rfl) ?_
                  refine WPD.takeG 42 rfl rfl rfl rfl rfl rfl rfl rfl (by kernel_rfl) (by kernel_rfl) (by kernel_rfl) (by kernel_rfl) (fun _ _ _ h => h) (by kernel_rfl) (fun _ h => h) (Val.load rfl Ty.sc9 rfl (fun w h => h.cell 0 rfl rfl)) ?_
                  refine WPD.takeG 43 rfl rfl rfl rfl rfl rfl rfl rfl (by kernel_rfl) (by kernel_rfl) (by kernel_rfl) (by kernel_rfl) (fun _ _ _ h => h) (by kernel_rfl) (fun _ h => h) (Val.lenS rfl Ty.st9 rfl) ?_
                  refine WPD.takeG 44 rfl rfl rfl rfl rfl rfl rfl rfl (by kernel_rfl) (by kernel_rfl) (by kernel_rfl) (by kernel_rfl) (fun _ _ _ h => h) (by kernel_rfl) (fun _ h => h) (Val.gtr rfl rfl rfl) ?_
                  refine WPD.takeM 45 rfl rfl rfl rfl (by kernel_rfl) (by kernel_rfl) (by kernel_rfl) (by kernel_rfl) (fun _ _ _ h => h) (fun _ h => h) (Val.pickF rfl rfl rfl) ?_
                  refine WPD.done (by kernel_rfl) ?_
                  refine Out.next ?_
                  refine WPc.ifP rfl (fun h9 => ?_) (fun h9 => ?_)
                  · skip
                    have h9 : ((60 : Int) < (((x.kv.val).size : Nat) : Int)) := h9
                    refine WPc.seq ?_
                    refine WPc.region ?_
                    refine WP.val rfl rfl rfl (Val.assign rfl rfl) ?_
                    refine WP.nil ?_
                    refine Out.next ?_
                    refine WPc.ret ?_
                    refine Out.then_ret ?_
                    refine Out.block_ret ?_
                    refine Out.then_ret ?_
                    refine Out.then_ret ?_
                    refine Out.block_ret ?_
                    refine Out.then_ret ?_
                    refine Out.drop ?_
                    exact Out.ret1 (L' := [A]) Try.results47 rfl ⟨false, rfl, (fun h => by cases h), rfl⟩ (fun _ h => h)
                  · skip
                    have h9 : ¬ ((60 : Int) < (((x.kv.val).size : Nat) : Int)) := h9
                    refine WPc.skip ?_
                    refine Out.next ?_
                    refine WPc.seq ?_
                    refine WPc.seq ?_
                    refine WPc.region ?_
                    refine WP.val rfl rfl rfl (Val.fieldAddr (j := 2) rfl Ty.fo106_1 rfl rfl) ?_
                    refine WP.val rfl rfl rfl (Val.load rfl Ty.sc4 rfl (fun w h => h.cell 0 rfl rfl)) ?_
                    refine WP.val rfl rfl rfl (Val.move rfl rfl) ?_
                    refine WP.splitB 63 rfl (fun h10 => ?_) (fun h10 => ?_)
                    · skip
                      refine WP.valG rfl rfl rfl rfl rfl rfl rfl (Val.fieldAddr (j := 3) rfl Ty.fo106_2 rfl rfl) ?_
                      refine WP.valG rfl rfl rfl rfl rfl rfl rfl (Val.loadAgg (cs := [.string x.kv.key, .string x.kv.val, .int .i64 (x.kv.create), .int .i64 (x.kv.mod), .int .i64 (x.kv.ver), .int .i64 (x.kv.lease)]) rfl Ty.ag104 rfl rfl (fun w h => h.range 0 rfl rfl)) ?_
                      refine WP.valG rfl rfl rfl rfl rfl rfl rfl (Val.fieldAddr (j := 3) rfl Ty.fo106_2 rfl rfl) ?_
                      refine WP.valG rfl rfl rfl rfl rfl rfl rfl (Val.fieldAddr (j := 3) rfl Ty.fo104_0 rfl rfl) ?_
                      refine WP.valG rfl rfl rfl rfl rfl rfl rfl (Val.load rfl Ty.sc9 rfl (fun w h => h.cell 0 rfl rfl)) ?_
                      refine WP.valG rfl rfl rfl rfl rfl rfl rfl (Val.mk (cs := [.string x.kv.key, .string (⟨#[]⟩), .int .i64 0, .int .i64 0, .int .i64 0, .int .i64 0]) rfl rfl (fun _ => by kernel_rfl)) ?_
                      refine WP.valG rfl rfl rfl rfl rfl rfl rfl (Val.neqKV rfl rfl rfl) ?_
                      refine WP.val rfl rfl rfl (Val.pickT rfl rfl rfl) ?_
                      refine WP.nil ?_
                      refine Out.next ?_
                      refine WPc.cond rfl (fun h11 => ?_) (fun h11 => ?_)
                      · skip
                        have h11 : (!kvEq x.kv.key x.kv.val x.kv.key (⟨#[]⟩) x.kv.create x.kv.mod x.kv.ver x.kv.lease ((0 : Int)) ((0 : Int)) ((0 : Int)) ((0 : Int))) = true := h11
                        refine WPc.seq ?_
                        refine WPc.region ?_
                        refine WP.val rfl rfl rfl (Val.assign rfl rfl) ?_
                        refine WP.nil ?_
                        refine Out.next ?_
                        refine WPc.ret ?_
                        refine Out.then_ret ?_
                        refine Out.block_ret ?_
                        refine Out.then_ret ?_
                        refine Out.then_ret ?_
                        refine Out.block_ret ?_
                        refine Out.then_ret ?_
                        refine Out.drop ?_
                        exact Out.ret1 (L' := [A]) Try.results47 rfl ⟨false, rfl, (fun h => by cases h), rfl⟩ (fun _ h => h)
                      · skip
                        have h11 : (!kvEq x.kv.key x.kv.val x.kv.key (⟨#[]⟩) x.kv.create x.kv.mod x.kv.ver x.kv.lease ((0 : Int)) ((0 : Int)) ((0 : Int)) ((0 : Int))) = false := h11
                        refine WPc.skip ?_
                        refine Out.next ?_
                        refine WPc.seq ?_
                        refine WPc.region ?_
                        refine WP.val rfl rfl rfl (Val.fieldAddr (j := 2) rfl Ty.fo106_1 rfl rfl) ?_
                        refine WP.val rfl rfl rfl (Val.load rfl Ty.sc4 rfl (fun w h => h.cell 0 rfl rfl)) ?_
                        refine WP.val rfl rfl rfl (Val.not rfl rfl) ?_
                        refine WP.val rfl rfl rfl (Val.move rfl rfl) ?_
                        refine WP.splitB 75 rfl (fun h12 => ?_) (fun h12 => ?_)
                        · skip
                          refine WP.valG rfl rfl rfl rfl rfl rfl rfl (Val.fieldAddr (j := 3) rfl Ty.fo106_2 rfl rfl) ?_
                          refine WP.valG rfl rfl rfl rfl rfl rfl rfl (Val.fieldAddr (j := 6) rfl Ty.fo104_3 rfl rfl) ?_
                          refine WP.valG rfl rfl rfl rfl rfl rfl rfl (Val.load rfl Ty.sc2 rfl (fun w h => h.cell 0 rfl rfl)) ?_
                          refine WP.valG rfl rfl rfl rfl rfl rfl rfl (Val.fieldAddr (j := 0) rfl Ty.fo106_0 rfl rfl) ?_
                          refine WP.valG rfl rfl rfl rfl rfl rfl rfl (Val.fieldAddr (j := 0) rfl Ty.fo47_0 rfl rfl) ?_
                          refine WP.valG rfl rfl rfl rfl rfl rfl rfl (Val.load rfl Ty.sc2 rfl (fun w h => h.cell 0 rfl rfl)) ?_
                          refine WP.valG rfl rfl rfl rfl rfl rfl rfl (Val.neq rfl rfl rfl) ?_
                          refine WP.valG rfl rfl rfl rfl rfl rfl rfl (Val.move rfl rfl) ?_
                          refine WP.split 83 rfl (fun h13 => ?_) (fun h13 => ?_)
                          · skip
                            have h13 : (x.kv.mod ≠ x.m) := h13
                            refine WP.skip rfl rfl rfl rfl rfl rfl rfl ?_
                            refine WP.skip rfl rfl rfl rfl rfl rfl rfl ?_
                            refine WP.skip rfl rfl rfl rfl rfl rfl rfl ?_
                            refine WP.skip rfl rfl rfl rfl rfl rfl rfl ?_
                            refine WP.valG rfl rfl rfl rfl rfl rfl rfl (Val.pickT rfl rfl rfl) ?_
                            refine WP.valG rfl rfl rfl rfl rfl rfl rfl (Val.move rfl rfl) ?_
                            refine WP.skip rfl rfl rfl rfl rfl rfl rfl ?_
                            refine WP.skip rfl rfl rfl rfl rfl rfl rfl ?_
                            refine WP.skip rfl rfl rfl rfl rfl rfl rfl ?_
                            refine WP.skip rfl rfl rfl rfl rfl rfl rfl ?_
                            refine WP.valG rfl rfl rfl rfl rfl rfl rfl (Val.pickT rfl rfl rfl) ?_
                            refine WP.valG rfl rfl rfl rfl rfl rfl rfl (Val.move rfl rfl) ?_
                            refine WP.skip rfl rfl rfl rfl rfl rfl rfl ?_
                            refine WP.skip rfl rfl rfl rfl rfl rfl rfl ?_
                            refine WP.skip rfl rfl rfl rfl rfl rfl rfl ?_
                            refine WP.skip rfl rfl rfl rfl rfl rfl rfl ?_
                            refine WP.valG rfl rfl rfl rfl rfl rfl rfl (Val.pickT rfl rfl rfl) ?_
                            refine WP.valG rfl rfl rfl rfl rfl rfl rfl (Val.move rfl rfl) ?_
                            refine WP.skip rfl rfl rfl rfl rfl rfl rfl ?_
                            refine WP.skip rfl rfl rfl rfl rfl rfl rfl ?_
                            refine WP.skip rfl rfl rfl rfl rfl rfl rfl ?_
                            refine WP.skip rfl rfl rfl rfl rfl rfl rfl ?_
                            refine WP.skip rfl rfl rfl rfl rfl rfl rfl ?_
                            refine WP.skip rfl rfl rfl rfl rfl rfl rfl ?_
                            refine WP.skip rfl rfl rfl rfl rfl rfl rfl ?_
                            refine WP.valG rfl rfl rfl rfl rfl rfl rfl (Val.pickT rfl rfl rfl) ?_
                            refine WP.val rfl rfl rfl (Val.pickT rfl rfl rfl) ?_
                            refine WP.nil ?_
                            refine Out.next ?_
                            refine WPc.condT rfl rfl ?_
                            refine WPc.seq ?_
                            refine WPc.region ?_
                            refine WP.val rfl rfl rfl (Val.assign rfl rfl) ?_
                            refine WP.nil ?_
                            refine Out.next ?_
                            refine WPc.ret ?_
                            refine Out.block_ret ?_
                            refine Out.then_ret ?_
                            refine Out.then_ret ?_
                            refine Out.block_ret ?_
                            refine Out.then_ret ?_
                            refine Out.drop ?_
                            exact Out.ret1 (L' := [A]) Try.results47 rfl ⟨false, rfl, (fun h => by cases h), rfl⟩ (fun _ h => h)
                          · skip
                            have h13 : ¬ (x.kv.mod ≠ x.m) := h13
                            refine WP.valG rfl rfl rfl rfl rfl rfl rfl (Val.fieldAddr (j := 3) rfl Ty.fo106_2 rfl rfl) ?_
                            refine WP.valG rfl rfl rfl rfl rfl rfl rfl (Val.fieldAddr (j := 7) rfl Ty.fo104_4 rfl rfl) ?_
                            refine WP.valG rfl rfl rfl rfl rfl rfl rfl (Val.load rfl Ty.sc2 rfl (fun w h => h.cell 0 rfl rfl)) ?_
                            refine WP.valG rfl rfl rfl rfl rfl rfl rfl (Val.lss rfl rfl rfl) ?_
                            refine WP.valG rfl rfl rfl rfl rfl rfl rfl (Val.pickF rfl rfl rfl) ?_
                            refine WP.valG rfl rfl rfl rfl rfl rfl rfl (Val.move rfl rfl) ?_
                            refine WP.split 89 rfl (fun h14 => ?_) (fun h14 => ?_)
                            · skip
                              have h14 : (x.kv.ver < (1 : Int)) := h14
                              refine WP.skip rfl rfl rfl rfl rfl rfl rfl ?_
                              refine WP.skip rfl rfl rfl rfl rfl rfl rfl ?_
                              refine WP.skip rfl rfl rfl rfl rfl rfl rfl ?_
                              refine WP.skip rfl rfl rfl rfl rfl rfl rfl ?_
                              refine WP.valG rfl rfl rfl rfl rfl rfl rfl (Val.pickT rfl rfl rfl) ?_
                              refine WP.valG rfl rfl rfl rfl rfl rfl rfl (Val.move rfl rfl) ?_
                              refine WP.skip rfl rfl rfl rfl rfl rfl rfl ?_
                              refine WP.skip rfl rfl rfl rfl rfl rfl rfl ?_
                              refine WP.skip rfl rfl rfl rfl rfl rfl rfl ?_
                              refine WP.skip rfl rfl rfl rfl rfl rfl rfl ?_
                              refine WP.valG rfl rfl rfl rfl rfl rfl rfl (Val.pickT rfl rfl rfl) ?_
                              refine WP.valG rfl rfl rfl rfl rfl rfl rfl (Val.move rfl rfl) ?_
                              refine WP.skip rfl rfl rfl rfl rfl rfl rfl ?_
                              refine WP.skip rfl rfl rfl rfl rfl rfl rfl ?_
                              refine WP.skip rfl rfl rfl rfl rfl rfl rfl ?_
                              refine WP.skip rfl rfl rfl rfl rfl rfl rfl ?_
                              refine WP.skip rfl rfl rfl rfl rfl rfl rfl ?_
                              refine WP.skip rfl rfl rfl rfl rfl rfl rfl ?_
                              refine WP.skip rfl rfl rfl rfl rfl rfl rfl ?_
                              refine WP.valG rfl rfl rfl rfl rfl rfl rfl (Val.pickT rfl rfl rfl) ?_
                              refine WP.val rfl rfl rfl (Val.pickT rfl rfl rfl) ?_
                              refine WP.nil ?_
                              refine Out.next ?_
                              refine WPc.condT rfl rfl ?_
                              refine WPc.seq ?_
                              refine WPc.region ?_
                              refine WP.val rfl rfl rfl (Val.assign rfl rfl) ?_
                              refine WP.nil ?_
                              refine Out.next ?_
                              refine WPc.ret ?_
                              refine Out.block_ret ?_
                              refine Out.then_ret ?_
                              refine Out.then_ret ?_
                              refine Out.block_ret ?_
                              refine Out.then_ret ?_
                              refine Out.drop ?_
                              exact Out.ret1 (L' := [A]) Try.results47 rfl ⟨false, rfl, (fun h => by cases h), rfl⟩ (fun _ h => h)
                            · skip
                              have h14 : ¬ (x.kv.ver < (1 : Int)) := h14
                              refine WP.valG rfl rfl rfl rfl rfl rfl rfl (Val.fieldAddr (j := 3) rfl Ty.fo106_2 rfl rfl) ?_
                              refine WP.valG rfl rfl rfl rfl rfl rfl rfl (Val.fieldAddr (j := 7) rfl Ty.fo104_4 rfl rfl) ?_
                              refine WP.valG rfl rfl rfl rfl rfl rfl rfl (Val.load rfl Ty.sc2 rfl (fun w h => h.cell 0 rfl rfl)) ?_
                              refine WP.valG rfl rfl rfl rfl rfl rfl rfl (Val.gtr rfl rfl rfl) ?_
                              refine WP.valG rfl rfl rfl rfl rfl rfl rfl (Val.pickF rfl rfl rfl) ?_
                              refine WP.valG rfl rfl rfl rfl rfl rfl rfl (Val.move rfl rfl) ?_
                              refine WP.split 95 rfl (fun h15 => ?_) (fun h15 => ?_)
                              · skip
                                have h15 : ((1152921504606846976 : Int) < x.kv.ver) := h15
                                refine WP.skip rfl rfl rfl rfl rfl rfl rfl ?_
                                refine WP.skip rfl rfl rfl rfl rfl rfl rfl ?_
                                refine WP.skip rfl rfl rfl rfl rfl rfl rfl ?_
                                refine WP.skip rfl rfl rfl rfl rfl rfl rfl ?_
                                refine WP.valG rfl rfl rfl rfl rfl rfl rfl (Val.pickT rfl rfl rfl) ?_
                                refine WP.valG rfl rfl rfl rfl rfl rfl rfl (Val.move rfl rfl) ?_
                                refine WP.skip rfl rfl rfl rfl rfl rfl rfl ?_
                                refine WP.skip rfl rfl rfl rfl rfl rfl rfl ?_
                                refine WP.skip rfl rfl rfl rfl rfl rfl rfl ?_
                                refine WP.skip rfl rfl rfl rfl rfl rfl rfl ?_
                                refine WP.skip rfl rfl rfl rfl rfl rfl rfl ?_
                                refine WP.skip rfl rfl rfl rfl rfl rfl rfl ?_
                                refine WP.skip rfl rfl rfl rfl rfl rfl rfl ?_
                                refine WP.valG rfl rfl rfl rfl rfl rfl rfl (Val.pickT rfl rfl rfl) ?_
                                refine WP.val rfl rfl rfl (Val.pickT rfl rfl rfl) ?_
                                refine WP.nil ?_
                                refine Out.next ?_
                                refine WPc.condT rfl rfl ?_
                                refine WPc.seq ?_
                                refine WPc.region ?_
                                refine WP.val rfl rfl rfl (Val.assign rfl rfl) ?_
                                refine WP.nil ?_
                                refine Out.next ?_
                                refine WPc.ret ?_
                                refine Out.block_ret ?_
                                refine Out.then_ret ?_
                                refine Out.then_ret ?_
                                refine Out.block_ret ?_
                                refine Out.then_ret ?_
                                refine Out.drop ?_
                                exact Out.ret1 (L' := [A]) Try.results47 rfl ⟨false, rfl, (fun h => by cases h), rfl⟩ (fun _ h => h)
                              · skip
                                have h15 : ¬ ((1152921504606846976 : Int) < x.kv.ver) := h15
                                refine WP.valG rfl rfl rfl rfl rfl rfl rfl (Val.fieldAddr (j := 3) rfl Ty.fo106_2 rfl rfl) ?_
                                refine WP.valG rfl rfl rfl rfl rfl rfl rfl (Val.fieldAddr (j := 5) rfl Ty.fo104_2 rfl rfl) ?_
                                refine WP.valG rfl rfl rfl rfl rfl rfl rfl (Val.load rfl Ty.sc2 rfl (fun w h => h.cell 0 rfl rfl)) ?_
                                refine WP.valG rfl rfl rfl rfl rfl rfl rfl (Val.lss rfl rfl rfl) ?_
                                refine WP.valG rfl rfl rfl rfl rfl rfl rfl (Val.pickF rfl rfl rfl) ?_
                                refine WP.valG rfl rfl rfl rfl rfl rfl rfl (Val.move rfl rfl) ?_
                                refine WP.split 101 rfl (fun h16 => ?_) (fun h16 => ?_)
                                · skip
                                  have h16 : (x.kv.create < (1 : Int)) := h16
                                  refine WP.skip rfl rfl rfl rfl rfl rfl rfl ?_
                                  refine WP.skip rfl rfl rfl rfl rfl rfl rfl ?_
                                  refine WP.skip rfl rfl rfl rfl rfl rfl rfl ?_
                                  refine WP.skip rfl rfl rfl rfl rfl rfl rfl ?_
                                  refine WP.skip rfl rfl rfl rfl rfl rfl rfl ?_
                                  refine WP.skip rfl rfl rfl rfl rfl rfl rfl ?_
                                  refine WP.skip rfl rfl rfl rfl rfl rfl rfl ?_
                                  refine WP.valG rfl rfl rfl rfl rfl rfl rfl (Val.pickT rfl rfl rfl) ?_
                                  refine WP.val rfl rfl rfl (Val.pickT rfl rfl rfl) ?_
                                  refine WP.nil ?_
                                  refine Out.next ?_
                                  refine WPc.condT rfl rfl ?_
                                  refine WPc.seq ?_
                                  refine WPc.region ?_
                                  refine WP.val rfl rfl rfl (Val.assign rfl rfl) ?_
                                  refine WP.nil ?_
                                  refine Out.next ?_
                                  refine WPc.ret ?_
                                  refine Out.block_ret ?_
                                  refine Out.then_ret ?_
                                  refine Out.then_ret ?_
                                  refine Out.block_ret ?_
                                  refine Out.then_ret ?_
                                  refine Out.drop ?_
                                  exact Out.ret1 (L' := [A]) Try.results47 rfl ⟨false, rfl, (fun h => by cases h), rfl⟩ (fun _ h => h)
                                · skip
                                  have h16 : ¬ (x.kv.create < (1 : Int)) := h16
                                  refine WP.valG rfl rfl rfl rfl rfl rfl rfl (Val.fieldAddr (j := 3) rfl Ty.fo106_2 rfl rfl) ?_
                                  refine WP.valG rfl rfl rfl rfl rfl rfl rfl (Val.fieldAddr (j := 5) rfl Ty.fo104_2 rfl rfl) ?_
                                  refine WP.valG rfl rfl rfl rfl rfl rfl rfl (Val.load rfl Ty.sc2 rfl (fun w h => h.cell 0 rfl rfl)) ?_
                                  refine WP.valG rfl rfl rfl rfl rfl rfl rfl (Val.fieldAddr (j := 3) rfl Ty.fo106_2 rfl rfl) ?_
                                  refine WP.valG rfl rfl rfl rfl rfl rfl rfl (Val.fieldAddr (j := 6) rfl Ty.fo104_3 rfl rfl) ?_
                                  refine WP.valG rfl rfl rfl rfl rfl rfl rfl (Val.load rfl Ty.sc2 rfl (fun w h => h.cell 0 rfl rfl)) ?_
                                  refine WP.valG rfl rfl rfl rfl rfl rfl rfl (Val.gtr rfl rfl rfl) ?_
                                  refine WP.valG rfl rfl rfl rfl rfl rfl rfl (Val.pickF rfl rfl rfl) ?_
                                  refine WP.val rfl rfl rfl (Val.pickT rfl rfl rfl) ?_
                                  refine WP.nil ?_
                                  refine Out.next ?_
                                  refine WPc.ifP rfl (fun h17 => ?_) (fun h17 => ?_)
                                  · skip
                                    have h17 : (x.kv.mod < x.kv.create) := h17
                                    refine WPc.seq ?_
                                    refine WPc.region ?_
                                    refine WP.val rfl rfl rfl (Val.assign rfl rfl) ?_
                                    refine WP.nil ?_
                                    refine Out.next ?_
                                    refine WPc.ret ?_
                                    refine Out.block_ret ?_
                                    refine Out.then_ret ?_
                                    refine Out.then_ret ?_
                                    refine Out.block_ret ?_
                                    refine Out.then_ret ?_
                                    refine Out.drop ?_
                                    exact Out.ret1 (L' := [A]) Try.results47 rfl ⟨false, rfl, (fun h => by cases h), rfl⟩ (fun _ h => h)
                                  · skip
                                    have h17 : ¬ (x.kv.mod < x.kv.create) := h17
                                    refine WPc.skip ?_
                                    refine Out.block ?_
                                    refine Out.next ?_
                                    refine WPc.region ?_
                                    refine WP.val rfl rfl rfl (Val.add (z := ((i + 1 : Nat) : Int)) rfl rfl rfl ((w64 (by omega) (by omega)).trans (by omega))) ?_
                                    refine WP.val rfl rfl rfl (Val.move rfl rfl) ?_
                                    refine WP.nil ?_
                                    have hx1 : RoOk x := ⟨by omega, by omega, by omega, by omega⟩
                                    refine Out.drop ?_
                                    refine Out.again (i + 1) ?_ ?_ ?_ ?_
                                    · exact ⟨by omega, fun k z hk hz => by rcases Nat.lt_or_ge k i with h0 | h0; exact hg k z h0 hz; rw [show k = i by omega, hx] at hz; cases hz; exact hx1⟩
                                    · first | omega | (dsimp only; omega)
                                    · exact (Sub.cons rfl (Sub.cons rfl (Sub.cons rfl (Sub.cons rfl Sub.nil))))
                                    · exact (fun _ h => h)
                        · skip
                          refine WP.skip rfl rfl rfl rfl rfl rfl rfl ?_
                          refine WP.skip rfl rfl rfl rfl rfl rfl rfl ?_
                          refine WP.skip rfl rfl rfl rfl rfl rfl rfl ?_
                          refine WP.skip rfl rfl rfl rfl rfl rfl rfl ?_
                          refine WP.skip rfl rfl rfl rfl rfl rfl rfl ?_
                          refine WP.skip rfl rfl rfl rfl rfl rfl rfl ?_
                          refine WP.skip rfl rfl rfl rfl rfl rfl rfl ?_
                          refine WP.skip rfl rfl rfl rfl rfl rfl rfl ?_
                          refine WP.skipU rfl rfl rfl rfl rfl rfl ?_
                          refine WP.skipU rfl rfl rfl rfl rfl rfl ?_
                          refine WP.skipU rfl rfl rfl rfl rfl rfl ?_
                          refine WP.skipU rfl rfl rfl rfl rfl rfl ?_
                          refine WP.skip rfl rfl rfl rfl rfl rfl rfl ?_
                          refine WP.skip rfl rfl rfl rfl rfl rfl rfl ?_
                          refine WP.skipU rfl rfl rfl rfl rfl rfl ?_
                          refine WP.skipU rfl rfl rfl rfl rfl rfl ?_
                          refine WP.skipU rfl rfl rfl rfl rfl rfl ?_
                          refine WP.skipU rfl rfl rfl rfl rfl rfl ?_
                          refine WP.skip rfl rfl rfl rfl rfl rfl rfl ?_
                          refine WP.skip rfl rfl rfl rfl rfl rfl rfl ?_
                          refine WP.skipU rfl rfl rfl rfl rfl rfl ?_
                          refine WP.skipU rfl rfl rfl rfl rfl rfl ?_
                          refine WP.skipU rfl rfl rfl rfl rfl rfl ?_
                          refine WP.skipU rfl rfl rfl rfl rfl rfl ?_
                          refine WP.skip rfl rfl rfl rfl rfl rfl rfl ?_
                          refine WP.skip rfl rfl rfl rfl rfl rfl rfl ?_
                          refine WP.skipU rfl rfl rfl rfl rfl rfl ?_
                          refine WP.skipU rfl rfl rfl rfl rfl rfl ?_
                          refine WP.skipU rfl rfl rfl rfl rfl rfl ?_
                          refine WP.skipU rfl rfl rfl rfl rfl rfl ?_
                          refine WP.skipU rfl rfl rfl rfl rfl rfl ?_
                          refine WP.skipU rfl rfl rfl rfl rfl rfl ?_
                          refine WP.skipU rfl rfl rfl rfl rfl rfl ?_
                          refine WP.skip rfl rfl rfl rfl rfl rfl rfl ?_
                          refine WP.val rfl rfl rfl (Val.pickF rfl rfl rfl) ?_
                          refine WP.nil ?_
                          refine Out.next ?_
                          refine WPc.condF rfl rfl ?_
                          refine WPc.skip ?_
                          refine Out.block ?_
                          refine Out.next ?_
                          refine WPc.region ?_
                          refine WP.val rfl rfl rfl (Val.add (z := ((i + 1 : Nat) : Int)) rfl rfl rfl ((w64 (by omega) (by omega)).trans (by omega))) ?_
                          refine WP.val rfl rfl rfl (Val.move rfl rfl) ?_
                          refine WP.nil ?_
                          have hx1 : RoOk x := ⟨by omega, by omega, by omega, by omega⟩
                          refine Out.drop ?_
                          refine Out.again (i + 1) ?_ ?_ ?_ ?_
                          · exact ⟨by omega, fun k z hk hz => by rcases Nat.lt_or_ge k i with h0 | h0; exact hg k z h0 hz; rw [show k = i by omega, hx] at hz; cases hz; exact hx1⟩
                          · first | omega | (dsimp only; omega)
                          · exact (Sub.cons rfl (Sub.cons rfl (Sub.cons rfl (Sub.cons rfl Sub.nil))))
                          · exact (fun _ h => h)
                    · skip
                      refine WP.skip rfl rfl rfl rfl rfl rfl rfl ?_
                      refine WP.skip rfl rfl rfl rfl rfl rfl rfl ?_
                      refine WP.skip rfl rfl rfl rfl rfl rfl rfl ?_
                      refine WP.skip rfl rfl rfl rfl rfl rfl rfl ?_
                      refine WP.skip rfl rfl rfl rfl rfl rfl rfl ?_
                      refine WP.skip rfl rfl rfl rfl rfl rfl rfl ?_
                      refine WP.skip rfl rfl rfl rfl rfl rfl rfl ?_
                      refine WP.val rfl rfl rfl (Val.pickF rfl rfl rfl) ?_
                      refine WP.nil ?_
                      refine Out.next ?_
                      refine WPc.condF rfl rfl ?_
                      refine WPc.skip ?_
                      refine Out.next ?_
                      refine WPc.seq ?_
                      refine WPc.region ?_
                      refine WP.val rfl rfl rfl (Val.fieldAddr (j := 2) rfl Ty.fo106_1 rfl rfl) ?_
                      refine WP.val rfl rfl rfl (Val.load rfl Ty.sc4 rfl (fun w h => h.cell 0 rfl rfl)) ?_
                      refine WP.val rfl rfl rfl (Val.not rfl rfl) ?_
                      refine WP.val rfl rfl rfl (Val.move rfl rfl) ?_
                      refine WP.splitB 75 rfl (fun h18 => ?_) (fun h18 => ?_)
                      · skip
                        refine WP.valG rfl rfl rfl rfl rfl rfl rfl (Val.fieldAddr (j := 3) rfl Ty.fo106_2 rfl rfl) ?_
                        refine WP.valG rfl rfl rfl rfl rfl rfl rfl (Val.fieldAddr (j := 6) rfl Ty.fo104_3 rfl rfl) ?_
                        refine WP.valG rfl rfl rfl rfl rfl rfl rfl (Val.load rfl Ty.sc2 rfl (fun w h => h.cell 0 rfl rfl)) ?_
                        refine WP.valG rfl rfl rfl rfl rfl rfl rfl (Val.fieldAddr (j := 0) rfl Ty.fo106_0 rfl rfl) ?_
                        refine WP.valG rfl rfl rfl rfl rfl rfl rfl (Val.fieldAddr (j := 0) rfl Ty.fo47_0 rfl rfl) ?_
                        refine WP.valG rfl rfl rfl rfl rfl rfl rfl (Val.load rfl Ty.sc2 rfl (fun w h => h.cell 0 rfl rfl)) ?_
                        refine WP.valG rfl rfl rfl rfl rfl rfl rfl (Val.neq rfl rfl rfl) ?_
                        refine WP.valG rfl rfl rfl rfl rfl rfl rfl (Val.move rfl rfl) ?_
                        refine WP.split 83 rfl (fun h19 => ?_) (fun h19 => ?_)
                        · skip
                          have h19 : (x.kv.mod ≠ x.m) := h19
                          refine WP.skip rfl rfl rfl rfl rfl rfl rfl ?_
                          refine WP.skip rfl rfl rfl rfl rfl rfl rfl ?_
                          refine WP.skip rfl rfl rfl rfl rfl rfl rfl ?_
                          refine WP.skip rfl rfl rfl rfl rfl rfl rfl ?_
                          refine WP.valG rfl rfl rfl rfl rfl rfl rfl (Val.pickT rfl rfl rfl) ?_
                          refine WP.valG rfl rfl rfl rfl rfl rfl rfl (Val.move rfl rfl) ?_
                          refine WP.skip rfl rfl rfl rfl rfl rfl rfl ?_
                          refine WP.skip rfl rfl rfl rfl rfl rfl rfl ?_
                          refine WP.skip rfl rfl rfl rfl rfl rfl rfl ?_
                          refine WP.skip rfl rfl rfl rfl rfl rfl rfl ?_
                          refine WP.valG rfl rfl rfl rfl rfl rfl rfl (Val.pickT rfl rfl rfl) ?_
                          refine WP.valG rfl rfl rfl rfl rfl rfl rfl (Val.move rfl rfl) ?_
                          refine WP.skip rfl rfl rfl rfl rfl rfl rfl ?_
                          refine WP.skip rfl rfl rfl rfl rfl rfl rfl ?_
                          refine WP.skip rfl rfl rfl rfl rfl rfl rfl ?_
                          refine WP.skip rfl rfl rfl rfl rfl rfl rfl ?_
                          refine WP.valG rfl rfl rfl rfl rfl rfl rfl (Val.pickT rfl rfl rfl) ?_
                          refine WP.valG rfl rfl rfl rfl rfl rfl rfl (Val.move rfl rfl) ?_
                          refine WP.skip rfl rfl rfl rfl rfl rfl rfl ?_
                          refine WP.skip rfl rfl rfl rfl rfl rfl rfl ?_
                          refine WP.skip rfl rfl rfl rfl rfl rfl rfl ?_
                          refine WP.skip rfl rfl rfl rfl rfl rfl rfl ?_
                          refine WP.skip rfl rfl rfl rfl rfl rfl rfl ?_
                          refine WP.skip rfl rfl rfl rfl rfl rfl rfl ?_
                          refine WP.skip rfl rfl rfl rfl rfl rfl rfl ?_
                          refine WP.valG rfl rfl rfl rfl rfl rfl rfl (Val.pickT rfl rfl rfl) ?_
                          refine WP.val rfl rfl rfl (Val.pickT rfl rfl rfl) ?_
                          refine WP.nil ?_
                          refine Out.next ?_
                          refine WPc.condT rfl rfl ?_
                          refine WPc.seq ?_
                          refine WPc.region ?_
                          refine WP.val rfl rfl rfl (Val.assign rfl rfl) ?_
                          refine WP.nil ?_
                          refine Out.next ?_
                          refine WPc.ret ?_
                          refine Out.block_ret ?_
                          refine Out.then_ret ?_
                          refine Out.then_ret ?_
                          refine Out.block_ret ?_
                          refine Out.then_ret ?_
                          refine Out.drop ?_
                          exact Out.ret1 (L' := [A]) Try.results47 rfl ⟨false, rfl, (fun h => by cases h), rfl⟩ (fun _ h => h)
                        · skip
                          have h19 : ¬ (x.kv.mod ≠ x.m) := h19
                          refine WP.valG rfl rfl rfl rfl rfl rfl rfl (Val.fieldAddr (j := 3) rfl Ty.fo106_2 rfl rfl) ?_
                          refine WP.valG rfl rfl rfl rfl rfl rfl rfl (Val.fieldAddr (j := 7) rfl Ty.fo104_4 rfl rfl) ?_
                          refine WP.valG rfl rfl rfl rfl rfl rfl rfl (Val.load rfl Ty.sc2 rfl (fun w h => h.cell 0 rfl rfl)) ?_
                          refine WP.valG rfl rfl rfl rfl rfl rfl rfl (Val.lss rfl rfl rfl) ?_
                          refine WP.valG rfl rfl rfl rfl rfl rfl rfl (Val.pickF rfl rfl rfl) ?_
                          refine WP.valG rfl rfl rfl rfl rfl rfl rfl (Val.move rfl rfl) ?_
                          refine WP.split 89 rfl (fun h20 => ?_) (fun h20 => ?_)
                          · skip
                            have h20 : (x.kv.ver < (1 : Int)) := h20
                            refine WP.skip rfl rfl rfl rfl rfl rfl rfl ?_
                            refine WP.skip rfl rfl rfl rfl rfl rfl rfl ?_
                            refine WP.skip rfl rfl rfl rfl rfl rfl rfl ?_
                            refine WP.skip rfl rfl rfl rfl rfl rfl rfl ?_
                            refine WP.valG rfl rfl rfl rfl rfl rfl rfl (Val.pickT rfl rfl rfl) ?_
                            refine WP.valG rfl rfl rfl rfl rfl rfl rfl (Val.move rfl rfl) ?_
                            refine WP.skip rfl rfl rfl rfl rfl rfl rfl ?_
                            refine WP.skip rfl rfl rfl rfl rfl rfl rfl ?_
                            refine WP.skip rfl rfl rfl rfl rfl rfl rfl ?_
                            refine WP.skip rfl rfl rfl rfl rfl rfl rfl ?_
                            refine WP.valG rfl rfl rfl rfl rfl rfl rfl (Val.pickT rfl rfl rfl) ?_
                            refine WP.valG rfl rfl rfl rfl rfl rfl rfl (Val.move rfl rfl) ?_
                            refine WP.skip rfl rfl rfl rfl rfl rfl rfl ?_
                            refine WP.skip rfl rfl rfl rfl rfl rfl rfl ?_
                            refine WP.skip rfl rfl rfl rfl rfl rfl rfl ?_
                            refine WP.skip rfl rfl rfl rfl rfl rfl rfl ?_
                            refine WP.skip rfl rfl rfl rfl rfl rfl rfl ?_
                            refine WP.skip rfl rfl rfl rfl rfl rfl rfl ?_
                            refine WP.skip rfl rfl rfl rfl rfl rfl rfl ?_
                            refine WP.valG rfl rfl rfl rfl rfl rfl rfl (Val.pickT rfl rfl rfl) ?_
                            refine WP.val rfl rfl rfl (Val.pickT rfl rfl rfl) ?_
                            refine WP.nil ?_
                            refine Out.next ?_
                            refine WPc.condT rfl rfl ?_
                            refine WPc.seq ?_
                            refine WPc.region ?_
                            refine WP.val rfl rfl rfl (Val.assign rfl rfl) ?_
                            refine WP.nil ?_
                            refine Out.next ?_
                            refine WPc.ret ?_
                            refine Out.block_ret ?_
                            refine Out.then_ret ?_
                            refine Out.then_ret ?_
                            refine Out.block_ret ?_
                            refine Out.then_ret ?_
                            refine Out.drop ?_
                            exact Out.ret1 (L' := [A]) Try.results47 rfl ⟨false, rfl, (fun h => by cases h), rfl⟩ (fun _ h => h)
                          · skip
                            have h20 : ¬ (x.kv.ver < (1 : Int)) := h20
                            refine WP.valG rfl rfl rfl rfl rfl rfl rfl (Val.fieldAddr (j := 3) rfl Ty.fo106_2 rfl rfl) ?_
                            refine WP.valG rfl rfl rfl rfl rfl rfl rfl (Val.fieldAddr (j := 7) rfl Ty.fo104_4 rfl rfl) ?_
                            refine WP.valG rfl rfl rfl rfl rfl rfl rfl (Val.load rfl Ty.sc2 rfl (fun w h => h.cell 0 rfl rfl)) ?_
                            refine WP.valG rfl rfl rfl rfl rfl rfl rfl (Val.gtr rfl rfl rfl) ?_
                            refine WP.valG rfl rfl rfl rfl rfl rfl rfl (Val.pickF rfl rfl rfl) ?_
                            refine WP.valG rfl rfl rfl rfl rfl rfl rfl (Val.move rfl rfl) ?_
                            refine WP.split 95 rfl (fun h21 => ?_) (fun h21 => ?_)
                            · skip
                              have h21 : ((1152921504606846976 : Int) < x.kv.ver) := h21
                              refine WP.skip rfl rfl rfl rfl rfl rfl rfl ?_
                              refine WP.skip rfl rfl rfl rfl rfl rfl rfl ?_
                              refine WP.skip rfl rfl rfl rfl rfl rfl rfl ?_
                              refine WP.skip rfl rfl rfl rfl rfl rfl rfl ?_
                              refine WP.valG rfl rfl rfl rfl rfl rfl rfl (Val.pickT rfl rfl rfl) ?_
                              refine WP.valG rfl rfl rfl rfl rfl rfl rfl (Val.move rfl rfl) ?_
                              refine WP.skip rfl rfl rfl rfl rfl rfl rfl ?_
                              refine WP.skip rfl rfl rfl rfl rfl rfl rfl ?_
                              refine WP.skip rfl rfl rfl rfl rfl rfl rfl ?_
                              refine WP.skip rfl rfl rfl rfl rfl rfl rfl ?_
                              refine WP.skip rfl rfl rfl rfl rfl rfl rfl ?_
                              refine WP.skip rfl rfl rfl rfl rfl rfl rfl ?_
                              refine WP.skip rfl rfl rfl rfl rfl rfl rfl ?_
                              refine WP.valG rfl rfl rfl rfl rfl rfl rfl (Val.pickT rfl rfl rfl) ?_
                              refine WP.val rfl rfl rfl (Val.pickT rfl rfl rfl) ?_
                              refine WP.nil ?_
                              refine Out.next ?_
                              refine WPc.condT rfl rfl ?_
                              refine WPc.seq ?_
                              refine WPc.region ?_
                              refine WP.val rfl rfl rfl (Val.assign rfl rfl) ?_
                              refine WP.nil ?_
                              refine Out.next ?_
                              refine WPc.ret ?_
                              refine Out.block_ret ?_
                              refine Out.then_ret ?_
                              refine Out.then_ret ?_
                              refine Out.block_ret ?_
                              refine Out.then_ret ?_
                              refine Out.drop ?_
                              exact Out.ret1 (L' := [A]) Try.results47 rfl ⟨false, rfl, (fun h => by cases h), rfl⟩ (fun _ h => h)
                            · skip
                              have h21 : ¬ ((1152921504606846976 : Int) < x.kv.ver) := h21
                              refine WP.valG rfl rfl rfl rfl rfl rfl rfl (Val.fieldAddr (j := 3) rfl Ty.fo106_2 rfl rfl) ?_
                              refine WP.valG rfl rfl rfl rfl rfl rfl rfl (Val.fieldAddr (j := 5) rfl Ty.fo104_2 rfl rfl) ?_
                              refine WP.valG rfl rfl rfl rfl rfl rfl rfl (Val.load rfl Ty.sc2 rfl (fun w h => h.cell 0 rfl rfl)) ?_
                              refine WP.valG rfl rfl rfl rfl rfl rfl rfl (Val.lss rfl rfl rfl) ?_
                              refine WP.valG rfl rfl rfl rfl rfl rfl rfl (Val.pickF rfl rfl rfl) ?_
                              refine WP.valG rfl rfl rfl rfl rfl rfl rfl (Val.move rfl rfl) ?_
                              refine WP.split 101 rfl (fun h22 => ?_) (fun h22 => ?_)
                              · skip
                                have h22 : (x.kv.create < (1 : Int)) := h22
                                refine WP.skip rfl rfl rfl rfl rfl rfl rfl ?_
                                refine WP.skip rfl rfl rfl rfl rfl rfl rfl ?_
                                refine WP.skip rfl rfl rfl rfl rfl rfl rfl ?_
                                refine WP.skip rfl rfl rfl rfl rfl rfl rfl ?_
                                refine WP.skip rfl rfl rfl rfl rfl rfl rfl ?_
                                refine WP.skip rfl rfl rfl rfl rfl rfl rfl ?_
                                refine WP.skip rfl rfl rfl rfl rfl rfl rfl ?_
                                refine WP.valG rfl rfl rfl rfl rfl rfl rfl (Val.pickT rfl rfl rfl) ?_
                                refine WP.val rfl rfl rfl (Val.pickT rfl rfl rfl) ?_
                                refine WP.nil ?_
                                refine Out.next ?_
                                refine WPc.condT rfl rfl ?_
                                refine WPc.seq ?_
                                refine WPc.region ?_
                                refine WP.val rfl rfl rfl (Val.assign rfl rfl) ?_
                                refine WP.nil ?_
                                refine Out.next ?_
                                refine WPc.ret ?_
                                refine Out.block_ret ?_
                                refine Out.then_ret ?_
                                refine Out.then_ret ?_
                                refine Out.block_ret ?_
                                refine Out.then_ret ?_
                                refine Out.drop ?_
                                exact Out.ret1 (L' := [A]) Try.results47 rfl ⟨false, rfl, (fun h => by cases h), rfl⟩ (fun _ h => h)
                              · skip
                                have h22 : ¬ (x.kv.create < (1 : Int)) := h22
                                refine WP.valG rfl rfl rfl rfl rfl rfl rfl (Val.fieldAddr (j := 3) rfl Ty.fo106_2 rfl rfl) ?_
                                refine WP.valG rfl rfl rfl rfl rfl rfl rfl (Val.fieldAddr (j := 5) rfl Ty.fo104_2 rfl rfl) ?_
                                refine WP.valG rfl rfl rfl rfl rfl rfl rfl (Val.load rfl Ty.sc2 rfl (fun w h => h.cell 0 rfl rfl)) ?_
                                refine WP.valG rfl rfl rfl rfl rfl rfl rfl (Val.fieldAddr (j := 3) rfl Ty.fo106_2 rfl rfl) ?_
                                refine WP.valG rfl rfl rfl rfl rfl rfl rfl (Val.fieldAddr (j := 6) rfl Ty.fo104_3 rfl rfl) ?_
                                refine WP.valG rfl rfl rfl rfl rfl rfl rfl (Val.load rfl Ty.sc2 rfl (fun w h => h.cell 0 rfl rfl)) ?_
                                refine WP.valG rfl rfl rfl rfl rfl rfl rfl (Val.gtr rfl rfl rfl) ?_
                                refine WP.valG rfl rfl rfl rfl rfl rfl rfl (Val.pickF rfl rfl rfl) ?_
                                refine WP.val rfl rfl rfl (Val.pickT rfl rfl rfl) ?_
                                refine WP.nil ?_
                                refine Out.next ?_
                                refine WPc.ifP rfl (fun h23 => ?_) (fun h23 => ?_)
                                · skip
                                  have h23 : (x.kv.mod < x.kv.create) := h23
                                  refine WPc.seq ?_
                                  refine WPc.region ?_
                                  refine WP.val rfl rfl rfl (Val.assign rfl rfl) ?_
                                  refine WP.nil ?_
                                  refine Out.next ?_
                                  refine WPc.ret ?_
                                  refine Out.block_ret ?_
                                  refine Out.then_ret ?_
                                  refine Out.then_ret ?_
                                  refine Out.block_ret ?_
                                  refine Out.then_ret ?_
                                  refine Out.drop ?_
                                  exact Out.ret1 (L' := [A]) Try.results47 rfl ⟨false, rfl, (fun h => by cases h), rfl⟩ (fun _ h => h)
                                · skip
                                  have h23 : ¬ (x.kv.mod < x.kv.create) := h23
                                  refine WPc.skip ?_
                                  refine Out.block ?_
                                  refine Out.next ?_
                                  refine WPc.region ?_
                                  refine WP.val rfl rfl rfl (Val.add (z := ((i + 1 : Nat) : Int)) rfl rfl rfl ((w64 (by omega) (by omega)).trans (by omega))) ?_
                                  refine WP.val rfl rfl rfl (Val.move rfl rfl) ?_
                                  refine WP.nil ?_
                                  have hx1 : RoOk x := ⟨by omega, by omega, by omega, by omega⟩
                                  refine Out.drop ?_
                                  refine Out.again (i + 1) ?_ ?_ ?_ ?_
                                  · exact ⟨by omega, fun k z hk hz => by rcases Nat.lt_or_ge k i with h0 | h0; exact hg k z h0 hz; rw [show k = i by omega, hx] at hz; cases hz; exact hx1⟩
                                  · first | omega | (dsimp only; omega)
                                  · exact (Sub.cons rfl (Sub.cons rfl (Sub.cons rfl (Sub.cons rfl Sub.nil))))
                                  · exact (fun _ h => h)
                      · skip
                        refine WP.skip rfl rfl rfl rfl rfl rfl rfl ?_
                        refine WP.skip rfl rfl rfl rfl rfl rfl rfl ?_
                        refine WP.skip rfl rfl rfl rfl rfl rfl rfl ?_
                        refine WP.skip rfl rfl rfl rfl rfl rfl rfl ?_
                        refine WP.skip rfl rfl rfl rfl rfl rfl rfl ?_
                        refine WP.skip rfl rfl rfl rfl rfl rfl rfl ?_
                        refine WP.skip rfl rfl rfl rfl rfl rfl rfl ?_
                        refine WP.skip rfl rfl rfl rfl rfl rfl rfl ?_
                        refine WP.skipU rfl rfl rfl rfl rfl rfl ?_
                        refine WP.skipU rfl rfl rfl rfl rfl rfl ?_
                        refine WP.skipU rfl rfl rfl rfl rfl rfl ?_
                        refine WP.skipU rfl rfl rfl rfl rfl rfl ?_
                        refine WP.skip rfl rfl rfl rfl rfl rfl rfl ?_
                        refine WP.skip rfl rfl rfl rfl rfl rfl rfl ?_
                        refine WP.skipU rfl rfl rfl rfl rfl rfl ?_
                        refine WP.skipU rfl rfl rfl rfl rfl rfl ?_
                        refine WP.skipU rfl rfl rfl rfl rfl rfl ?_
                        refine WP.skipU rfl rfl rfl rfl rfl rfl ?_
                        refine WP.skip rfl rfl rfl rfl rfl rfl rfl ?_
                        refine WP.skip rfl rfl rfl rfl rfl rfl rfl ?_
                        refine WP.skipU rfl rfl rfl rfl rfl rfl ?_
                        refine WP.skipU rfl rfl rfl rfl rfl rfl ?_
                        refine WP.skipU rfl rfl rfl rfl rfl rfl ?_
                        refine WP.skipU rfl rfl rfl rfl rfl rfl ?_
                        refine WP.skip rfl rfl rfl rfl rfl rfl rfl ?_
                        refine WP.skip rfl rfl rfl rfl rfl rfl rfl ?_
                        refine WP.skipU rfl rfl rfl rfl rfl rfl ?_
                        refine WP.skipU rfl rfl rfl rfl rfl rfl ?_
                        refine WP.skipU rfl rfl rfl rfl rfl rfl ?_
                        refine WP.skipU rfl rfl rfl rfl rfl rfl ?_
                        refine WP.skipU rfl rfl rfl rfl rfl rfl ?_
                        refine WP.skipU rfl rfl rfl rfl rfl rfl ?_
                        refine WP.skipU rfl rfl rfl rfl rfl rfl ?_
                        refine WP.skip rfl rfl rfl rfl rfl rfl rfl ?_
                        refine WP.val rfl rfl rfl (Val.pickF rfl rfl rfl) ?_
                        refine WP.nil ?_
                        refine Out.next ?_
                        refine WPc.condF rfl rfl ?_
                        refine WPc.skip ?_
                        refine Out.block ?_
                        refine Out.next ?_
                        refine WPc.region ?_
                        refine WP.val rfl rfl rfl (Val.add (z := ((i + 1 : Nat) : Int)) rfl rfl rfl ((w64 (by omega) (by omega)).trans (by omega))) ?_
                        refine WP.val rfl rfl rfl (Val.move rfl rfl) ?_
                        refine WP.nil ?_
                        have hx1 : RoOk x := ⟨by omega, by omega, by omega, by omega⟩
                        refine Out.drop ?_
                        refine Out.again (i + 1) ?_ ?_ ?_ ?_
                        · exact ⟨by omega, fun k z hk hz => by rcases Nat.lt_or_ge k i with h0 | h0; exact hg k z h0 hz; rw [show k = i by omega, hx] at hz; cases hz; exact hx1⟩
                        · first | omega | (dsimp only; omega)
                        · exact (Sub.cons rfl (Sub.cons rfl (Sub.cons rfl (Sub.cons rfl Sub.nil))))
                        · exact (fun _ h => h)
          · skip
            have h5 : ¬ ((0 : Int) < ((i : Nat) : Int)) := h5
            refine WPD.skip 14 rfl rfl rfl rfl rfl rfl rfl rfl (by kernel_rfl) (by kernel_rfl) (by kernel_rfl) (by kernel_rfl) (fun _ _ _ h => h) (fun _ h => h) ?_
            refine WPD.skip 15 rfl rfl rfl rfl rfl rfl rfl rfl (by kernel_rfl) (by kernel_rfl) (by kernel_rfl) (by kernel_rfl) (fun _ _ _ h => h) (fun _ h => h) ?_
            refine WPD.skip 16 rfl rfl rfl rfl rfl rfl rfl rfl (by kernel_rfl) (by kernel_rfl) (by kernel_rfl) (by kernel_rfl) (fun _ _ _ h => h) (fun _ h => h) ?_
            refine WPD.skip 17 rfl rfl rfl rfl rfl rfl rfl rfl (by kernel_rfl) (by kernel_rfl) (by kernel_rfl) (by kernel_rfl) (fun _ _ _ h => h) (fun _ h => h) ?_
            refine WPD.skip 18 rfl rfl rfl rfl rfl rfl rfl rfl (by kernel_rfl) (by kernel_rfl) (by kernel_rfl) (by kernel_rfl) (fun _ _ _ h => h) (fun _ h => h) ?_
            refine WPD.skip 19 rfl rfl rfl rfl rfl rfl rfl rfl (by kernel_rfl) (by kernel_rfl) (by kernel_rfl) (by kernel_rfl) (fun _ _ _ h => h) (fun _ h => h) ?_
            refine WPD.skip 20 rfl rfl rfl rfl rfl rfl rfl rfl (by kernel_rfl) (by kernel_rfl) (by kernel_rfl) (by kernel_rfl) (fun _ _ _ h => h) (fun _ h => h) ?_
            refine WPD.skip 21 rfl rfl rfl rfl rfl rfl rfl rfl (by kernel_rfl) (by kernel_rfl) (by kernel_rfl) (by kernel_rfl) (fun _ _ _ h => h) (fun _ h => h) ?_
            refine WPD.skip 22 rfl rfl rfl rfl rfl rfl rfl rfl (by kernel_rfl) (by kernel_rfl) (by kernel_rfl) (by kernel_rfl) (fun _ _ _ h => h) (fun _ h => h) ?_
            refine WPD.skip 23 rfl rfl rfl rfl rfl rfl rfl rfl (by kernel_rfl) (by kernel_rfl) (by kernel_rfl) (by kernel_rfl) (fun _ _ _ h => h) (fun _ h => h) ?_
            refine WPD.takeGM 24 rfl rfl rfl rfl rfl rfl rfl rfl (by kernel_rfl) (by kernel_rfl) (by kernel_rfl) (by kernel_rfl) (fun _ _ _ h => h) (fun _ h => h) (Val.pickF rfl rfl rfl) ?_
            refine WPD.takeM 25 rfl rfl rfl rfl (by kernel_rfl) (by kernel_rfl) (by kernel_rfl) (by kernel_rfl) (fun _ _ _ h => h) (fun _ h => h) (Val.pickF rfl rfl rfl) ?_
            refine WPD.takeM 26 rfl rfl rfl rfl (by kernel_rfl) (by kernel_rfl) (by kernel_rfl) (by kernel_rfl) (fun _ _ _ h => h) (fun _ h => h) (Val.move rfl rfl) ?_
            refine WPD.takeGM 27 rfl rfl rfl rfl rfl rfl rfl rfl (by kernel_rfl) (by kernel_rfl) (by kernel_rfl) (by kernel_rfl) (fun _ _ _ h => h) (fun _ h => h) (Val.fieldAddr (j := 3) rfl Ty.fo106_2 rfl rfl) ?_
            refine WPD.takeGM 28 rfl rfl rfl rfl rfl rfl rfl rfl (by kernel_rfl) (by kernel_rfl) (by kernel_rfl) (by kernel_rfl) (fun _ _ _ h => h) (fun _ h => h) (Val.fieldAddr (j := 3) rfl Ty.fo104_0 rfl rfl) ?_
            refine WPD.takeG 29 rfl rfl rfl rfl rfl rfl rfl rfl (by kernel_rfl) (by kernel_rfl) (by kernel_rfl) (by kernel_rfl) (fun _ _ _ h => h) (by kernel_rfl) (fun _ h => h) (Val.load rfl Ty.sc9 rfl (fun w h => h.cell 0 rfl rfl)) ?_
            refine WPD.takeG 30 rfl rfl rfl rfl rfl rfl rfl rfl (by kernel_rfl) (by kernel_rfl) (by kernel_rfl) (by kernel_rfl) (fun _ _ _ h => h) (by kernel_rfl) (fun _ h => h) (Val.eqlS rfl rfl rfl) ?_
            refine WPD.takeM 31 rfl rfl rfl rfl (by kernel_rfl) (by kernel_rfl) (by kernel_rfl) (by kernel_rfl) (fun _ _ _ h => h) (fun _ h => h) (Val.pickF rfl rfl rfl) ?_
            refine WPD.takeM 32 rfl rfl rfl rfl (by kernel_rfl) (by kernel_rfl) (by kernel_rfl) (by kernel_rfl) (fun _ _ _ h => h) (fun _ h => h) (Val.move rfl rfl) ?_
            refine WPD.splitB 47 rfl (fun h24 => ?_) (fun h24 => ?_)
            · skip
              refine WPD.skip 33 rfl rfl rfl rfl rfl rfl rfl rfl (by kernel_rfl) (by kernel_rfl) (by kernel_rfl) (by kernel_rfl) (fun _ _ _ h => h) (fun _ h => h) ?_
              refine WPD.skip 34 rfl rfl rfl rfl rfl rfl rfl rfl (by kernel_rfl) (by kernel_rfl) (by kernel_rfl) (by kernel_rfl) (fun _ _ _ h => h) (fun _ h => h) ?_
              refine WPD.skip 35 rfl rfl rfl rfl rfl rfl rfl rfl (by kernel_rfl) (by kernel_rfl) (by kernel_rfl) (by kernel_rfl) (fun _ _ _ h => h) (fun _ h => h) ?_
              refine WPD.skip 36 rfl rfl rfl rfl rfl rfl rfl rfl (by kernel_rfl) (by kernel_rfl) (by kernel_rfl) (by kernel_rfl) (fun _ _ _ h => h) (fun _ h => h) ?_
              refine WPD.skip 37 rfl rfl rfl rfl rfl rfl rfl rfl (by kernel_rfl) (by kernel_rfl) (by kernel_rfl) (by kernel_rfl) (fun _ _ _ h => h) (fun _ h => h) ?_
              refine WPD.takeM 38 rfl rfl rfl rfl (by kernel_rfl) (by kernel_rfl) (by kernel_rfl) (by kernel_rfl) (fun _ _ _ h => h) (fun _ h => h) (Val.pickT rfl rfl rfl) ?_
              refine WPD.takeM 39 rfl rfl rfl rfl (by kernel_rfl) (by kernel_rfl) (by kernel_rfl) (by kernel_rfl) (fun _ _ _ h => h) (fun _ h => h) (Val.move rfl rfl) ?_
              refine WPD.skip 40 rfl rfl rfl rfl rfl rfl rfl rfl (by kernel_rfl) (by kernel_rfl) (by kernel_rfl) (by kernel_rfl) (fun _ _ _ h => h) (fun _ h => h) ?_
              refine WPD.skip 41 rfl rfl rfl rfl rfl rfl rfl rfl (by kernel_rfl) (by kernel_rfl) (by kernel_rfl) (by kernel_rfl) (fun _ _ _ h => h) (fun _ h => h) ?_
              refine WPD.skip 42 rfl rfl rfl rfl rfl rfl rfl rfl (by kernel_rfl) (by kernel_rfl) (by kernel_rfl) (by kernel_rfl) (fun _ _ _ h => h) (fun _ h => h) ?_
              refine WPD.skip 43 rfl rfl rfl rfl rfl rfl rfl rfl (by kernel_rfl) (by kernel_rfl) (by kernel_rfl) (by kernel_rfl) (fun _ _ _ h => h) (fun _ h => h) ?_
              refine WPD.skip 44 rfl rfl rfl rfl rfl rfl rfl rfl (by kernel_rfl) (by kernel_rfl) (by kernel_rfl) (by kernel_rfl) (fun _ _ _ h => h) (fun _ h => h) ?_
              refine WPD.takeM 45 rfl rfl rfl rfl (by kernel_rfl) (by kernel_rfl) (by kernel_rfl) (by kernel_rfl) (fun _ _ _ h => h) (fun _ h => h) (Val.pickT rfl rfl rfl) ?_
              refine WPD.done (by kernel_rfl) ?_
              refine Out.next ?_
              refine WPc.condT rfl rfl ?_
              refine WPc.seq ?_
              refine WPc.region ?_
              refine WP.val rfl rfl rfl (Val.assign rfl rfl) ?_
              refine WP.nil ?_
              refine Out.next ?_
              refine WPc.ret ?_
              refine Out.then_ret ?_
              refine Out.block_ret ?_
              refine Out.then_ret ?_
              refine Out.then_ret ?_
              refine Out.block_ret ?_
              refine Out.then_ret ?_
              refine Out.drop ?_
              exact Out.ret1 (L' := [A]) Try.results47 rfl ⟨false, rfl, (fun h => by cases h), rfl⟩ (fun _ h => h)
            · skip
              refine WPD.takeGM 33 rfl rfl rfl rfl rfl rfl rfl rfl (by kernel_rfl) (by kernel_rfl) (by kernel_rfl) (by kernel_rfl) (fun _ _ _ h => h) (fun _ h => h) (Val.fieldAddr (j := 3) rfl Ty.fo106_2 rfl rfl) ?_
              refine WPD.takeGM 34 rfl rfl rfl rfl rfl rfl rfl rfl (by kernel_rfl) (by kernel_rfl) (by kernel_rfl) (by kernel_rfl) (fun _ _ _ h => h) (fun _ h => h) (Val.fieldAddr (j := 3) rfl Ty.fo104_0 rfl rfl) ?_
              refine WPD.takeG 35 rfl rfl rfl rfl rfl rfl rfl rfl (by kernel_rfl) (by kernel_rfl) (by kernel_rfl) (by kernel_rfl) (fun _ _ _ h => h) (by kernel_rfl) (fun _ h => h) (Val.load rfl Ty.sc9 rfl (fun w h => h.cell 0 rfl rfl)) ?_
              refine WPD.takeG 36 rfl rfl rfl rfl rfl rfl rfl rfl (by kernel_rfl) (by kernel_rfl) (by kernel_rfl) (by kernel_rfl) (fun _ _ _ h => h) (by kernel_rfl) (fun _ h => h) (Val.lenS rfl Ty.st9 rfl) ?_
              refine WPD.takeG 37 rfl rfl rfl rfl rfl rfl rfl rfl (by kernel_rfl) (by kernel_rfl) (by kernel_rfl) (by kernel_rfl) (fun _ _ _ h => h) (by kernel_rfl) (fun _ h => h) (Val.gtr rfl rfl rfl) ?_
              refine WPD.takeM 38 rfl rfl rfl rfl (by kernel_rfl) (by kernel_rfl) (by kernel_rfl) (by kernel_rfl) (fun _ _ _ h => h) (fun _ h => h) (Val.pickF rfl rfl rfl) ?_
              refine WPD.takeM 39 rfl rfl rfl rfl (by kernel_rfl) (by kernel_rfl) (by kernel_rfl) (by kernel_rfl) (fun _ _ _ h => h) (fun _ h => h) (Val.move rfl rfl) ?_
              refine WPD.split 54 rfl (fun h25 => ?_) (fun h25 => ?_)
              · skip
                have h25 : ((60 : Int) < (((x.kv.key).size : Nat) : Int)) := h25
                refine WPD.skip 40 rfl rfl rfl rfl rfl rfl rfl rfl (by kernel_rfl) (by kernel_rfl) (by kernel_rfl) (by kernel_rfl) (fun _ _ _ h => h) (fun _ h => h) ?_
                refine WPD.skip 41 rfl rfl rfl rfl rfl rfl rfl rfl (by kernel_rfl) (by kernel_rfl) (by kernel_rfl) (by kernel_rfl) (fun _ _ _ h => h) (fun _ h => h) ?_
                refine WPD.skip 42 rfl rfl rfl rfl rfl rfl rfl rfl (by kernel_rfl) (by kernel_rfl) (by kernel_rfl) (by kernel_rfl) (fun _ _ _ h => h) (fun _ h => h) ?_
                refine WPD.skip 43 rfl rfl rfl rfl rfl rfl rfl rfl (by kernel_rfl) (by kernel_rfl) (by kernel_rfl) (by kernel_rfl) (fun _ _ _ h => h) (fun _ h => h) ?_
                refine WPD.skip 44 rfl rfl rfl rfl rfl rfl rfl rfl (by kernel_rfl) (by kernel_rfl) (by kernel_rfl) (by kernel_rfl) (fun _ _ _ h => h) (fun _ h => h) ?_
                refine WPD.takeM 45 rfl rfl rfl rfl (by kernel_rfl) (by kernel_rfl) (by kernel_rfl) (by kernel_rfl) (fun _ _ _ h => h) (fun _ h => h) (Val.pickT rfl rfl rfl) ?_
                refine WPD.done (by kernel_rfl) ?_
                refine Out.next ?_
                refine WPc.condT rfl rfl ?_
                refine WPc.seq ?_
                refine WPc.region ?_
                refine WP.val rfl rfl rfl (Val.assign rfl rfl) ?_
                refine WP.nil ?_
                refine Out.next ?_
                refine WPc.ret ?_
                refine Out.then_ret ?_
                refine Out.block_ret ?_
                refine Out.then_ret ?_
                refine Out.then_ret ?_
                refine Out.block_ret ?_
                refine Out.then_ret ?_
                refine Out.drop ?_
                exact Out.ret1 (L' := [A]) Try.results47 rfl ⟨false, rfl, (fun h => by cases h), rfl⟩ (fun _ h => h)
              · skip
                have h25 : ¬ ((60 : Int) < (((x.kv.key).size : Nat) : Int)) := h25
                refine WPD.takeGM 40 rfl rfl rfl rfl rfl rfl rfl rfl (by kernel_rfl) (by kernel_rfl) (by kernel_rfl) (by kernel_rfl) (fun _ _ _ h => h) (fun _ h => h) (Val.fieldAddr (j := 3) rfl Ty.fo106_2 rfl rfl) ?_
                refine WPD.takeGM 41 rfl rfl rfl rfl rfl rfl rfl rfl (by kernel_rfl) (by kernel_rfl) (by kernel_rfl) (by kernel_rfl) (fun _ _ _ h => h) (fun _ h => h) (Val.fieldAddr (j := 4) rfl Ty.fo104_1 rfl rfl) ?_
                refine WPD.takeG 42 rfl rfl rfl rfl rfl rfl rfl rfl (by kernel_rfl) (by kernel_rfl) (by kernel_rfl) (by kernel_rfl) (fun _ _ _ h => h) (by kernel_rfl) (fun _ h => h) (Val.load rfl Ty.sc9 rfl (fun w h => h.cell 0 rfl rfl)) ?_
                refine WPD.takeG 43 rfl rfl rfl rfl rfl rfl rfl rfl (by kernel_rfl) (by kernel_rfl) (by kernel_rfl) (by kernel_rfl) (fun _ _ _ h => h) (by kernel_rfl) (fun _ h => h) (Val.lenS rfl Ty.st9 rfl) ?_
                refine WPD.takeG 44 rfl rfl rfl rfl rfl rfl rfl rfl (by kernel_rfl) (by kernel_rfl) (by kernel_rfl) (by kernel_rfl) (fun _ _ _ h => h) (by kernel_rfl) (fun _ h => h) (Val.gtr rfl rfl rfl) ?_
                refine WPD.takeM 45 rfl rfl rfl rfl (by kernel_rfl) (by kernel_rfl) (by kernel_rfl) (by kernel_rfl) (fun _ _ _ h => h) (fun _ h => h) (Val.pickF rfl rfl rfl) ?_
                refine WPD.done (by kernel_rfl) ?_
                refine Out.next ?_
                refine WPc.ifP rfl (fun h26 => ?_) (fun h26 => ?_)
                · skip
                  have h26 : ((60 : Int) < (((x.kv.val).size : Nat) : Int)) := h26
                  refine WPc.seq ?_
                  refine WPc.region ?_
                  refine WP.val rfl rfl rfl (Val.assign rfl rfl) ?_
                  refine WP.nil ?_
                  refine Out.next ?_
                  refine WPc.ret ?_
                  refine Out.then_ret ?_
                  refine Out.block_ret ?_
                  refine Out.then_ret ?_
                  refine Out.then_ret ?_
                  refine Out.block_ret ?_
                  refine Out.then_ret ?_
                  refine Out.drop ?_
                  exact Out.ret1 (L' := [A]) Try.results47 rfl ⟨false, rfl, (fun h => by cases h), rfl⟩ (fun _ h => h)
                · skip
                  have h26 : ¬ ((60 : Int) < (((x.kv.val).size : Nat) : Int)) := h26
                  refine WPc.skip ?_
                  refine Out.next ?_
                  refine WPc.seq ?_
                  refine WPc.seq ?_
                  refine WPc.region ?_
                  refine WP.val rfl rfl rfl (Val.fieldAddr (j := 2) rfl Ty.fo106_1 rfl rfl) ?_
                  refine WP.val rfl rfl rfl (Val.load rfl Ty.sc4 rfl (fun w h => h.cell 0 rfl rfl)) ?_
                  refine WP.val rfl rfl rfl (Val.move rfl rfl) ?_
                  refine WP.splitB 63 rfl (fun h27 => ?_) (fun h27 => ?_)
                  · skip
                    refine WP.valG rfl rfl rfl rfl rfl rfl rfl (Val.fieldAddr (j := 3) rfl Ty.fo106_2 rfl rfl) ?_
                    refine WP.valG rfl rfl rfl rfl rfl rfl rfl (Val.loadAgg (cs := [.string x.kv.key, .string x.kv.val, .int .i64 (x.kv.create), .int .i64 (x.kv.mod), .int .i64 (x.kv.ver), .int .i64 (x.kv.lease)]) rfl Ty.ag104 rfl rfl (fun w h => h.range 0 rfl rfl)) ?_
                    refine WP.valG rfl rfl rfl rfl rfl rfl rfl (Val.fieldAddr (j := 3) rfl Ty.fo106_2 rfl rfl) ?_
                    refine WP.valG rfl rfl rfl rfl rfl rfl rfl (Val.fieldAddr (j := 3) rfl Ty.fo104_0 rfl rfl) ?_
                    refine WP.valG rfl rfl rfl rfl rfl rfl rfl (Val.load rfl Ty.sc9 rfl (fun w h => h.cell 0 rfl rfl)) ?_
                    refine WP.valG rfl rfl rfl rfl rfl rfl rfl (Val.mk (cs := [.string x.kv.key, .string (⟨#[]⟩), .int .i64 0, .int .i64 0, .int .i64 0, .int .i64 0]) rfl rfl (fun _ => by kernel_rfl)) ?_
                    refine WP.valG rfl rfl rfl rfl rfl rfl rfl (Val.neqKV rfl rfl rfl) ?_
                    refine WP.val rfl rfl rfl (Val.pickT rfl rfl rfl) ?_
                    refine WP.nil ?_
                    refine Out.next ?_
                    refine WPc.cond rfl (fun h28 => ?_) (fun h28 => ?_)
                    · skip
                      have h28 : (!kvEq x.kv.key x.kv.val x.kv.key (⟨#[]⟩) x.kv.create x.kv.mod x.kv.ver x.kv.lease ((0 : Int)) ((0 : Int)) ((0 : Int)) ((0 : Int))) = true := h28
                      refine WPc.seq ?_
                      refine WPc.region ?_
                      refine WP.val rfl rfl rfl (Val.assign rfl rfl) ?_
                      refine WP.nil ?_
                      refine Out.next ?_
                      refine WPc.ret ?_
                      refine Out.then_ret ?_
                      refine Out.block_ret ?_
                      refine Out.then_ret ?_
                      refine Out.then_ret ?_
                      refine Out.block_ret ?_
                      refine Out.then_ret ?_
                      refine Out.drop ?_
                      exact Out.ret1 (L' := [A]) Try.results47 rfl ⟨false, rfl, (fun h => by cases h), rfl⟩ (fun _ h => h)
                    · skip
                      have h28 : (!kvEq x.kv.key x.kv.val x.kv.key (⟨#[]⟩) x.kv.create x.kv.mod x.kv.ver x.kv.lease ((0 : Int)) ((0 : Int)) ((0 : Int)) ((0 : Int))) = false := h28
                      refine WPc.skip ?_
                      refine Out.next ?_
                      refine WPc.seq ?_
                      refine WPc.region ?_
                      refine WP.val rfl rfl rfl (Val.fieldAddr (j := 2) rfl Ty.fo106_1 rfl rfl) ?_
                      refine WP.val rfl rfl rfl (Val.load rfl Ty.sc4 rfl (fun w h => h.cell 0 rfl rfl)) ?_
                      refine WP.val rfl rfl rfl (Val.not rfl rfl) ?_
                      refine WP.val rfl rfl rfl (Val.move rfl rfl) ?_
                      refine WP.splitB 75 rfl (fun h29 => ?_) (fun h29 => ?_)
                      · skip
                        refine WP.valG rfl rfl rfl rfl rfl rfl rfl (Val.fieldAddr (j := 3) rfl Ty.fo106_2 rfl rfl) ?_
                        refine WP.valG rfl rfl rfl rfl rfl rfl rfl (Val.fieldAddr (j := 6) rfl Ty.fo104_3 rfl rfl) ?_
                        refine WP.valG rfl rfl rfl rfl rfl rfl rfl (Val.load rfl Ty.sc2 rfl (fun w h => h.cell 0 rfl rfl)) ?_
                        refine WP.valG rfl rfl rfl rfl rfl rfl rfl (Val.fieldAddr (j := 0) rfl Ty.fo106_0 rfl rfl) ?_
                        refine WP.valG rfl rfl rfl rfl rfl rfl rfl (Val.fieldAddr (j := 0) rfl Ty.fo47_0 rfl rfl) ?_
                        refine WP.valG rfl rfl rfl rfl rfl rfl rfl (Val.load rfl Ty.sc2 rfl (fun w h => h.cell 0 rfl rfl)) ?_
                        refine WP.valG rfl rfl rfl rfl rfl rfl rfl (Val.neq rfl rfl rfl) ?_
                        refine WP.valG rfl rfl rfl rfl rfl rfl rfl (Val.move rfl rfl) ?_
                        refine WP.split 83 rfl (fun h30 => ?_) (fun h30 => ?_)
                        · skip
                          have h30 : (x.kv.mod ≠ x.m) := h30
                          refine WP.skip rfl rfl rfl rfl rfl rfl rfl ?_
                          refine WP.skip rfl rfl rfl rfl rfl rfl rfl ?_
                          refine WP.skip rfl rfl rfl rfl rfl rfl rfl ?_
                          refine WP.skip rfl rfl rfl rfl rfl rfl rfl ?_
                          refine WP.valG rfl rfl rfl rfl rfl rfl rfl (Val.pickT rfl rfl rfl) ?_
                          refine WP.valG rfl rfl rfl rfl rfl rfl rfl (Val.move rfl rfl) ?_
                          refine WP.skip rfl rfl rfl rfl rfl rfl rfl ?_
                          refine WP.skip rfl rfl rfl rfl rfl rfl rfl ?_
                          refine WP.skip rfl rfl rfl rfl rfl rfl rfl ?_
                          refine WP.skip rfl rfl rfl rfl rfl rfl rfl ?_
                          refine WP.valG rfl rfl rfl rfl rfl rfl rfl (Val.pickT rfl rfl rfl) ?_
                          refine WP.valG rfl rfl rfl rfl rfl rfl rfl (Val.move rfl rfl) ?_
                          refine WP.skip rfl rfl rfl rfl rfl rfl rfl ?_
                          refine WP.skip rfl rfl rfl rfl rfl rfl rfl ?_
                          refine WP.skip rfl rfl rfl rfl rfl rfl rfl ?_
                          refine WP.skip rfl rfl rfl rfl rfl rfl rfl ?_
                          refine WP.valG rfl rfl rfl rfl rfl rfl rfl (Val.pickT rfl rfl rfl) ?_
                          refine WP.valG rfl rfl rfl rfl rfl rfl rfl (Val.move rfl rfl) ?_
                          refine WP.skip rfl rfl rfl rfl rfl rfl rfl ?_
                          refine WP.skip rfl rfl rfl rfl rfl rfl rfl ?_
                          refine WP.skip rfl rfl rfl rfl rfl rfl rfl ?_
                          refine WP.skip rfl rfl rfl rfl rfl rfl rfl ?_
                          refine WP.skip rfl rfl rfl rfl rfl rfl rfl ?_
                          refine WP.skip rfl rfl rfl rfl rfl rfl rfl ?_
                          refine WP.skip rfl rfl rfl rfl rfl rfl rfl ?_
                          refine WP.valG rfl rfl rfl rfl rfl rfl rfl (Val.pickT rfl rfl rfl) ?_
                          refine WP.val rfl rfl rfl (Val.pickT rfl rfl rfl) ?_
                          refine WP.nil ?_
                          refine Out.next ?_
                          refine WPc.condT rfl rfl ?_
                          refine WPc.seq ?_
                          refine WPc.region ?_
                          refine WP.val rfl rfl rfl (Val.assign rfl rfl) ?_
                          refine WP.nil ?_
                          refine Out.next ?_
                          refine WPc.ret ?_
                          refine Out.block_ret ?_
                          refine Out.then_ret ?_
                          refine Out.then_ret ?_
                          refine Out.block_ret ?_
                          refine Out.then_ret ?_
                          refine Out.drop ?_
                          exact Out.ret1 (L' := [A]) Try.results47 rfl ⟨false, rfl, (fun h => by cases h), rfl⟩ (fun _ h => h)
                        · skip
                          have h30 : ¬ (x.kv.mod ≠ x.m) := h30
                          refine WP.valG rfl rfl rfl rfl rfl rfl rfl (Val.fieldAddr (j := 3) rfl Ty.fo106_2 rfl rfl) ?_
                          refine WP.valG rfl rfl rfl rfl rfl rfl rfl (Val.fieldAddr (j := 7) rfl Ty.fo104_4 rfl rfl) ?_
                          refine WP.valG rfl rfl rfl rfl rfl rfl rfl (Val.load rfl Ty.sc2 rfl (fun w h => h.cell 0 rfl rfl)) ?_
                          refine WP.valG rfl rfl rfl rfl rfl rfl rfl (Val.lss rfl rfl rfl) ?_
                          refine WP.valG rfl rfl rfl rfl rfl rfl rfl (Val.pickF rfl rfl rfl) ?_
                          refine WP.valG rfl rfl rfl rfl rfl rfl rfl (Val.move rfl rfl) ?_
                          refine WP.split 89 rfl (fun h31 => ?_) (fun h31 => ?_)
                          · skip
                            have h31 : (x.kv.ver < (1 : Int)) := h31
                            refine WP.skip rfl rfl rfl rfl rfl rfl rfl ?_
                            refine WP.skip rfl rfl rfl rfl rfl rfl rfl ?_
                            refine WP.skip rfl rfl rfl rfl rfl rfl rfl ?_
                            refine WP.skip rfl rfl rfl rfl rfl rfl rfl ?_
                            refine WP.valG rfl rfl rfl rfl rfl rfl rfl (Val.pickT rfl rfl rfl) ?_
                            refine WP.valG rfl rfl rfl rfl rfl rfl rfl (Val.move rfl rfl) ?_
                            refine WP.skip rfl rfl rfl rfl rfl rfl rfl ?_
                            refine WP.skip rfl rfl rfl rfl rfl rfl rfl ?_
                            refine WP.skip rfl rfl rfl rfl rfl rfl rfl ?_
                            refine WP.skip rfl rfl rfl rfl rfl rfl rfl ?_
                            refine WP.valG rfl rfl rfl rfl rfl rfl rfl (Val.pickT rfl rfl rfl) ?_
                            refine WP.valG rfl rfl rfl rfl rfl rfl rfl (Val.move rfl rfl) ?_
                            refine WP.skip rfl rfl rfl rfl rfl rfl rfl ?_
                            refine WP.skip rfl rfl rfl rfl rfl rfl rfl ?_
                            refine WP.skip rfl rfl rfl rfl rfl rfl rfl ?_
                            refine WP.skip rfl rfl rfl rfl rfl rfl rfl ?_
                            refine WP.skip rfl rfl rfl rfl rfl rfl rfl ?_
                            refine WP.skip rfl rfl rfl rfl rfl rfl rfl ?_
                            refine WP.skip rfl rfl rfl rfl rfl rfl rfl ?_
                            refine WP.valG rfl rfl rfl rfl rfl rfl rfl (Val.pickT rfl rfl rfl) ?_
                            refine WP.val rfl rfl rfl (Val.pickT rfl rfl rfl) ?_
                            refine WP.nil ?_
                            refine Out.next ?_
                            refine WPc.condT rfl rfl ?_
                            refine WPc.seq ?_
                            refine WPc.region ?_
                            refine WP.val rfl rfl rfl (Val.assign rfl rfl) ?_
                            refine WP.nil ?_
                            refine Out.next ?_
                            refine WPc.ret ?_
                            refine Out.block_ret ?_
                            refine Out.then_ret ?_
                            refine Out.then_ret ?_
                            refine Out.block_ret ?_
                            refine Out.then_ret ?_
                            refine Out.drop ?_
                            exact Out.ret1 (L' := [A]) Try.results47 rfl ⟨false, rfl, (fun h => by cases h), rfl⟩ (fun _ h => h)
                          · skip
                            have h31 : ¬ (x.kv.ver < (1 : Int)) := h31
                            refine WP.valG rfl rfl rfl rfl rfl rfl rfl (Val.fieldAddr (j := 3) rfl Ty.fo106_2 rfl rfl) ?_
                            refine WP.valG rfl rfl rfl rfl rfl rfl rfl (Val.fieldAddr (j := 7) rfl Ty.fo104_4 rfl rfl) ?_
                            refine WP.valG rfl rfl rfl rfl rfl rfl rfl (Val.load rfl Ty.sc2 rfl (fun w h => h.cell 0 rfl rfl)) ?_
                            refine WP.valG rfl rfl rfl rfl rfl rfl rfl (Val.gtr rfl rfl rfl) ?_
                            refine WP.valG rfl rfl rfl rfl rfl rfl rfl (Val.pickF rfl rfl rfl) ?_
                            refine WP.valG rfl rfl rfl rfl rfl rfl rfl (Val.move rfl rfl) ?_
                            refine WP.split 95 rfl (fun h32 => ?_) (fun h32 => ?_)
                            · skip
                              have h32 : ((1152921504606846976 : Int) < x.kv.ver) := h32
                              refine WP.skip rfl rfl rfl rfl rfl rfl rfl ?_
                              refine WP.skip rfl rfl rfl rfl rfl rfl rfl ?_
                              refine WP.skip rfl rfl rfl rfl rfl rfl rfl ?_
                              refine WP.skip rfl rfl rfl rfl rfl rfl rfl ?_
                              refine WP.valG rfl rfl rfl rfl rfl rfl rfl (Val.pickT rfl rfl rfl) ?_
                              refine WP.valG rfl rfl rfl rfl rfl rfl rfl (Val.move rfl rfl) ?_
                              refine WP.skip rfl rfl rfl rfl rfl rfl rfl ?_
                              refine WP.skip rfl rfl rfl rfl rfl rfl rfl ?_
                              refine WP.skip rfl rfl rfl rfl rfl rfl rfl ?_
                              refine WP.skip rfl rfl rfl rfl rfl rfl rfl ?_
                              refine WP.skip rfl rfl rfl rfl rfl rfl rfl ?_
                              refine WP.skip rfl rfl rfl rfl rfl rfl rfl ?_
                              refine WP.skip rfl rfl rfl rfl rfl rfl rfl ?_
                              refine WP.valG rfl rfl rfl rfl rfl rfl rfl (Val.pickT rfl rfl rfl) ?_
                              refine WP.val rfl rfl rfl (Val.pickT rfl rfl rfl) ?_
                              refine WP.nil ?_
                              refine Out.next ?_
                              refine WPc.condT rfl rfl ?_
                              refine WPc.seq ?_
                              refine WPc.region ?_
                              refine WP.val rfl rfl rfl (Val.assign rfl rfl) ?_
                              refine WP.nil ?_
                              refine Out.next ?_
                              refine WPc.ret ?_
                              refine Out.block_ret ?_
                              refine Out.then_ret ?_
                              refine Out.then_ret ?_
                              refine Out.block_ret ?_
                              refine Out.then_ret ?_
                              refine Out.drop ?_
                              exact Out.ret1 (L' := [A]) Try.results47 rfl ⟨false, rfl, (fun h => by cases h), rfl⟩ (fun _ h => h)
                            · skip
                              have h32 : ¬ ((1152921504606846976 : Int) < x.kv.ver) := h32
                              refine WP.valG rfl rfl rfl rfl rfl rfl rfl (Val.fieldAddr (j := 3) rfl Ty.fo106_2 rfl rfl) ?_
                              refine WP.valG rfl rfl rfl rfl rfl rfl rfl (Val.fieldAddr (j := 5) rfl Ty.fo104_2 rfl rfl) ?_
                              refine WP.valG rfl rfl rfl rfl rfl rfl rfl (Val.load rfl Ty.sc2 rfl (fun w h => h.cell 0 rfl rfl)) ?_
                              refine WP.valG rfl rfl rfl rfl rfl rfl rfl (Val.lss rfl rfl rfl) ?_
                              refine WP.valG rfl rfl rfl rfl rfl rfl rfl (Val.pickF rfl rfl rfl) ?_
                              refine WP.valG rfl rfl rfl rfl rfl rfl rfl (Val.move rfl rfl) ?_
                              refine WP.split 101 rfl (fun h33 => ?_) (fun h33 => ?_)
                              · skip
                                have h33 : (x.kv.create < (1 : Int)) := h33
                                refine WP.skip rfl rfl rfl rfl rfl rfl rfl ?_
                                refine WP.skip rfl rfl rfl rfl rfl rfl rfl ?_
                                refine WP.skip rfl rfl rfl rfl rfl rfl rfl ?_
                                refine WP.skip rfl rfl rfl rfl rfl rfl rfl ?_
                                refine WP.skip rfl rfl rfl rfl rfl rfl rfl ?_
                                refine WP.skip rfl rfl rfl rfl rfl rfl rfl ?_
                                refine WP.skip rfl rfl rfl rfl rfl rfl rfl ?_
                                refine WP.valG rfl rfl rfl rfl rfl rfl rfl (Val.pickT rfl rfl rfl) ?_
                                refine WP.val rfl rfl rfl (Val.pickT rfl rfl rfl) ?_
                                refine WP.nil ?_
                                refine Out.next ?_
                                refine WPc.condT rfl rfl ?_
                                refine WPc.seq ?_
                                refine WPc.region ?_
                                refine WP.val rfl rfl rfl (Val.assign rfl rfl) ?_
                                refine WP.nil ?_
                                refine Out.next ?_
                                refine WPc.ret ?_
                                refine Out.block_ret ?_
                                refine Out.then_ret ?_
                                refine Out.then_ret ?_
                                refine Out.block_ret ?_
                                refine Out.then_ret ?_
                                refine Out.drop ?_
                                exact Out.ret1 (L' := [A]) Try.results47 rfl ⟨false, rfl, (fun h => by cases h), rfl⟩ (fun _ h => h)
                              · skip
                                have h33 : ¬ (x.kv.create < (1 : Int)) := h33
                                refine WP.valG rfl rfl rfl rfl rfl rfl rfl (Val.fieldAddr (j := 3) rfl Ty.fo106_2 rfl rfl) ?_
                                refine WP.valG rfl rfl rfl rfl rfl rfl rfl (Val.fieldAddr (j := 5) rfl Ty.fo104_2 rfl rfl) ?_
                                refine WP.valG rfl rfl rfl rfl rfl rfl rfl (Val.load rfl Ty.sc2 rfl (fun w h => h.cell 0 rfl rfl)) ?_
                                refine WP.valG rfl rfl rfl rfl rfl rfl rfl (Val.fieldAddr (j := 3) rfl Ty.fo106_2 rfl rfl) ?_
                                refine WP.valG rfl rfl rfl rfl rfl rfl rfl (Val.fieldAddr (j := 6) rfl Ty.fo104_3 rfl rfl) ?_
                                refine WP.valG rfl rfl rfl rfl rfl rfl rfl (Val.load rfl Ty.sc2 rfl (fun w h => h.cell 0 rfl rfl)) ?_
                                refine WP.valG rfl rfl rfl rfl rfl rfl rfl (Val.gtr rfl rfl rfl) ?_
                                refine WP.valG rfl rfl rfl rfl rfl rfl rfl (Val.pickF rfl rfl rfl) ?_
                                refine WP.val rfl rfl rfl (Val.pickT rfl rfl rfl) ?_
                                refine WP.nil ?_
                                refine Out.next ?_
                                refine WPc.ifP rfl (fun h34 => ?_) (fun h34 => ?_)
                                · skip
                                  have h34 : (x.kv.mod < x.kv.create) := h34
                                  refine WPc.seq ?_
                                  refine WPc.region ?_
                                  refine WP.val rfl rfl rfl (Val.assign rfl rfl) ?_
                                  refine WP.nil ?_
                                  refine Out.next ?_
                                  refine WPc.ret ?_
                                  refine Out.block_ret ?_
                                  refine Out.then_ret ?_
                                  refine Out.then_ret ?_
                                  refine Out.block_ret ?_
                                  refine Out.then_ret ?_
                                  refine Out.drop ?_
                                  exact Out.ret1 (L' := [A]) Try.results47 rfl ⟨false, rfl, (fun h => by cases h), rfl⟩ (fun _ h => h)
                                · skip
                                  have h34 : ¬ (x.kv.mod < x.kv.create) := h34
                                  refine WPc.skip ?_
                                  refine Out.block ?_
                                  refine Out.next ?_
                                  refine WPc.region ?_
                                  refine WP.val rfl rfl rfl (Val.add (z := ((i + 1 : Nat) : Int)) rfl rfl rfl ((w64 (by omega) (by omega)).trans (by omega))) ?_
                                  refine WP.val rfl rfl rfl (Val.move rfl rfl) ?_
                                  refine WP.nil ?_
                                  have hx1 : RoOk x := ⟨by omega, by omega, by omega, by omega⟩
                                  refine Out.drop ?_
                                  refine Out.again (i + 1) ?_ ?_ ?_ ?_
                                  · exact ⟨by omega, fun k z hk hz => by rcases Nat.lt_or_ge k i with h0 | h0; exact hg k z h0 hz; rw [show k = i by omega, hx] at hz; cases hz; exact hx1⟩
                                  · first | omega | (dsimp only; omega)
                                  · exact (Sub.cons rfl (Sub.cons rfl (Sub.cons rfl (Sub.cons rfl Sub.nil))))
                                  · exact (fun _ h => h)
                      · skip
                        refine WP.skip rfl rfl rfl rfl rfl rfl rfl ?_
                        refine WP.skip rfl rfl rfl rfl rfl rfl rfl ?_
                        refine WP.skip rfl rfl rfl rfl rfl rfl rfl ?_
                        refine WP.skip rfl rfl rfl rfl rfl rfl rfl ?_
                        refine WP.skip rfl rfl rfl rfl rfl rfl rfl ?_
                        refine WP.skip rfl rfl rfl rfl rfl rfl rfl ?_
                        refine WP.skip rfl rfl rfl rfl rfl rfl rfl ?_
                        refine WP.skip rfl rfl rfl rfl rfl rfl rfl ?_
                        refine WP.skipU rfl rfl rfl rfl rfl rfl ?_
                        refine WP.skipU rfl rfl rfl rfl rfl rfl ?_
                        refine WP.skipU rfl rfl rfl rfl rfl rfl ?_
                        refine WP.skipU rfl rfl rfl rfl rfl rfl ?_
                        refine WP.skip rfl rfl rfl rfl rfl rfl rfl ?_
                        refine WP.skip rfl rfl rfl rfl rfl rfl rfl ?_
                        refine WP.skipU rfl rfl rfl rfl rfl rfl ?_
                        refine WP.skipU rfl rfl rfl rfl rfl rfl ?_
                        refine WP.skipU rfl rfl rfl rfl rfl rfl ?_
                        refine WP.skipU rfl rfl rfl rfl rfl rfl ?_
                        refine WP.skip rfl rfl rfl rfl rfl rfl rfl ?_
                        refine WP.skip rfl rfl rfl rfl rfl rfl rfl ?_
                        refine WP.skipU rfl rfl rfl rfl rfl rfl ?_
                        refine WP.skipU rfl rfl rfl rfl rfl rfl ?_
                        refine WP.skipU rfl rfl rfl rfl rfl rfl ?_
                        refine WP.skipU rfl rfl rfl rfl rfl rfl ?_
                        refine WP.skip rfl rfl rfl rfl rfl rfl rfl ?_
                        refine WP.skip rfl rfl rfl rfl rfl rfl rfl ?_
                        refine WP.skipU rfl rfl rfl rfl rfl rfl ?_
                        refine WP.skipU rfl rfl rfl rfl rfl rfl ?_
                        refine WP.skipU rfl rfl rfl rfl rfl rfl ?_
                        refine WP.skipU rfl rfl rfl rfl rfl rfl ?_
                        refine WP.skipU rfl rfl rfl rfl rfl rfl ?_
                        refine WP.skipU rfl rfl rfl rfl rfl rfl ?_
                        refine WP.skipU rfl rfl rfl rfl rfl rfl ?_
                        refine WP.skip rfl rfl rfl rfl rfl rfl rfl ?_
                        refine WP.val rfl rfl rfl (Val.pickF rfl rfl rfl) ?_
                        refine WP.nil ?_
                        refine Out.next ?_
                        refine WPc.condF rfl rfl ?_
                        refine WPc.skip ?_
                        refine Out.block ?_
                        refine Out.next ?_
                        refine WPc.region ?_
                        refine WP.val rfl rfl rfl (Val.add (z := ((i + 1 : Nat) : Int)) rfl rfl rfl ((w64 (by omega) (by omega)).trans (by omega))) ?_
                        refine WP.val rfl rfl rfl (Val.move rfl rfl) ?_
                        refine WP.nil ?_
                        have hx1 : RoOk x := ⟨by omega, by omega, by omega, by omega⟩
                        refine Out.drop ?_
                        refine Out.again (i + 1) ?_ ?_ ?_ ?_
                        · exact ⟨by omega, fun k z hk hz => by rcases Nat.lt_or_ge k i with h0 | h0; exact hg k z h0 hz; rw [show k = i by omega, hx] at hz; cases hz; exact hx1⟩
                        · first | omega | (dsimp only; omega)
                        · exact (Sub.cons rfl (Sub.cons rfl (Sub.cons rfl (Sub.cons rfl Sub.nil))))
                        · exact (fun _ h => h)
                  · skip
                    refine WP.skip rfl rfl rfl rfl rfl rfl rfl ?_
                    refine WP.skip rfl rfl rfl rfl rfl rfl rfl ?_
                    refine WP.skip rfl rfl rfl rfl rfl rfl rfl ?_
                    refine WP.skip rfl rfl rfl rfl rfl rfl rfl ?_
                    refine WP.skip rfl rfl rfl rfl rfl rfl rfl ?_
                    refine WP.skip rfl rfl rfl rfl rfl rfl rfl ?_
                    refine WP.skip rfl rfl rfl rfl rfl rfl rfl ?_
                    refine WP.val rfl rfl rfl (Val.pickF rfl rfl rfl) ?_
                    refine WP.nil ?_
                    refine Out.next ?_
                    refine WPc.condF rfl rfl ?_
                    refine WPc.skip ?_
                    refine Out.next ?_
                    refine WPc.seq ?_
                    refine WPc.region ?_
                    refine WP.val rfl rfl rfl (Val.fieldAddr (j := 2) rfl Ty.fo106_1 rfl rfl) ?_
                    refine WP.val rfl rfl rfl (Val.load rfl Ty.sc4 rfl (fun w h => h.cell 0 rfl rfl)) ?_
                    refine WP.val rfl rfl rfl (Val.not rfl rfl) ?_
                    refine WP.val rfl rfl rfl (Val.move rfl rfl) ?_
                    refine WP.splitB 75 rfl (fun h35 => ?_) (fun h35 => ?_)
                    · skip
                      refine WP.valG rfl rfl rfl rfl rfl rfl rfl (Val.fieldAddr (j := 3) rfl Ty.fo106_2 rfl rfl) ?_
                      refine WP.valG rfl rfl rfl rfl rfl rfl rfl (Val.fieldAddr (j := 6) rfl Ty.fo104_3 rfl rfl) ?_
                      refine WP.valG rfl rfl rfl rfl rfl rfl rfl (Val.load rfl Ty.sc2 rfl (fun w h => h.cell 0 rfl rfl)) ?_
                      refine WP.valG rfl rfl rfl rfl rfl rfl rfl (Val.fieldAddr (j := 0) rfl Ty.fo106_0 rfl rfl) ?_
                      refine WP.valG rfl rfl rfl rfl rfl rfl rfl (Val.fieldAddr (j := 0) rfl Ty.fo47_0 rfl rfl) ?_
                      refine WP.valG rfl rfl rfl rfl rfl rfl rfl (Val.load rfl Ty.sc2 rfl (fun w h => h.cell 0 rfl rfl)) ?_
                      refine WP.valG rfl rfl rfl rfl rfl rfl rfl (Val.neq rfl rfl rfl) ?_
                      refine WP.valG rfl rfl rfl rfl rfl rfl rfl (Val.move rfl rfl) ?_
                      refine WP.split 83 rfl (fun h36 => ?_) (fun h36 => ?_)
                      · skip
                        have h36 : (x.kv.mod ≠ x.m) := h36
                        refine WP.skip rfl rfl rfl rfl rfl rfl rfl ?_
                        refine WP.skip rfl rfl rfl rfl rfl rfl rfl ?_
                        refine WP.skip rfl rfl rfl rfl rfl rfl rfl ?_
                        refine WP.skip rfl rfl rfl rfl rfl rfl rfl ?_
                        refine WP.valG rfl rfl rfl rfl rfl rfl rfl (Val.pickT rfl rfl rfl) ?_
                        refine WP.valG rfl rfl rfl rfl rfl rfl rfl (Val.move rfl rfl) ?_
                        refine WP.skip rfl rfl rfl rfl rfl rfl rfl ?_
                        refine WP.skip rfl rfl rfl rfl rfl rfl rfl ?_
                        refine WP.skip rfl rfl rfl rfl rfl rfl rfl ?_
                        refine WP.skip rfl rfl rfl rfl rfl rfl rfl ?_
                        refine WP.valG rfl rfl rfl rfl rfl rfl rfl (Val.pickT rfl rfl rfl) ?_
                        refine WP.valG rfl rfl rfl rfl rfl rfl rfl (Val.move rfl rfl) ?_
                        refine WP.skip rfl rfl rfl rfl rfl rfl rfl ?_
                        refine WP.skip rfl rfl rfl rfl rfl rfl rfl ?_
                        refine WP.skip rfl rfl rfl rfl rfl rfl rfl ?_
                        refine WP.skip rfl rfl rfl rfl rfl rfl rfl ?_
                        refine WP.valG rfl rfl rfl rfl rfl rfl rfl (Val.pickT rfl rfl rfl) ?_
                        refine WP.valG rfl rfl rfl rfl rfl rfl rfl (Val.move rfl rfl) ?_
                        refine WP.skip rfl rfl rfl rfl rfl rfl rfl ?_
                        refine WP.skip rfl rfl rfl rfl rfl rfl rfl ?_
                        refine WP.skip rfl rfl rfl rfl rfl rfl rfl ?_
                        refine WP.skip rfl rfl rfl rfl rfl rfl rfl ?_
                        refine WP.skip rfl rfl rfl rfl rfl rfl rfl ?_
                        refine WP.skip rfl rfl rfl rfl rfl rfl rfl ?_
                        refine WP.skip rfl rfl rfl rfl rfl rfl rfl ?_
                        refine WP.valG rfl rfl rfl rfl rfl rfl rfl (Val.pickT rfl rfl rfl) ?_
                        refine WP.val rfl rfl rfl (Val.pickT rfl rfl rfl) ?_
                        refine WP.nil ?_
                        refine Out.next ?_
                        refine WPc.condT rfl rfl ?_
                        refine WPc.seq ?_
                        refine WPc.region ?_
                        refine WP.val rfl rfl rfl (Val.assign rfl rfl) ?_
                        refine WP.nil ?_
                        refine Out.next ?_
                        refine WPc.ret ?_
                        refine Out.block_ret ?_
                        refine Out.then_ret ?_
                        refine Out.then_ret ?_
                        refine Out.block_ret ?_
                        refine Out.then_ret ?_
                        refine Out.drop ?_
                        exact Out.ret1 (L' := [A]) Try.results47 rfl ⟨false, rfl, (fun h => by cases h), rfl⟩ (fun _ h => h)
                      · skip
                        have h36 : ¬ (x.kv.mod ≠ x.m) := h36
                        refine WP.valG rfl rfl rfl rfl rfl rfl rfl (Val.fieldAddr (j := 3) rfl Ty.fo106_2 rfl rfl) ?_
                        refine WP.valG rfl rfl rfl rfl rfl rfl rfl (Val.fieldAddr (j := 7) rfl Ty.fo104_4 rfl rfl) ?_
                        refine WP.valG rfl rfl rfl rfl rfl rfl rfl (Val.load rfl Ty.sc2 rfl (fun w h => h.cell 0 rfl rfl)) ?_
                        refine WP.valG rfl rfl rfl rfl rfl rfl rfl (Val.lss rfl rfl rfl) ?_
                        refine WP.valG rfl rfl rfl rfl rfl rfl rfl (Val.pickF rfl rfl rfl) ?_
                        refine WP.valG rfl rfl rfl rfl rfl rfl rfl (Val.move rfl rfl) ?_
                        refine WP.split 89 rfl (fun h37 => ?_) (fun h37 => ?_)
                        · skip
                          have h37 : (x.kv.ver < (1 : Int)) := h37
                          refine WP.skip rfl rfl rfl rfl rfl rfl rfl ?_
                          refine WP.skip rfl rfl rfl rfl rfl rfl rfl ?_
                          refine WP.skip rfl rfl rfl rfl rfl rfl rfl ?_
                          refine WP.skip rfl rfl rfl rfl rfl rfl rfl ?_
                          refine WP.valG rfl rfl rfl rfl rfl rfl rfl (Val.pickT rfl rfl rfl) ?_
                          refine WP.valG rfl rfl rfl rfl rfl rfl rfl (Val.move rfl rfl) ?_
                          refine WP.skip rfl rfl rfl rfl rfl rfl rfl ?_
                          refine WP.skip rfl rfl rfl rfl rfl rfl rfl ?_
                          refine WP.skip rfl rfl rfl rfl rfl rfl rfl ?_
                          refine WP.skip rfl rfl rfl rfl rfl rfl rfl ?_
                          refine WP.valG rfl rfl rfl rfl rfl rfl rfl (Val.pickT rfl rfl rfl) ?_
                          refine WP.valG rfl rfl rfl rfl rfl rfl rfl (Val.move rfl rfl) ?_
                          refine WP.skip rfl rfl rfl rfl rfl rfl rfl ?_
                          refine WP.skip rfl rfl rfl rfl rfl rfl rfl ?_
                          refine WP.skip rfl rfl rfl rfl rfl rfl rfl ?_
                          refine WP.skip rfl rfl rfl rfl rfl rfl rfl ?_
                          refine WP.skip rfl rfl rfl rfl rfl rfl rfl ?_
                          refine WP.skip rfl rfl rfl rfl rfl rfl rfl ?_
                          refine WP.skip rfl rfl rfl rfl rfl rfl rfl ?_
                          refine WP.valG rfl rfl rfl rfl rfl rfl rfl (Val.pickT rfl rfl rfl) ?_
                          refine WP.val rfl rfl rfl (Val.pickT rfl rfl rfl) ?_
                          refine WP.nil ?_
                          refine Out.next ?_
                          refine WPc.condT rfl rfl ?_
                          refine WPc.seq ?_
                          refine WPc.region ?_
                          refine WP.val rfl rfl rfl (Val.assign rfl rfl) ?_
                          refine WP.nil ?_
                          refine Out.next ?_
                          refine WPc.ret ?_
                          refine Out.block_ret ?_
                          refine Out.then_ret ?_
                          refine Out.then_ret ?_
                          refine Out.block_ret ?_
                          refine Out.then_ret ?_
                          refine Out.drop ?_
                          exact Out.ret1 (L' := [A]) Try.results47 rfl ⟨false, rfl, (fun h => by cases h), rfl⟩ (fun _ h => h)
                        · skip
                          have h37 : ¬ (x.kv.ver < (1 : Int)) := h37
                          refine WP.valG rfl rfl rfl rfl rfl rfl rfl (Val.fieldAddr (j := 3) rfl Ty.fo106_2 rfl rfl) ?_
                          refine WP.valG rfl rfl rfl rfl rfl rfl rfl (Val.fieldAddr (j := 7) rfl Ty.fo104_4 rfl rfl) ?_
                          refine WP.valG rfl rfl rfl rfl rfl rfl rfl (Val.load rfl Ty.sc2 rfl (fun w h => h.cell 0 rfl rfl)) ?_
                          refine WP.valG rfl rfl rfl rfl rfl rfl rfl (Val.gtr rfl rfl rfl) ?_
                          refine WP.valG rfl rfl rfl rfl rfl rfl rfl (Val.pickF rfl rfl rfl) ?_
                          refine WP.valG rfl rfl rfl rfl rfl rfl rfl (Val.move rfl rfl) ?_
                          refine WP.split 95 rfl (fun h38 => ?_) (fun h38 => ?_)
                          · skip
                            have h38 : ((1152921504606846976 : Int) < x.kv.ver) := h38
                            refine WP.skip rfl rfl rfl rfl rfl rfl rfl ?_
                            refine WP.skip rfl rfl rfl rfl rfl rfl rfl ?_
                            refine WP.skip rfl rfl rfl rfl rfl rfl rfl ?_
                            refine WP.skip rfl rfl rfl rfl rfl rfl rfl ?_
                            refine WP.valG rfl rfl rfl rfl rfl rfl rfl (Val.pickT rfl rfl rfl) ?_
                            refine WP.valG rfl rfl rfl rfl rfl rfl rfl (Val.move rfl rfl) ?_
                            refine WP.skip rfl rfl rfl rfl rfl rfl rfl ?_
                            refine WP.skip rfl rfl rfl rfl rfl rfl rfl ?_
                            refine WP.skip rfl rfl rfl rfl rfl rfl rfl ?_
                            refine WP.skip rfl rfl rfl rfl rfl rfl rfl ?_
                            refine WP.skip rfl rfl rfl rfl rfl rfl rfl ?_
                            refine WP.skip rfl rfl rfl rfl rfl rfl rfl ?_
                            refine WP.skip rfl rfl rfl rfl rfl rfl rfl ?_
                            refine WP.valG rfl rfl rfl rfl rfl rfl rfl (Val.pickT rfl rfl rfl) ?_
                            refine WP.val rfl rfl rfl (Val.pickT rfl rfl rfl) ?_
                            refine WP.nil ?_
                            refine Out.next ?_
                            refine WPc.condT rfl rfl ?_
                            refine WPc.seq ?_
                            refine WPc.region ?_
                            refine WP.val rfl rfl rfl (Val.assign rfl rfl) ?_
                            refine WP.nil ?_
                            refine Out.next ?_
                            refine WPc.ret ?_
                            refine Out.block_ret ?_
                            refine Out.then_ret ?_
                            refine Out.then_ret ?_
                            refine Out.block_ret ?_
                            refine Out.then_ret ?_
                            refine Out.drop ?_
                            exact Out.ret1 (L' := [A]) Try.results47 rfl ⟨false, rfl, (fun h => by cases h), rfl⟩ (fun _ h => h)
                          · skip
                            have h38 : ¬ ((1152921504606846976 : Int) < x.kv.ver) := h38
                            refine WP.valG rfl rfl rfl rfl rfl rfl rfl (Val.fieldAddr (j := 3) rfl Ty.fo106_2 rfl rfl) ?_
                            refine WP.valG rfl rfl rfl rfl rfl rfl rfl (Val.fieldAddr (j := 5) rfl Ty.fo104_2 rfl rfl) ?_
                            refine WP.valG rfl rfl rfl rfl rfl rfl rfl (Val.load rfl Ty.sc2 rfl (fun w h => h.cell 0 rfl rfl)) ?_
                            refine WP.valG rfl rfl rfl rfl rfl rfl rfl (Val.lss rfl rfl rfl) ?_
                            refine WP.valG rfl rfl rfl rfl rfl rfl rfl (Val.pickF rfl rfl rfl) ?_
                            refine WP.valG rfl rfl rfl rfl rfl rfl rfl (Val.move rfl rfl) ?_
                            refine WP.split 101 rfl (fun h39 => ?_) (fun h39 => ?_)
                            · skip
                              have h39 : (x.kv.create < (1 : Int)) := h39
                              refine WP.skip rfl rfl rfl rfl rfl rfl rfl ?_
                              refine WP.skip rfl rfl rfl rfl rfl rfl rfl ?_
                              refine WP.skip rfl rfl rfl rfl rfl rfl rfl ?_
                              refine WP.skip rfl rfl rfl rfl rfl rfl rfl ?_
                              refine WP.skip rfl rfl rfl rfl rfl rfl rfl ?_
                              refine WP.skip rfl rfl rfl rfl rfl rfl rfl ?_
                              refine WP.skip rfl rfl rfl rfl rfl rfl rfl ?_
                              refine WP.valG rfl rfl rfl rfl rfl rfl rfl (Val.pickT rfl rfl rfl) ?_
                              refine WP.val rfl rfl rfl (Val.pickT rfl rfl rfl) ?_
                              refine WP.nil ?_
                              refine Out.next ?_
                              refine WPc.condT rfl rfl ?_
                              refine WPc.seq ?_
                              refine WPc.region ?_
                              refine WP.val rfl rfl rfl (Val.assign rfl rfl) ?_
                              refine WP.nil ?_
                              refine Out.next ?_
                              refine WPc.ret ?_
                              refine Out.block_ret ?_
                              refine Out.then_ret ?_
                              refine Out.then_ret ?_
                              refine Out.block_ret ?_
                              refine Out.then_ret ?_
                              refine Out.drop ?_
                              exact Out.ret1 (L' := [A]) Try.results47 rfl ⟨false, rfl, (fun h => by cases h), rfl⟩ (fun _ h => h)
                            · skip
                              have h39 : ¬ (x.kv.create < (1 : Int)) := h39
                              refine WP.valG rfl rfl rfl rfl rfl rfl rfl (Val.fieldAddr (j := 3) rfl Ty.fo106_2 rfl rfl) ?_
                              refine WP.valG rfl rfl rfl rfl rfl rfl rfl (Val.fieldAddr (j := 5) rfl Ty.fo104_2 rfl rfl) ?_
                              refine WP.valG rfl rfl rfl rfl rfl rfl rfl (Val.load rfl Ty.sc2 rfl (fun w h => h.cell 0 rfl rfl)) ?_
                              refine WP.valG rfl rfl rfl rfl rfl rfl rfl (Val.fieldAddr (j := 3) rfl Ty.fo106_2 rfl rfl) ?_
                              refine WP.valG rfl rfl rfl rfl rfl rfl rfl (Val.fieldAddr (j := 6) rfl Ty.fo104_3 rfl rfl) ?_
                              refine WP.valG rfl rfl rfl rfl rfl rfl rfl (Val.load rfl Ty.sc2 rfl (fun w h => h.cell 0 rfl rfl)) ?_
                              refine WP.valG rfl rfl rfl rfl rfl rfl rfl (Val.gtr rfl rfl rfl) ?_
                              refine WP.valG rfl rfl rfl rfl rfl rfl rfl (Val.pickF rfl rfl rfl) ?_
                              refine WP.val rfl rfl rfl (Val.pickT rfl rfl rfl) ?_
                              refine WP.nil ?_
                              refine Out.next ?_
                              refine WPc.ifP rfl (fun h40 => ?_) (fun h40 => ?_)
                              · skip
                                have h40 : (x.kv.mod < x.kv.create) := h40
                                refine WPc.seq ?_
                                refine WPc.region ?_
                                refine WP.val rfl rfl rfl (Val.assign rfl rfl) ?_
                                refine WP.nil ?_
                                refine Out.next ?_
                                refine WPc.ret ?_
                                refine Out.block_ret ?_
                                refine Out.then_ret ?_
                                refine Out.then_ret ?_
                                refine Out.block_ret ?_
                                refine Out.then_ret ?_
                                refine Out.drop ?_
                                exact Out.ret1 (L' := [A]) Try.results47 rfl ⟨false, rfl, (fun h => by cases h), rfl⟩ (fun _ h => h)
                              · skip
                                have h40 : ¬ (x.kv.mod < x.kv.create) := h40
                                refine WPc.skip ?_
                                refine Out.block ?_
                                refine Out.next ?_
                                refine WPc.region ?_
                                refine WP.val rfl rfl rfl (Val.add (z := ((i + 1 : Nat) : Int)) rfl rfl rfl ((w64 (by omega) (by omega)).trans (by omega))) ?_
                                refine WP.val rfl rfl rfl (Val.move rfl rfl) ?_
                                refine WP.nil ?_
                                have hx1 : RoOk x := ⟨by omega, by omega, by omega, by omega⟩
                                refine Out.drop ?_
                                refine Out.again (i + 1) ?_ ?_ ?_ ?_
                                · exact ⟨by omega, fun k z hk hz => by rcases Nat.lt_or_ge k i with h0 | h0; exact hg k z h0 hz; rw [show k = i by omega, hx] at hz; cases hz; exact hx1⟩
                                · first | omega | (dsimp only; omega)
                                · exact (Sub.cons rfl (Sub.cons rfl (Sub.cons rfl (Sub.cons rfl Sub.nil))))
                                · exact (fun _ h => h)
                    · skip
                      refine WP.skip rfl rfl rfl rfl rfl rfl rfl ?_
                      refine WP.skip rfl rfl rfl rfl rfl rfl rfl ?_
                      refine WP.skip rfl rfl rfl rfl rfl rfl rfl ?_
                      refine WP.skip rfl rfl rfl rfl rfl rfl rfl ?_
                      refine WP.skip rfl rfl rfl rfl rfl rfl rfl ?_
                      refine WP.skip rfl rfl rfl rfl rfl rfl rfl ?_
                      refine WP.skip rfl rfl rfl rfl rfl rfl rfl ?_
                      refine WP.skip rfl rfl rfl rfl rfl rfl rfl ?_
                      refine WP.skipU rfl rfl rfl rfl rfl rfl ?_
                      refine WP.skipU rfl rfl rfl rfl rfl rfl ?_
                      refine WP.skipU rfl rfl rfl rfl rfl rfl ?_
                      refine WP.skipU rfl rfl rfl rfl rfl rfl ?_
                      refine WP.skip rfl rfl rfl rfl rfl rfl rfl ?_
                      refine WP.skip rfl rfl rfl rfl rfl rfl rfl ?_
                      refine WP.skipU rfl rfl rfl rfl rfl rfl ?_
                      refine WP.skipU rfl rfl rfl rfl rfl rfl ?_
                      refine WP.skipU rfl rfl rfl rfl rfl rfl ?_
                      refine WP.skipU rfl rfl rfl rfl rfl rfl ?_
                      refine WP.skip rfl rfl rfl rfl rfl rfl rfl ?_
                      refine WP.skip rfl rfl rfl rfl rfl rfl rfl ?_
                      refine WP.skipU rfl rfl rfl rfl rfl rfl ?_
                      refine WP.skipU rfl rfl rfl rfl rfl rfl ?_
                      refine WP.skipU rfl rfl rfl rfl rfl rfl ?_
                      refine WP.skipU rfl rfl rfl rfl rfl rfl ?_
                      refine WP.skip rfl rfl rfl rfl rfl rfl rfl ?_
                      refine WP.skip rfl rfl rfl rfl rfl rfl rfl ?_
                      refine WP.skipU rfl rfl rfl rfl rfl rfl ?_
                      refine WP.skipU rfl rfl rfl rfl rfl rfl ?_
                      refine WP.skipU rfl rfl rfl rfl rfl rfl ?_
                      refine WP.skipU rfl rfl rfl rfl rfl rfl ?_
                      refine WP.skipU rfl rfl rfl rfl rfl rfl ?_
                      refine WP.skipU rfl rfl rfl rfl rfl rfl ?_
                      refine WP.skipU rfl rfl rfl rfl rfl rfl ?_
                      refine WP.skip rfl rfl rfl rfl rfl rfl rfl ?_
                      refine WP.val rfl rfl rfl (Val.pickF rfl rfl rfl) ?_
                      refine WP.nil ?_
                      refine Out.next ?_
                      refine WPc.condF rfl rfl ?_
                      refine WPc.skip ?_
                      refine Out.block ?_
                      refine Out.next ?_
                      refine WPc.region ?_
                      refine WP.val rfl rfl rfl (Val.add (z := ((i + 1 : Nat) : Int)) rfl rfl rfl ((w64 (by omega) (by omega)).trans (by omega))) ?_
                      refine WP.val rfl rfl rfl (Val.move rfl rfl) ?_
                      refine WP.nil ?_
                      have hx1 : RoOk x := ⟨by omega, by omega, by omega, by omega⟩
                      refine Out.drop ?_
                      refine Out.again (i + 1) ?_ ?_ ?_ ?_
                      · exact ⟨by omega, fun k z hk hz => by rcases Nat.lt_or_ge k i with h0 | h0; exact hg k z h0 hz; rw [show k = i by omega, hx] at hz; cases hz; exact hx1⟩
                      · first | omega | (dsimp only; omega)
                      · exact (Sub.cons rfl (Sub.cons rfl (Sub.cons rfl (Sub.cons rfl Sub.nil))))
                      · exact (fun _ h => h)
    · skip
      have h2 : ¬ (((i : Nat) : Int) < (((l).length : Nat) : Int)) := h2
      refine WPc.exit ?_
      refine Out.then_exit ?_
      refine Out.then_exit ?_
      refine Out.block_exit ?_
      refine Out.next ?_
      refine WPc.seq ?_
      refine WPc.region ?_
      refine WP.val rfl rfl rfl (Val.assign rfl rfl) ?_
      refine WP.nil ?_
      refine Out.next ?_
      refine WPc.ret ?_
      exact Out.ret1 (L' := [A]) Try.results47 rfl ⟨true, rfl, (fun _ => ⟨by first | omega | (simp at *; done), fun x hx => by obtain ⟨k, hk⟩ := List.mem_iff_getElem?.1 hx; exact hg k x (by have := (List.getElem?_eq_some_iff.1 hk).1; omega) hk⟩), rfl⟩ (fun _ h => h)

theorem good_spec (A : HProp) (l : List Rw) (hl : l.length ≤ 9223372036854775807) (va : Value) (hva : Rd A 9 Rw.cells va l) : Does Try.prog 47 [va] [A] (fun v L => ∃ b, v = .bool b ∧ (b = true → l.length ≤ 200 ∧ ∀ x ∈ l, RoOk x) ∧ L = [A]) := by
  rcases hva with ⟨b0, o0, c0, rfl, hr⟩ | ⟨rfl, a, c, rfl⟩
  · exact good_row A l hl b0 o0 c0 hr
  · exact good_nil A a c

end Go.Proofs.Ythmkdioafjmclaa.Hv
