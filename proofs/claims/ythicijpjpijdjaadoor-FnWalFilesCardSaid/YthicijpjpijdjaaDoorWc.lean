import Derived.Test.YthicijpjpijdjaaDoorWb
namespace Go.Proofs.YthicijpjpijdjaaDoor.Wc
open Go.RowKit Go.Proofs.YthicijpjpijdjaaDoor Go.Proofs.YthicijpjpijdjaaDoor.Sl Go.Proofs.YthicijpjpijdjaaDoor.Wa Go.Proofs.YthicijpjpijdjaaDoor.Wb
set_option linter.unusedVariables false
set_option linter.unusedSimpArgs false
set_option linter.unusedSectionVars false


theorem str_app (a b : List UInt8) : str a ++ str b = str (a ++ b) := by
  apply ByteArray.ext
  simp [str]
theorem str_list (s : ByteArray) : str s.data.toList = s := by cases s; simp [str]
theorem str_size (l : List UInt8) : (str l).size = l.length := by simp [str, ByteArray.size]
section
variable {P : Program} {n : Nat} {l : List (Nat × Value)} {G : World → Prop} {o : Oper}
theorem Val.addL {t u : TypeId} {x y : Operand} {a b : List UInt8} (ho : o.op = .binOp .add t x y u) (hx : ev l x = some (.string (str a))) (hy : ev l y = some (.string (str b))) (hlen : a.length + b.length ≤ 4294967296) : Val P n l G o (.string (str (a ++ b))) := by
  rw [← str_app]
  exact Val.addS ho hx hy (by rw [str_size, str_size]; omega)
theorem Val.lenL {t : TypeId} {x : Operand} {a : List UInt8} (ho : o.op = .call { callee := .builtin .len, args := #[x], argTypes := #[t] }) (ht : isStr P t = true) (hx : ev l x = some (.string (str a))) : Val P n l G o (.int .i64 ((a.length : Nat) : Int)) := by
  have h := Val.lenS (n := n) (G := G) ho ht hx
  rwa [str_size] at h
end
/-- a record -/
structure WR where
  ty : Int
  ht : Bool
  c : Int
  hc : Bool
  d : List UInt8
  has : Bool
def WR.cells (x : WR) : List Value := [.int .i64 x.ty, .bool x.ht, .int .u32 x.c, .bool x.hc, .string (str x.d), .bool x.has]
theorem WR.len (x : WR) : x.cells.length = 6 := rfl
/-- its body, with a sum -/
def wbody (x : WR) (sum : Int) : List UInt8 := [8] ++ vint (IntKind.wrap .u64 x.ty) ++ [16] ++ vint (IntKind.wrap .u64 sum) ++ (if x.has then [26] ++ vint (IntKind.wrap .u64 ((x.d.length : Nat) : Int)) ++ x.d else [])
theorem wbody_len (x : WR) (sum : Int) : (wbody x sum).length ≤ 40 + x.d.length := by
  have h1 := vint_len (IntKind.wrap .u64 x.ty)
  have h2 := vint_len (IntKind.wrap .u64 sum)
  have h3 := vint_len (IntKind.wrap .u64 ((x.d.length : Nat) : Int))
  unfold wbody
  split <;> simp <;> omega
set_option maxRecDepth 100000 in
set_option maxHeartbeats 2000000 in
theorem wbody_spec (x : WR) (sum : Int) (hd : x.d.length ≤ 1000000) : Does Tryd.prog 29 [.agg #[.int .i64 (x.ty), .bool (x.ht), .int .u32 (x.c), .bool (x.hc), .string (str (x.d)), .bool (x.has)], .int .u32 (sum)] [] (fun v L => v = .string (str (wbody x sum)) ∧ L = []) := by
  refine Does.enter 30 Tryd.func29 rfl rfl rfl fun W F => ?_
  show WPc _ _ _ _ _ [(0, .agg #[.int .i64 (x.ty), .bool (x.ht), .int .u32 (x.c), .bool (x.hc), .string (str (x.d)), .bool (x.has)]), (1, .int .u32 (sum))] (F)
  refine WPc.seq ?_
  refine WPc.region ?_
  refine WP.eff rfl rfl rfl (Eff.box (C := [.int .i64 (x.ty), .bool (x.ht), .int .u32 (x.c), .bool (x.hc), .string (str (x.d)), .bool (x.has)]) rfl rfl rfl) ?_
  rintro _ F ⟨b1, rfl, rfl⟩
  refine WP.val rfl rfl rfl (Val.assign rfl rfl) ?_
  refine WP.nil ?_
  refine Out.next ?_
  refine WPc.seq ?_
  refine WPc.region ?_
  refine WP.val rfl rfl rfl (Val.fieldAddr (j := 0) rfl Ty.fo44_0 rfl rfl) ?_
  refine WP.val rfl rfl rfl (Val.load rfl Ty.sc2 rfl (fun w h => h.cell 0 rfl rfl)) ?_
  refine WP.val rfl rfl rfl (Val.conv (z := IntKind.wrap .u64 x.ty) rfl Ty.ik94 Ty.un2 rfl rfl) ?_
  have hvl1 := vint_len (IntKind.wrap .u64 x.ty)
  refine WP.eff rfl rfl rfl (Eff.call rfl rfl Tryd.call35 (svarint_spec (IntKind.wrap .u64 x.ty) (u64_range _))) ?_
  rintro _ _ ⟨_, ⟨rfl, rfl⟩, rfl⟩
  show WP _ _ _ _ _ _ _ (Blk b1 [.int .i64 (x.ty), .bool (x.ht), .int .u32 (x.c), .bool (x.hc), .string (str (x.d)), .bool (x.has)] 44 :: F)
  refine WP.val rfl rfl rfl (Val.addL (a := [8]) (b := vint (IntKind.wrap .u64 x.ty)) rfl rfl rfl (by simp; omega)) ?_
  refine WP.val rfl rfl rfl (Val.addL (a := [8] ++ vint (IntKind.wrap .u64 x.ty)) (b := [16]) rfl rfl rfl (by simp; omega)) ?_
  refine WP.val rfl rfl rfl (Val.move rfl rfl) ?_
  refine WP.val rfl rfl rfl (Val.conv (z := IntKind.wrap .u64 sum) rfl Ty.ik94 Ty.un22 rfl rfl) ?_
  have hvl2 := vint_len (IntKind.wrap .u64 sum)
  refine WP.eff rfl rfl rfl (Eff.call rfl rfl Tryd.call35 (svarint_spec (IntKind.wrap .u64 sum) (u64_range _))) ?_
  rintro _ _ ⟨_, ⟨rfl, rfl⟩, rfl⟩
  show WP _ _ _ _ _ _ _ (Blk b1 [.int .i64 (x.ty), .bool (x.ht), .int .u32 (x.c), .bool (x.hc), .string (str (x.d)), .bool (x.has)] 44 :: F)
  refine WP.val rfl rfl rfl (Val.addL (a := [8] ++ vint (IntKind.wrap .u64 x.ty) ++ [16]) (b := vint (IntKind.wrap .u64 sum)) rfl rfl rfl (by simp; omega)) ?_
  refine WP.val rfl rfl rfl (Val.assign rfl rfl) ?_
  refine WP.nil ?_
  refine Out.next ?_
  refine WPc.seq ?_
  refine WPc.seq ?_
  refine WPc.region ?_
  refine WP.val rfl rfl rfl (Val.fieldAddr (j := 5) rfl Ty.fo44_5 rfl rfl) ?_
  refine WP.val rfl rfl rfl (Val.load rfl Ty.sc4 rfl (fun w h => h.cell 0 rfl rfl)) ?_
  refine WP.nil ?_
  refine Out.next ?_
  refine WPc.cond rfl (fun h1 => ?_) (fun h1 => ?_)
  · skip
    have h1 : (x.has) = true := h1
    refine WPD.start (Sat W [Blk b1 [.int .i64 (x.ty), .bool (x.ht), .int .u32 (x.c), .bool (x.hc), .string (str (x.d)), .bool (x.has)] 44]) Ty.mixed ?_
    refine WPD.takeM 0 rfl rfl rfl rfl (by kernel_rfl) (by kernel_rfl) (by kernel_rfl) (by kernel_rfl) (fun _ _ _ h => h) (fun w h => (h).dropEnd (L := [_])) (Val.move rfl rfl) ?_
    refine WPD.takeM 1 rfl rfl rfl rfl (by kernel_rfl) (by kernel_rfl) (by kernel_rfl) (by kernel_rfl) (fun _ _ _ h => h) (fun w h => (h).dropEnd (L := [_])) (Val.fieldAddr (j := 4) rfl Ty.fo44_4 rfl rfl) ?_
    refine WPD.take 2 rfl rfl rfl rfl (by kernel_rfl) (by kernel_rfl) (by kernel_rfl) (by kernel_rfl) (fun _ _ _ h => h) (by kernel_rfl) (fun w h => (h).dropEnd (L := [_])) (Val.load rfl Ty.sc9 rfl (fun w h => h.cell 0 rfl rfl)) ?_
    refine WPD.take 3 rfl rfl rfl rfl (by kernel_rfl) (by kernel_rfl) (by kernel_rfl) (by kernel_rfl) (fun _ _ _ h => h) (by kernel_rfl) (fun w h => (h).dropEnd (L := [_])) (Val.lenL rfl Ty.st9 rfl) ?_
    refine WPD.take 4 rfl rfl rfl rfl (by kernel_rfl) (by kernel_rfl) (by kernel_rfl) (by kernel_rfl) (fun _ _ _ h => h) (by kernel_rfl) (fun w h => (h).dropEnd (L := [_])) (Val.conv (z := IntKind.wrap .u64 ((x.d.length : Nat) : Int)) rfl Ty.ik94 Ty.un3 rfl rfl) ?_
    refine WPD.takeM 7 rfl rfl rfl rfl (by kernel_rfl) (by kernel_rfl) (by kernel_rfl) (by kernel_rfl) (fun _ _ _ h => h) (fun w h => (h).dropEnd (L := [_])) (Val.fieldAddr (j := 4) rfl Ty.fo44_4 rfl rfl) ?_
    refine WPD.take 8 rfl rfl rfl rfl (by kernel_rfl) (by kernel_rfl) (by kernel_rfl) (by kernel_rfl) (fun _ _ _ h => h) (by kernel_rfl) (fun w h => (h).dropEnd (L := [_])) (Val.load rfl Ty.sc9 rfl (fun w h => h.cell 0 rfl rfl)) ?_
    have hvl3 := vint_len ((IntKind.wrap .u64 ((x.d.length : Nat) : Int)))
    refine WPD.step 5 (by kernel_rfl) rfl rfl rfl rfl (Eff.call rfl rfl Tryd.call35 (svarint_spec ((IntKind.wrap .u64 ((x.d.length : Nat) : Int))) (u64_range _))) ?_
    rintro _ _ ⟨_, ⟨rfl, rfl⟩, rfl⟩
    refine ⟨(fun w h => (h).dropEnd (L := [_])), ?_⟩
    show WPD _ _ _ _ _ _ _ _ _ (Blk b1 [.int .i64 (x.ty), .bool (x.ht), .int .u32 (x.c), .bool (x.hc), .string (str (x.d)), .bool (x.has)] 44 :: F)
    refine WPD.takeM 6 rfl rfl rfl rfl (by kernel_rfl) (by kernel_rfl) (by kernel_rfl) (by kernel_rfl) (fun _ _ _ h => h) (fun w h => (h).dropEnd (L := [_])) (Val.addL (a := [26]) (b := vint ((IntKind.wrap .u64 ((x.d.length : Nat) : Int)))) rfl rfl rfl (by simp; omega)) ?_
    refine WPD.takeM 9 rfl rfl rfl rfl (by kernel_rfl) (by kernel_rfl) (by kernel_rfl) (by kernel_rfl) (fun _ _ _ h => h) (fun w h => (h).dropEnd (L := [_])) (Val.addL (a := [26] ++ vint ((IntKind.wrap .u64 ((x.d.length : Nat) : Int)))) (b := x.d) rfl rfl rfl (by simp; omega)) ?_
    refine WPD.takeM 10 rfl rfl rfl rfl (by kernel_rfl) (by kernel_rfl) (by kernel_rfl) (by kernel_rfl) (fun _ _ _ h => h) (fun w h => (h).dropEnd (L := [_])) (Val.addL (a := [8] ++ vint (IntKind.wrap .u64 x.ty) ++ [16] ++ vint (IntKind.wrap .u64 sum)) (b := [26] ++ vint ((IntKind.wrap .u64 ((x.d.length : Nat) : Int))) ++ x.d) rfl rfl rfl (by simp; omega)) ?_
    refine WPD.takeM 11 rfl rfl rfl rfl (by kernel_rfl) (by kernel_rfl) (by kernel_rfl) (by kernel_rfl) (fun _ _ _ h => h) (fun w h => (h).dropEnd (L := [_])) (Val.assign rfl rfl) ?_
    refine WPD.done (by kernel_rfl) ?_
    refine Out.next ?_
    refine WPc.seq ?_
    refine WPc.region ?_
    refine WP.val rfl rfl rfl (Val.move rfl rfl) ?_
    refine WP.val rfl rfl rfl (Val.assign rfl rfl) ?_
    refine WP.nil ?_
    refine Out.next ?_
    refine WPc.ret ?_
    refine Out.drop ?_
    exact Out.ret1 (L' := []) Tryd.results29 rfl ⟨by unfold wbody; rw [show x.has = true from by assumption]; simp, rfl⟩ (fun _ h => h)
  · skip
    have h1 : (x.has) = false := h1
    refine WPc.skip ?_
    refine Out.next ?_
    refine WPc.seq ?_
    refine WPc.region ?_
    refine WP.val rfl rfl rfl (Val.move rfl rfl) ?_
    refine WP.val rfl rfl rfl (Val.assign rfl rfl) ?_
    refine WP.nil ?_
    refine Out.next ?_
    refine WPc.ret ?_
    refine Out.drop ?_
    exact Out.ret1 (L' := []) Tryd.results29 rfl ⟨by unfold wbody; rw [show x.has = false from by assumption]; simp, rfl⟩ (fun _ h => h)

end Go.Proofs.YthicijpjpijdjaaDoor.Wc
