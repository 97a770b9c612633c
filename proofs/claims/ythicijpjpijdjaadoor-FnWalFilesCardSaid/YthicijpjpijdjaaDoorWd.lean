import Derived.Test.YthicijpjpijdjaaDoorWc
namespace Go.Proofs.YthicijpjpijdjaaDoor.Wd
open Go.RowKit Go.Proofs.YthicijpjpijdjaaDoor Go.Proofs.YthicijpjpijdjaaDoor.Sl Go.Proofs.YthicijpjpijdjaaDoor.Wa Go.Proofs.YthicijpjpijdjaaDoor.Wb Go.Proofs.YthicijpjpijdjaaDoor.Wc
set_option linter.unusedVariables false
set_option linter.unusedSimpArgs false
set_option linter.unusedSectionVars false


def padn (n : Nat) : Nat := (8 - n % 8) % 8
def btop (p : Int) : UInt8 := b8 (((BitVec.ofInt IntKind.u8.bits 128 ||| BitVec.ofInt IntKind.u8.bits (IntKind.wrap .u8 p)).toNat : Nat) : Int)
theorem btop_byt (p : Int) : [Value.int .u8 (bor .u8 128 (IntKind.wrap .u8 p))] = byt [btop p] := b8_byt _
/-- the length's lowest bytes -/
def wlow (n : Nat) : Nat → List UInt8
  | 0 => []
  | i + 1 => wlow n i ++ [b8 (bshr .u64 (IntKind.wrap .u64 ((n : Nat) : Int)) ((8 * i : Nat) : Int))]
theorem wlow_len (n : Nat) : ∀ i, (wlow n i).length = i
  | 0 => rfl
  | i + 1 => by show (wlow n i ++ [_]).length = _; rw [List.length_append, wlow_len n i]; rfl
def wtop (n : Nat) : UInt8 := if 0 < padn n then btop ((padn n : Nat) : Int) else 0
/-- a body in its frame -/
def wframe (b : List UInt8) : List UInt8 := wlow b.length 7 ++ [wtop b.length] ++ b ++ List.replicate (padn b.length) 0
theorem wframe_len (b : List UInt8) : (wframe b).length = 8 + b.length + padn b.length := by
  unfold wframe
  simp only [List.length_append, wlow_len, List.length_singleton, List.length_replicate]
theorem zeros_byt (n : Nat) : (List.replicate n [Value.int .u8 0]).flatten = byt (List.replicate n 0) := by
  induction n with
  | zero => rfl
  | succ n ih => rw [List.replicate_succ, List.flatten_cons, ih]; rfl
theorem Sat.conv {W w : World} {A B : List HProp} (f : ∀ w, Sat W A w → Sat W B w) (h : Sat W A w) : Sat W B w := f w h
theorem own_byts1 {W w : World} {v : Value} {l : List UInt8} {c : UInt8} {L : List HProp} (h : Sat W (Own 5 1 v (l.length + 1) (byt l ++ [.int .u8 ((c.toNat : Nat) : Int)]) :: L) w) : Sat W (Byts v (l ++ [c]) :: L) w :=
  own_byts (by rw [List.length_append, byt_append]; exact h)
theorem row_byts {W w : World} {b n : Nat} {T : TypeId} {L : List HProp} (h : Sat W (Blk b ((List.replicate n [Value.int .u8 0]).flatten) T :: L) w) : Sat W (Byts (.slice (some ⟨b, 0, none⟩) n n) (List.replicate n 0) :: L) w := by
  rw [zeros_byt] at h
  have h1 := Sat.bytsMk (i := 0) (l := List.replicate n (0 : UInt8)) (c := n) h.freeze (by simp) (by
    have hb : (byt (List.replicate n (0 : UInt8))).length = (List.replicate n (0 : UInt8)).length := by simp [byt]
    rw [List.drop_zero, ← hb, List.take_length])
  rw [List.length_replicate] at h1
  exact h1
set_option maxRecDepth 100000 in
set_option maxHeartbeats 2000000 in
theorem wframe_spec (b : List UInt8) (hb : b.length ≤ 2000000) : Does Tryd.prog 28 [.string (str (b))] [] (fun v L => v = .string (str (wframe b)) ∧ L = []) := by
  refine Does.enter 42 Tryd.func28 rfl rfl rfl fun W F => ?_
  show WPc _ _ _ _ _ [(0, .string (str (b)))] (F)
  refine WPc.seq ?_
  refine WPc.region ?_
  refine WP.val rfl rfl rfl (Val.assign rfl rfl) ?_
  refine WP.nil ?_
  refine Out.next ?_
  refine WPc.seq ?_
  refine WPc.region ?_
  refine WP.val rfl rfl rfl (Val.move rfl rfl) ?_
  refine WP.val rfl rfl rfl (Val.lenL rfl Ty.st9 rfl) ?_
  refine WP.val rfl rfl rfl (Val.rem (z := ((b.length % 8 : Nat) : Int)) rfl rfl rfl (by omega) (by rfl)) ?_
  refine WP.val rfl rfl rfl (Val.sub (z := ((8 - b.length % 8 : Nat) : Int)) rfl rfl rfl ((w64 (by omega) (by omega)).trans (by omega))) ?_
  refine WP.val rfl rfl rfl (Val.rem (z := ((padn b.length : Nat) : Int)) rfl rfl rfl (by omega) (by rfl)) ?_
  refine WP.val rfl rfl rfl (Val.assign rfl rfl) ?_
  refine WP.nil ?_
  refine Out.next ?_
  refine WPc.seq ?_
  refine WPc.conv (fun w h => h.ownNil (e := 5) (k := 1)) ?_
  show WPc _ _ _ _ _ _ (Own 5 1 (.slice none 0 0) 0 ([]) :: F)
  refine WPc.region ?_
  refine WP.val rfl rfl rfl (Val.assign rfl rfl) ?_
  refine WP.nil ?_
  refine Out.next ?_
  refine WPc.seq ?_
  refine WPc.seq ?_
  refine WPc.region ?_
  refine WP.val rfl rfl rfl (Val.move rfl rfl) ?_
  refine WP.nil ?_
  refine Out.next ?_
  refine WPc.block ?_
  refine WPc.loop (ι := Nat × Value) (fun ⟨i, v⟩ => i ≤ 7) (fun ⟨i, v⟩ => [(0, .string (str (b))), (3, .int .i64 (((padn b.length : Nat) : Int))), (4, v), (12, .int .i64 (((i : Nat) : Int)))]) (fun ⟨i, v⟩ => Own 5 1 v ((wlow b.length i).length) (byt (wlow b.length i)) :: F) (fun ⟨i, v⟩ => 7 - i) (0, .slice none 0 0) (Nat.zero_le _) ((Sub.cons rfl (Sub.cons rfl (Sub.cons rfl (Sub.cons rfl Sub.nil))))) (fun _ h => h) ?_
  rintro ⟨i, v⟩ hi
  show WPc _ _ _ _ _ [(0, .string (str (b))), (3, .int .i64 (((padn b.length : Nat) : Int))), (4, v), (12, .int .i64 (((i : Nat) : Int)))] (Own 5 1 v ((wlow b.length i).length) (byt (wlow b.length i)) :: F)
  replace hi : i ≤ 7 := hi
  have hwl := wlow_len b.length i
  refine WPc.seq ?_
  refine WPc.region ?_
  refine WP.val rfl rfl rfl (Val.lss rfl rfl rfl) ?_
  refine WP.nil ?_
  refine Out.next ?_
  refine WPc.seq ?_
  refine WPc.ifP rfl (fun h1 => ?_) (fun h1 => ?_)
  · skip
    have h1 : (((i : Nat) : Int) < (7 : Int)) := h1
    refine WPc.skip ?_
    refine Out.next ?_
    refine WPc.seq ?_
    refine WPc.block ?_
    refine WPc.seq ?_
    refine WPc.region ?_
    refine WP.val rfl rfl rfl (Val.move rfl rfl) ?_
    refine WP.val rfl rfl rfl (Val.assign rfl rfl) ?_
    refine WP.nil ?_
    refine Out.next ?_
    refine WPc.region ?_
    refine WP.val rfl rfl rfl (Val.move rfl rfl) ?_
    refine WP.val rfl rfl rfl (Val.move rfl rfl) ?_
    refine WP.val rfl rfl rfl (Val.lenL rfl Ty.st9 rfl) ?_
    refine WP.val rfl rfl rfl (Val.conv (z := IntKind.wrap .u64 ((b.length : Nat) : Int)) rfl Ty.ik94 Ty.un3 rfl rfl) ?_
    refine WP.val rfl rfl rfl (Val.move rfl rfl) ?_
    refine WP.val rfl rfl rfl (Val.mul (z := ((8 * i : Nat) : Int)) rfl rfl rfl ((w64 (by omega) (by omega)).trans (by omega))) ?_
    refine WP.val rfl rfl rfl (Val.shr rfl rfl rfl (by first | decide | omega)) ?_
    refine WP.val rfl rfl rfl (Val.conv (z := IntKind.wrap .u8 (bshr .u64 (IntKind.wrap .u64 ((b.length : Nat) : Int)) ((8 * i : Nat) : Int))) rfl Ty.ik5 Ty.un94 rfl rfl) ?_
    refine WP.eff rfl rfl rfl (Eff.mkSlice (C := [.int .u8 (IntKind.wrap .u8 (bshr .u64 (IntKind.wrap .u64 ((b.length : Nat) : Int)) ((8 * i : Nat) : Int)))]) rfl Ty.sl40 rfl (fun _ => by kernel_rfl)) ?_
    rintro _ _ ⟨b1, rfl, rfl⟩
    refine WP.perm pl1 ?_
    refine WP.eff rfl rfl rfl (Eff.append (m := 1) (n0 := (wlow b.length i).length) (news := [.int .u8 (IntKind.wrap .u8 (bshr .u64 (IntKind.wrap .u64 ((b.length : Nat) : Int)) ((8 * i : Nat) : Int)))]) rfl Ty.sl40 Ty.z5 rfl rfl rfl (.slice Ty.sl40 rfl rfl (fun w h => cells_range (h.range 1 rfl rfl))) (by omega) (by omega)) ?_
    rintro v2 _ ⟨onev2, rfl⟩
    refine WP.val rfl rfl rfl (Val.assign rfl rfl) ?_
    refine WP.nil ?_
    refine Out.block ?_
    refine Out.next ?_
    refine WPc.region ?_
    refine WP.val rfl rfl rfl (Val.add (z := ((i + 1 : Nat) : Int)) rfl rfl rfl ((w64 (by omega) (by omega)).trans (by omega))) ?_
    refine WP.val rfl rfl rfl (Val.move rfl rfl) ?_
    refine WP.nil ?_
    refine Out.perm pl1 ?_
    refine Out.drop ?_
    refine Out.again (i + 1, v2) ?_ ?_ ?_ ?_
    · exact (by show i + 1 ≤ 7; omega)
    · (dsimp only; omega)
    · exact (Sub.cons rfl (Sub.cons rfl (Sub.cons rfl (Sub.cons rfl Sub.nil))))
    · exact (fun w h => by dsimp only; rw [show wlow b.length (i + 1) = wlow b.length i ++ [b8 (bshr .u64 (IntKind.wrap .u64 ((b.length : Nat) : Int)) ((8 * i : Nat) : Int))] from rfl, List.length_append, byt_append, ← b8_byt]; exact h)
  · skip
    have h1 : ¬ (((i : Nat) : Int) < (7 : Int)) := h1
    refine WPc.exit ?_
    refine Out.then_exit ?_
    refine Out.then_exit ?_
    refine Out.block_exit ?_
    refine Out.next ?_
    refine WPc.seq ?_
    have hi7 : i = 7 := by omega
    subst hi7
    show WPc _ _ _ _ _ _ (Own 5 1 v ((wlow b.length 7).length) (byt (wlow b.length 7)) :: F)
    refine WPc.region ?_
    refine WP.val rfl rfl rfl (Val.assign rfl rfl) ?_
    refine WP.nil ?_
    refine Out.next ?_
    refine WPc.cut (ι := Unit) (fun _ => True) (fun _ => [(0, .string (str (b))), (3, .int .i64 (((padn b.length : Nat) : Int))), (4, v), (6, .int .u8 ((((wtop b.length).toNat : Nat) : Int)))]) (fun _ => Own 5 1 v ((wlow b.length 7).length) (byt (wlow b.length 7)) :: F) ?_ ?_
    · skip
      refine WPc.seq ?_
      refine WPc.region ?_
      refine WP.val rfl rfl rfl (Val.move rfl rfl) ?_
      refine WP.val rfl rfl rfl (Val.gtr rfl rfl rfl) ?_
      refine WP.nil ?_
      refine Out.next ?_
      refine WPc.ifP rfl (fun h2 => ?_) (fun h2 => ?_)
      · skip
        have h2 : ((0 : Int) < ((padn b.length : Nat) : Int)) := h2
        refine WPc.region ?_
        refine WP.val rfl rfl rfl (Val.move rfl rfl) ?_
        refine WP.val rfl rfl rfl (Val.conv (z := IntKind.wrap .u8 ((padn b.length : Nat) : Int)) rfl Ty.ik5 Ty.un3 rfl rfl) ?_
        refine WP.val rfl rfl rfl (Val.or rfl rfl rfl) ?_
        refine WP.val rfl rfl rfl (Val.assign rfl rfl) ?_
        refine WP.nil ?_
        refine Out.meet () ?_ ?_ ?_
        · exact trivial
        · exact (Sub.cons rfl (Sub.cons rfl (Sub.cons rfl (Sub.cons (show some (Value.int .u8 (bor .u8 (128 : Int) (IntKind.wrap .u8 ((padn b.length : Nat) : Int)))) = some (Value.int .u8 (((wtop b.length).toNat : Nat) : Int)) from by unfold wtop; rw [if_pos (by omega)]; first | rfl | exact congrArg some (by have := btop_byt ((padn b.length : Nat) : Int); simp only [byt, List.map_cons, List.map_nil, List.cons.injEq, and_true] at this; exact this)) Sub.nil))))
        · exact (fun _ h => h)
      · skip
        have h2 : ¬ ((0 : Int) < ((padn b.length : Nat) : Int)) := h2
        refine WPc.skip ?_
        refine Out.meet () ?_ ?_ ?_
        · exact trivial
        · exact (Sub.cons rfl (Sub.cons rfl (Sub.cons rfl (Sub.cons (show some (Value.int .u8 (0)) = some (Value.int .u8 (((wtop b.length).toNat : Nat) : Int)) from by unfold wtop; rw [if_neg (by omega)]; first | rfl | exact congrArg some (by have := btop_byt ((padn b.length : Nat) : Int); simp only [byt, List.map_cons, List.map_nil, List.cons.injEq, and_true] at this; exact this)) Sub.nil))))
        · exact (fun _ h => h)
    · skip
      rintro _ -
      show WPc _ _ _ _ _ [(0, .string (str (b))), (3, .int .i64 (((padn b.length : Nat) : Int))), (4, v), (6, .int .u8 ((((wtop b.length).toNat : Nat) : Int)))] (Own 5 1 v ((wlow b.length 7).length) (byt (wlow b.length 7)) :: F)
      have hwl := wlow_len b.length 7
      have hpl : padn b.length < 8 := by unfold padn; omega
      refine WPc.seq ?_
      refine WPD.start (Sat W []) Ty.mixed ?_
      refine WPD.takeM 0 rfl rfl rfl rfl (by kernel_rfl) (by kernel_rfl) (by kernel_rfl) (by kernel_rfl) (fun _ _ _ h => h) (fun w h => (h).dropEnd (L := [])) (Val.move rfl rfl) ?_
      refine WPD.takeM 1 rfl rfl rfl rfl (by kernel_rfl) (by kernel_rfl) (by kernel_rfl) (by kernel_rfl) (fun _ _ _ h => h) (fun w h => (h).dropEnd (L := [])) (Val.move rfl rfl) ?_
      refine WPD.takeM 5 rfl rfl rfl rfl (by kernel_rfl) (by kernel_rfl) (by kernel_rfl) (by kernel_rfl) (fun _ _ _ h => h) (fun w h => (h).dropEnd (L := [])) (Val.move rfl rfl) ?_
      refine WPD.takeM 7 rfl rfl rfl rfl (by kernel_rfl) (by kernel_rfl) (by kernel_rfl) (by kernel_rfl) (fun _ _ _ h => h) (fun w h => (h).dropEnd (L := [])) (Val.move rfl rfl) ?_
      refine WPD.pick2 2 8 (by kernel_rfl) ?_ ?_
      · skip
        refine WPO.step rfl rfl rfl rfl (Eff.mkSlice (C := [.int .u8 ((((wtop b.length).toNat : Nat) : Int))]) rfl Ty.sl40 rfl (fun _ => by kernel_rfl)) ?_
        rintro _ _ ⟨b3, rfl, rfl⟩
        refine ⟨(fun w h => (h).dropEnd (L := [])), ?_⟩
        refine WPD.pick2 3 8 (by kernel_rfl) ?_ ?_
        · skip
          refine WPO.perm pl1 ?_
          refine WPO.stepS rfl rfl rfl rfl (Eff.append (m := 1) (n0 := (wlow b.length 7).length) (news := [.int .u8 ((((wtop b.length).toNat : Nat) : Int))]) rfl Ty.sl40 Ty.z5 rfl rfl rfl (.slice Ty.sl40 rfl rfl (fun w h => cells_range (h.range 1 rfl rfl))) (by omega) (by omega)) ?_
          rintro v4 _ ⟨onev4, rfl⟩
          refine ⟨(Sat W [Byts v4 ((wlow b.length 7 ++ [wtop b.length]))]), (fun w h => h.dropEnd (L := [])), (fun w h => ((Sat.conv (fun w h => own_byts1 h) h)).dropEnd (L := [_])), ?_⟩
          refine WPD.conv (fun w h => own_byts1 h) ?_
          refine WPD.take 4 rfl rfl rfl rfl (by kernel_rfl) (by kernel_rfl) (by kernel_rfl) (by kernel_rfl) (fun _ _ _ h => h) (by kernel_rfl) (fun w h => (h).dropEnd (L := [_])) (show Val _ _ _ _ _ (.string (str (wlow b.length 7 ++ [wtop b.length]))) from Val.str rfl Ty.by40 Ty.st9 rfl (fun w h => h.at 0 rfl)) ?_
          refine WPD.takeM 6 rfl rfl rfl rfl (by kernel_rfl) (by kernel_rfl) (by kernel_rfl) (by kernel_rfl) (fun _ _ _ h => h) (fun w h => (h).dropEnd (L := [_])) (Val.addL (a := wlow b.length 7 ++ [wtop b.length]) (b := b) rfl rfl rfl (by simp; omega)) ?_
          refine WPD.stepS 8 (by kernel_rfl) rfl rfl rfl rfl (Eff.makeSlice (m := padn b.length) (c := padn b.length) (z := [.int .u8 0]) rfl Ty.sl40 Ty.z5 rfl rfl rfl rfl rfl (by omega) (by omega) (by omega)) ?_
          rintro _ _ ⟨b5, rfl, rfl⟩
          refine ⟨(Sat W [Byts v4 ((wlow b.length 7 ++ [wtop b.length])), Byts (.slice (some ⟨b5, 0, none⟩) (padn b.length) (padn b.length)) ((List.replicate (padn b.length) 0))]), (fun w h => h.dropEnd (L := [_])), (fun w h => (((Sat.conv (fun w h => row_byts h) h).perm pl1)).dropEnd (L := [_, _])), ?_⟩
          refine WPD.conv (fun w h => row_byts h) ?_
          refine WPD.take 9 rfl rfl rfl rfl (by kernel_rfl) (by kernel_rfl) (by kernel_rfl) (by kernel_rfl) (fun _ _ _ h => h) (by kernel_rfl) (fun w h => ((h.perm pl1)).dropEnd (L := [_, _])) (show Val _ _ _ _ _ (.string (str (List.replicate (padn b.length) 0))) from Val.str rfl Ty.by40 Ty.st9 rfl (fun w h => h.at 1 rfl)) ?_
          refine WPD.takeM 10 rfl rfl rfl rfl (by kernel_rfl) (by kernel_rfl) (by kernel_rfl) (by kernel_rfl) (fun _ _ _ h => h) (fun w h => ((h.perm pl1)).dropEnd (L := [_, _])) (Val.addL (a := wlow b.length 7 ++ [wtop b.length] ++ b) (b := List.replicate (padn b.length) 0) rfl rfl rfl (by simp; omega)) ?_
          refine WPD.takeM 11 rfl rfl rfl rfl (by kernel_rfl) (by kernel_rfl) (by kernel_rfl) (by kernel_rfl) (fun _ _ _ h => h) (fun w h => ((h.perm pl1)).dropEnd (L := [_, _])) (Val.assign rfl rfl) ?_
          refine WPD.done (by kernel_rfl) ?_
          refine Out.next ?_
          refine WPc.ret ?_
          refine Out.drop ?_
          refine Out.drop ?_
          refine Out.drop ?_
          exact Out.ret1 (L' := []) Tryd.results28 rfl ⟨rfl, rfl⟩ (fun w h => by first | exact h | exact h.drop | exact h.drop.drop)
        · skip
          refine WPO.stepS rfl rfl rfl rfl (Eff.makeSlice (m := padn b.length) (c := padn b.length) (z := [.int .u8 0]) rfl Ty.sl40 Ty.z5 rfl rfl rfl rfl rfl (by omega) (by omega) (by omega)) ?_
          rintro _ _ ⟨b6, rfl, rfl⟩
          refine ⟨(Sat W [Byts (.slice (some ⟨b6, 0, none⟩) (padn b.length) (padn b.length)) ((List.replicate (padn b.length) 0))]), (fun w h => h.dropEnd (L := [])), (fun w h => ((Sat.conv (fun w h => row_byts h) h)).dropEnd (L := [_])), ?_⟩
          refine WPD.conv (fun w h => row_byts h) ?_
          refine WPD.take 9 rfl rfl rfl rfl (by kernel_rfl) (by kernel_rfl) (by kernel_rfl) (by kernel_rfl) (fun _ _ _ h => h) (by kernel_rfl) (fun w h => (h).dropEnd (L := [_])) (show Val _ _ _ _ _ (.string (str (List.replicate (padn b.length) 0))) from Val.str rfl Ty.by40 Ty.st9 rfl (fun w h => h.at 0 rfl)) ?_
          refine WPD.perm pl2 ?_
          refine WPD.stepS 3 (by kernel_rfl) rfl rfl rfl rfl (Eff.append (m := 1) (n0 := (wlow b.length 7).length) (news := [.int .u8 ((((wtop b.length).toNat : Nat) : Int))]) rfl Ty.sl40 Ty.z5 rfl rfl rfl (.slice Ty.sl40 rfl rfl (fun w h => cells_range (h.range 2 rfl rfl))) (by omega) (by omega)) ?_
          rintro v7 _ ⟨onev7, rfl⟩
          refine ⟨(Sat W [Byts (.slice (some ⟨b6, 0, none⟩) (padn b.length) (padn b.length)) ((List.replicate (padn b.length) 0)), Byts v7 ((wlow b.length 7 ++ [wtop b.length]))]), (fun w h => h.dropEnd (L := [_])), (fun w h => (((Sat.conv (fun w h => own_byts1 h) h).perm pl1)).dropEnd (L := [_, _])), ?_⟩
          refine WPD.conv (fun w h => own_byts1 h) ?_
          refine WPD.take 4 rfl rfl rfl rfl (by kernel_rfl) (by kernel_rfl) (by kernel_rfl) (by kernel_rfl) (fun _ _ _ h => h) (by kernel_rfl) (fun w h => ((h.perm pl1)).dropEnd (L := [_, _])) (show Val _ _ _ _ _ (.string (str (wlow b.length 7 ++ [wtop b.length]))) from Val.str rfl Ty.by40 Ty.st9 rfl (fun w h => h.at 1 rfl)) ?_
          refine WPD.takeM 6 rfl rfl rfl rfl (by kernel_rfl) (by kernel_rfl) (by kernel_rfl) (by kernel_rfl) (fun _ _ _ h => h) (fun w h => ((h.perm pl1)).dropEnd (L := [_, _])) (Val.addL (a := wlow b.length 7 ++ [wtop b.length]) (b := b) rfl rfl rfl (by simp; omega)) ?_
          refine WPD.takeM 10 rfl rfl rfl rfl (by kernel_rfl) (by kernel_rfl) (by kernel_rfl) (by kernel_rfl) (fun _ _ _ h => h) (fun w h => ((h.perm pl1)).dropEnd (L := [_, _])) (Val.addL (a := wlow b.length 7 ++ [wtop b.length] ++ b) (b := List.replicate (padn b.length) 0) rfl rfl rfl (by simp; omega)) ?_
          refine WPD.takeM 11 rfl rfl rfl rfl (by kernel_rfl) (by kernel_rfl) (by kernel_rfl) (by kernel_rfl) (fun _ _ _ h => h) (fun w h => ((h.perm pl1)).dropEnd (L := [_, _])) (Val.assign rfl rfl) ?_
          refine WPD.done (by kernel_rfl) ?_
          refine Out.next ?_
          refine WPc.ret ?_
          refine Out.drop ?_
          refine Out.drop ?_
          refine Out.drop ?_
          exact Out.ret1 (L' := []) Tryd.results28 rfl ⟨rfl, rfl⟩ (fun w h => by first | exact h | exact h.drop | exact h.drop.drop)
      · skip
        refine WPO.stepS rfl rfl rfl rfl (Eff.makeSlice (m := padn b.length) (c := padn b.length) (z := [.int .u8 0]) rfl Ty.sl40 Ty.z5 rfl rfl rfl rfl rfl (by omega) (by omega) (by omega)) ?_
        rintro _ _ ⟨b8, rfl, rfl⟩
        refine ⟨(Sat W [Byts (.slice (some ⟨b8, 0, none⟩) (padn b.length) (padn b.length)) ((List.replicate (padn b.length) 0))]), (fun w h => h.dropEnd (L := [])), (fun w h => ((Sat.conv (fun w h => row_byts h) h)).dropEnd (L := [_])), ?_⟩
        refine WPD.conv (fun w h => row_byts h) ?_
        refine WPD.take 9 rfl rfl rfl rfl (by kernel_rfl) (by kernel_rfl) (by kernel_rfl) (by kernel_rfl) (fun _ _ _ h => h) (by kernel_rfl) (fun w h => (h).dropEnd (L := [_])) (show Val _ _ _ _ _ (.string (str (List.replicate (padn b.length) 0))) from Val.str rfl Ty.by40 Ty.st9 rfl (fun w h => h.at 0 rfl)) ?_
        refine WPD.step 2 (by kernel_rfl) rfl rfl rfl rfl (Eff.mkSlice (C := [.int .u8 ((((wtop b.length).toNat : Nat) : Int))]) rfl Ty.sl40 rfl (fun _ => by kernel_rfl)) ?_
        rintro _ _ ⟨b9, rfl, rfl⟩
        refine ⟨(fun w h => ((h.perm pl1)).dropEnd (L := [_])), ?_⟩
        refine WPD.perm pl2 ?_
        refine WPD.stepS 3 (by kernel_rfl) rfl rfl rfl rfl (Eff.append (m := 1) (n0 := (wlow b.length 7).length) (news := [.int .u8 ((((wtop b.length).toNat : Nat) : Int))]) rfl Ty.sl40 Ty.z5 rfl rfl rfl (.slice Ty.sl40 rfl rfl (fun w h => cells_range (h.range 1 rfl rfl))) (by omega) (by omega)) ?_
        rintro v10 _ ⟨onev10, rfl⟩
        refine ⟨(Sat W [Byts (.slice (some ⟨b8, 0, none⟩) (padn b.length) (padn b.length)) ((List.replicate (padn b.length) 0)), Byts v10 ((wlow b.length 7 ++ [wtop b.length]))]), (fun w h => h.dropEnd (L := [_])), (fun w h => (((Sat.conv (fun w h => own_byts1 h) h).perm pl2)).dropEnd (L := [_, _])), ?_⟩
        refine WPD.conv (fun w h => own_byts1 h) ?_
        refine WPD.take 4 rfl rfl rfl rfl (by kernel_rfl) (by kernel_rfl) (by kernel_rfl) (by kernel_rfl) (fun _ _ _ h => h) (by kernel_rfl) (fun w h => ((h.perm pl2)).dropEnd (L := [_, _])) (show Val _ _ _ _ _ (.string (str (wlow b.length 7 ++ [wtop b.length]))) from Val.str rfl Ty.by40 Ty.st9 rfl (fun w h => h.at 1 rfl)) ?_
        refine WPD.takeM 6 rfl rfl rfl rfl (by kernel_rfl) (by kernel_rfl) (by kernel_rfl) (by kernel_rfl) (fun _ _ _ h => h) (fun w h => ((h.perm pl2)).dropEnd (L := [_, _])) (Val.addL (a := wlow b.length 7 ++ [wtop b.length]) (b := b) rfl rfl rfl (by simp; omega)) ?_
        refine WPD.takeM 10 rfl rfl rfl rfl (by kernel_rfl) (by kernel_rfl) (by kernel_rfl) (by kernel_rfl) (fun _ _ _ h => h) (fun w h => ((h.perm pl2)).dropEnd (L := [_, _])) (Val.addL (a := wlow b.length 7 ++ [wtop b.length] ++ b) (b := List.replicate (padn b.length) 0) rfl rfl rfl (by simp; omega)) ?_
        refine WPD.takeM 11 rfl rfl rfl rfl (by kernel_rfl) (by kernel_rfl) (by kernel_rfl) (by kernel_rfl) (fun _ _ _ h => h) (fun w h => ((h.perm pl2)).dropEnd (L := [_, _])) (Val.assign rfl rfl) ?_
        refine WPD.done (by kernel_rfl) ?_
        refine Out.next ?_
        refine WPc.ret ?_
        refine Out.drop ?_
        refine Out.drop ?_
        refine Out.drop ?_
        exact Out.ret1 (L' := []) Tryd.results28 rfl ⟨rfl, rfl⟩ (fun w h => by first | exact h | exact h.drop | exact h.drop.drop)

end Go.Proofs.YthicijpjpijdjaaDoor.Wd
