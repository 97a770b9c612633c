import Derived.Test.YthicijpjpijdjaaDoorSlBits
import Derived.Test.YthicijpjpijdjaaDoorSlOff
import Derived.Test.YthicijpjpijdjaaDoorSlX
import Derived.Test.YthicijpjpijdjaaDoorSlOne
import Derived.Test.YthicijpjpijdjaaDoorTy2
namespace Go.Proofs.YthicijpjpijdjaaDoor.Wa
open Go.RowKit Go.Proofs.YthicijpjpijdjaaDoor Go.Proofs.YthicijpjpijdjaaDoor.Sl
set_option linter.unusedVariables false
set_option linter.unusedSimpArgs false
set_option linter.unusedSectionVars false


def bcf (c : UInt8) : List Value := [.int .u8 (c.toNat : Int)]
theorem bcf_len (c : UInt8) : (bcf c).length = 1 := rfl
theorem flat_byt (l : List UInt8) : flatOf bcf l = byt l := by induction l with | nil => rfl | cons c l ih => simp [flatOf, byt, bcf] at ih ⊢; exact ih
def rep {α : Type} (f : α → α) : Nat → α → α
  | 0, a => a
  | n + 1, a => f (rep f n a)
def crcBit (c : Int) : Int := if band .u32 c 1 = 1 then bxor .u32 (bshr .u32 c 1) 2197175160 else bshr .u32 c 1
def crcByte (c : Int) (b : UInt8) : Int := rep crcBit 8 (bxor .u32 c (IntKind.wrap .u32 (b.toNat : Int)))
def crcWrite (c : Int) (l : List UInt8) : Int := bcom .u32 (l.foldl crcByte (bcom .u32 c))
theorem crc_more {l : List UInt8} {i : Nat} {x : UInt8} (hx : l[i]? = some x) (c : Int) : (l.take (i + 1)).foldl crcByte c = crcByte ((l.take i).foldl crcByte c) x := by rw [take_more hx]; simp
set_option maxRecDepth 100000 in
set_option maxHeartbeats 1000000 in
theorem crc_nil (A : HProp) (cb : Nat) (u : Int) (a : Option Addr) (c : Nat) : Does Tryd.prog 39 [.pointer (some ⟨cb, 0, none⟩), .slice a 0 c] [Blk cb [.int .u32 (u)] 99, A] (fun v L => ∃ k : Int, v = .tuple #[.int .i64 k, .nilIface] ∧ L = [Blk cb [.int .u32 (crcWrite u ([] : List UInt8))] 99, A]) := by
  refine Does.enter 46 Tryd.func39 rfl rfl rfl fun W F => ?_
  show WPc _ _ _ _ _ [(0, .pointer (some ⟨cb, 0, none⟩)), (1, .slice a 0 c)] (Blk cb [.int .u32 (u)] 99 :: A :: F)
  refine WPc.seq ?_
  refine WPc.region ?_
  refine WP.val rfl rfl rfl (Val.assign rfl rfl) ?_
  refine WP.val rfl rfl rfl (Val.assign rfl rfl) ?_
  refine WP.nil ?_
  refine Out.next ?_
  refine WPc.seq ?_
  refine WPc.region ?_
  refine WP.val rfl rfl rfl (Val.move rfl rfl) ?_
  refine WP.val rfl rfl rfl (Val.nilCheck rfl rfl) ?_
  refine WP.val rfl rfl rfl (Val.fieldAddr (j := 0) rfl Ty.fo99_0 rfl rfl) ?_
  refine WP.val rfl rfl rfl (Val.load rfl Ty.sc22 rfl (fun w h => h.cell 0 rfl rfl)) ?_
  refine WP.val rfl rfl rfl (Val.com rfl rfl) ?_
  refine WP.val rfl rfl rfl (Val.assign rfl rfl) ?_
  refine WP.nil ?_
  refine Out.next ?_
  refine WPc.seq ?_
  refine WPc.seq ?_
  refine WPc.region ?_
  refine WP.val rfl rfl rfl (Val.assign rfl rfl) ?_
  refine WP.nil ?_
  refine Out.next ?_
  refine WPc.block ?_
  refine WPc.loop (ι := Nat) (fun i => i ≤ (([] : List UInt8)).length) (fun i => [(0, .pointer (some ⟨cb, 0, none⟩)), (1, .slice a 0 c), (6, .int .u32 (((([] : List UInt8)).take i).foldl crcByte (bcom .u32 u))), (7, .int .i64 (((i : Nat) : Int)))]) (fun i => Blk cb [.int .u32 (u)] 99 :: A :: F) (fun i => (([] : List UInt8)).length - i) 0 (Nat.zero_le _) ((Sub.cons rfl (Sub.cons rfl (Sub.cons rfl (Sub.cons rfl Sub.nil))))) (fun _ h => h) ?_
  rintro i hi
  show WPc _ _ _ _ _ [(0, .pointer (some ⟨cb, 0, none⟩)), (1, .slice a 0 c), (6, .int .u32 (((([] : List UInt8)).take i).foldl crcByte (bcom .u32 u))), (7, .int .i64 (((i : Nat) : Int)))] (Blk cb [.int .u32 (u)] 99 :: A :: F)
  replace hi : i ≤ (([] : List UInt8)).length := hi
  refine WPc.seq ?_
  refine WPc.seq ?_
  refine WPc.region ?_
  refine WP.val rfl rfl rfl (Val.move rfl rfl) ?_
  refine WP.val rfl rfl rfl (Val.move rfl rfl) ?_
  refine WP.val rfl rfl rfl (Val.len rfl Ty.sl40 rfl) ?_
  refine WP.val rfl rfl rfl (Val.lss rfl rfl rfl) ?_
  refine WP.nil ?_
  refine Out.next ?_
  refine WPc.ifP rfl (fun h1 => ?_) (fun h1 => ?_)
  · skip
    have h1 : (((i : Nat) : Int) < (0 : Int)) := h1
    exfalso; simp at *; omega
  · skip
    have h1 : ¬ (((i : Nat) : Int) < (0 : Int)) := h1
    refine WPc.exit ?_
    refine Out.then_exit ?_
    refine Out.then_exit ?_
    refine Out.block_exit ?_
    refine Out.next ?_
    refine WPc.seq ?_
    refine WPc.region ?_
    refine WP.val rfl rfl rfl (Val.move rfl rfl) ?_
    refine WP.val rfl rfl rfl (Val.move rfl rfl) ?_
    refine WP.val rfl rfl rfl (Val.com rfl rfl) ?_
    refine WP.val rfl rfl rfl (Val.nilCheck rfl rfl) ?_
    refine WP.val rfl rfl rfl (Val.fieldAddr (j := 0) rfl Ty.fo99_0 rfl rfl) ?_
    refine WP.eff0 rfl rfl (Eff.store rfl Ty.sc22 rfl rfl rfl (by simp) st0) ?_
    rintro _ _ rfl
    refine WP.nil ?_
    refine Out.next ?_
    refine WPc.seq ?_
    refine WPc.region ?_
    refine WP.val rfl rfl rfl (Val.move rfl rfl) ?_
    refine WP.val rfl rfl rfl (Val.len rfl Ty.sl40 rfl) ?_
    refine WP.val rfl rfl rfl (Val.assign rfl rfl) ?_
    refine WP.val rfl rfl rfl (Val.assign rfl rfl) ?_
    refine WP.nil ?_
    refine Out.next ?_
    refine WPc.ret ?_
    have hti2 : (([] : List UInt8)).take i = ([] : List UInt8) := List.take_of_length_le (by first | omega | (simp at *; try omega))
    exact Out.ret2 (L' := _) Tryd.results39 rfl rfl ⟨_, rfl, rfl⟩ (fun w h => by rw [hti2] at h; exact h)

set_option maxRecDepth 100000 in
set_option maxHeartbeats 1000000 in
theorem crc_row (A : HProp) (cb : Nat) (u : Int) (l : List UInt8) (hl : l.length ≤ 4294967296) (b0 o0 c0 : Nat) (hr : ∀ w, Holds A w → ∀ i x, l[i]? = some x → w.rangeAt b0 (o0 + i * 1) (bcf x)) : Does Tryd.prog 39 [.pointer (some ⟨cb, 0, none⟩), .slice (some ⟨b0, o0, none⟩) l.length c0] [Blk cb [.int .u32 (u)] 99, A] (fun v L => ∃ k : Int, v = .tuple #[.int .i64 k, .nilIface] ∧ L = [Blk cb [.int .u32 (crcWrite u l)] 99, A]) := by
  refine Does.enter 46 Tryd.func39 rfl rfl rfl fun W F => ?_
  show WPc _ _ _ _ _ [(0, .pointer (some ⟨cb, 0, none⟩)), (1, .slice (some ⟨b0, o0, none⟩) l.length c0)] (Blk cb [.int .u32 (u)] 99 :: A :: F)
  refine WPc.seq ?_
  refine WPc.region ?_
  refine WP.val rfl rfl rfl (Val.assign rfl rfl) ?_
  refine WP.val rfl rfl rfl (Val.assign rfl rfl) ?_
  refine WP.nil ?_
  refine Out.next ?_
  refine WPc.seq ?_
  refine WPc.region ?_
  refine WP.val rfl rfl rfl (Val.move rfl rfl) ?_
  refine WP.val rfl rfl rfl (Val.nilCheck rfl rfl) ?_
  refine WP.val rfl rfl rfl (Val.fieldAddr (j := 0) rfl Ty.fo99_0 rfl rfl) ?_
  refine WP.val rfl rfl rfl (Val.load rfl Ty.sc22 rfl (fun w h => h.cell 0 rfl rfl)) ?_
  refine WP.val rfl rfl rfl (Val.com rfl rfl) ?_
  refine WP.val rfl rfl rfl (Val.assign rfl rfl) ?_
  refine WP.nil ?_
  refine Out.next ?_
  refine WPc.seq ?_
  refine WPc.seq ?_
  refine WPc.region ?_
  refine WP.val rfl rfl rfl (Val.assign rfl rfl) ?_
  refine WP.nil ?_
  refine Out.next ?_
  refine WPc.block ?_
  refine WPc.loop (ι := Nat) (fun i => i ≤ (l).length) (fun i => [(0, .pointer (some ⟨cb, 0, none⟩)), (1, .slice (some ⟨b0, o0, none⟩) l.length c0), (6, .int .u32 (((l).take i).foldl crcByte (bcom .u32 u))), (7, .int .i64 (((i : Nat) : Int)))]) (fun i => Blk cb [.int .u32 (u)] 99 :: A :: F) (fun i => (l).length - i) 0 (Nat.zero_le _) ((Sub.cons rfl (Sub.cons rfl (Sub.cons rfl (Sub.cons rfl Sub.nil))))) (fun _ h => h) ?_
  rintro i hi
  show WPc _ _ _ _ _ [(0, .pointer (some ⟨cb, 0, none⟩)), (1, .slice (some ⟨b0, o0, none⟩) l.length c0), (6, .int .u32 (((l).take i).foldl crcByte (bcom .u32 u))), (7, .int .i64 (((i : Nat) : Int)))] (Blk cb [.int .u32 (u)] 99 :: A :: F)
  replace hi : i ≤ (l).length := hi
  refine WPc.seq ?_
  refine WPc.seq ?_
  refine WPc.region ?_
  refine WP.val rfl rfl rfl (Val.move rfl rfl) ?_
  refine WP.val rfl rfl rfl (Val.move rfl rfl) ?_
  refine WP.val rfl rfl rfl (Val.len rfl Ty.sl40 rfl) ?_
  refine WP.val rfl rfl rfl (Val.lss rfl rfl rfl) ?_
  refine WP.nil ?_
  refine Out.next ?_
  refine WPc.ifP rfl (fun h1 => ?_) (fun h1 => ?_)
  · skip
    have h1 : (((i : Nat) : Int) < ((l.length : Nat) : Int)) := h1
    refine WPc.skip ?_
    refine Out.next ?_
    refine WPc.seq ?_
    refine WPc.block ?_
    refine WPc.seq ?_
    have hlt : i < l.length := by omega
    obtain ⟨x, hx⟩ : ∃ x, l[i]? = some x := ⟨_, List.getElem?_eq_getElem hlt⟩
    refine WPc.region ?_
    refine WP.val rfl rfl rfl (Val.move rfl rfl) ?_
    refine WP.val rfl rfl rfl (Val.move rfl rfl) ?_
    refine WP.val rfl rfl rfl (Val.move rfl rfl) ?_
    refine WP.val rfl rfl rfl (Val.indexAddr (j := i) (q := o0 + i) rfl Ty.sl40 rfl rfl (by omega) (by omega) (by omega)) ?_
    refine WP.val rfl rfl rfl (Val.load (v := .int .u8 ((x.toNat : Int))) rfl Ty.sc5 rfl (fun w h => (by have h2 := hr w (h.at 1 rfl) i x hx 0 _ rfl; rwa [Nat.mul_one] at h2))) ?_
    refine WP.val rfl rfl rfl (Val.conv (z := IntKind.wrap .u32 (x.toNat : Int)) rfl Ty.ik22 Ty.un5 rfl rfl) ?_
    refine WP.val rfl rfl rfl (Val.xor rfl rfl rfl) ?_
    refine WP.val rfl rfl rfl (Val.assign rfl rfl) ?_
    refine WP.nil ?_
    refine Out.next ?_
    refine WPc.seq ?_
    refine WPc.region ?_
    refine WP.val rfl rfl rfl (Val.assign rfl rfl) ?_
    refine WP.nil ?_
    refine Out.next ?_
    refine WPc.block ?_
    refine WPc.loop (ι := Nat) (fun j => j ≤ 8) (fun j => [(0, .pointer (some ⟨cb, 0, none⟩)), (1, .slice (some ⟨b0, o0, none⟩) l.length c0), (6, .int .u32 (rep crcBit j (bxor .u32 (((l).take i).foldl crcByte (bcom .u32 u)) (IntKind.wrap .u32 (x.toNat : Int))))), (7, .int .i64 (((i : Nat) : Int))), (8, .int .i64 (((j : Nat) : Int)))]) (fun j => Blk cb [.int .u32 (u)] 99 :: A :: F) (fun j => 8 - j) 0 (Nat.zero_le _) ((Sub.cons rfl (Sub.cons rfl (Sub.cons rfl (Sub.cons rfl (Sub.cons rfl Sub.nil)))))) (fun _ h => h) ?_
    rintro j hj
    show WPc _ _ _ _ _ [(0, .pointer (some ⟨cb, 0, none⟩)), (1, .slice (some ⟨b0, o0, none⟩) l.length c0), (6, .int .u32 (rep crcBit j (bxor .u32 (((l).take i).foldl crcByte (bcom .u32 u)) (IntKind.wrap .u32 (x.toNat : Int))))), (7, .int .i64 (((i : Nat) : Int))), (8, .int .i64 (((j : Nat) : Int)))] (Blk cb [.int .u32 (u)] 99 :: A :: F)
    replace hj : j ≤ 8 := hj
    refine WPc.seq ?_
    refine WPc.seq ?_
    refine WPc.region ?_
    refine WP.val rfl rfl rfl (Val.move rfl rfl) ?_
    refine WP.val rfl rfl rfl (Val.lss rfl rfl rfl) ?_
    refine WP.nil ?_
    refine Out.next ?_
    refine WPc.ifP rfl (fun h2 => ?_) (fun h2 => ?_)
    · skip
      have h2 : (((j : Nat) : Int) < (8 : Int)) := h2
      refine WPc.skip ?_
      refine Out.next ?_
      refine WPc.seq ?_
      refine WPc.block ?_
      refine WPc.seq ?_
      refine WPc.region ?_
      refine WP.val rfl rfl rfl (Val.move rfl rfl) ?_
      refine WP.val rfl rfl rfl (Val.and rfl rfl rfl) ?_
      refine WP.val rfl rfl rfl (Val.eql rfl rfl rfl) ?_
      refine WP.nil ?_
      refine Out.next ?_
      refine WPc.ifP rfl (fun h3 => ?_) (fun h3 => ?_)
      · skip
        have h3 : ((band .u32 (rep crcBit j (bxor .u32 (((l).take i).foldl crcByte (bcom .u32 u)) (IntKind.wrap .u32 (x.toNat : Int)))) (1 : Int)) = (1 : Int)) := h3
        refine WPc.region ?_
        refine WP.val rfl rfl rfl (Val.move rfl rfl) ?_
        refine WP.val rfl rfl rfl (Val.shr rfl rfl rfl (by first | decide | omega)) ?_
        refine WP.val rfl rfl rfl (Val.xor rfl rfl rfl) ?_
        refine WP.val rfl rfl rfl (Val.assign rfl rfl) ?_
        refine WP.nil ?_
        refine Out.block ?_
        refine Out.next ?_
        refine WPc.region ?_
        refine WP.val rfl rfl rfl (Val.move rfl rfl) ?_
        refine WP.val rfl rfl rfl (Val.add (z := ((j + 1 : Nat) : Int)) rfl rfl rfl ((w64 (by omega) (by omega)).trans (by omega))) ?_
        refine WP.val rfl rfl rfl (Val.assign rfl rfl) ?_
        refine WP.nil ?_
        have hb : rep crcBit (j + 1) (bxor .u32 (((l).take i).foldl crcByte (bcom .u32 u)) (IntKind.wrap .u32 (x.toNat : Int))) = bxor .u32 (bshr .u32 (rep crcBit j (bxor .u32 (((l).take i).foldl crcByte (bcom .u32 u)) (IntKind.wrap .u32 (x.toNat : Int)))) (1 : Int)) (2197175160 : Int) := by show crcBit _ = _; unfold crcBit; rw [if_pos (by assumption)]
        refine Out.again (j + 1) ?_ ?_ ?_ ?_
        · exact (by first | omega | (dsimp only; omega))
        · first | omega | (dsimp only; omega)
        · exact (Sub.cons rfl (Sub.cons rfl (Sub.cons (by rw [hb]; rfl) (Sub.cons rfl (Sub.cons rfl Sub.nil)))))
        · exact (fun _ h => h)
      · skip
        have h3 : ¬ ((band .u32 (rep crcBit j (bxor .u32 (((l).take i).foldl crcByte (bcom .u32 u)) (IntKind.wrap .u32 (x.toNat : Int)))) (1 : Int)) = (1 : Int)) := h3
        refine WPc.region ?_
        refine WP.val rfl rfl rfl (Val.move rfl rfl) ?_
        refine WP.val rfl rfl rfl (Val.shr rfl rfl rfl (by first | decide | omega)) ?_
        refine WP.val rfl rfl rfl (Val.assign rfl rfl) ?_
        refine WP.nil ?_
        refine Out.block ?_
        refine Out.next ?_
        refine WPc.region ?_
        refine WP.val rfl rfl rfl (Val.move rfl rfl) ?_
        refine WP.val rfl rfl rfl (Val.add (z := ((j + 1 : Nat) : Int)) rfl rfl rfl ((w64 (by omega) (by omega)).trans (by omega))) ?_
        refine WP.val rfl rfl rfl (Val.assign rfl rfl) ?_
        refine WP.nil ?_
        have hb : rep crcBit (j + 1) (bxor .u32 (((l).take i).foldl crcByte (bcom .u32 u)) (IntKind.wrap .u32 (x.toNat : Int))) = bshr .u32 (rep crcBit j (bxor .u32 (((l).take i).foldl crcByte (bcom .u32 u)) (IntKind.wrap .u32 (x.toNat : Int)))) (1 : Int) := by show crcBit _ = _; unfold crcBit; rw [if_neg (by assumption)]
        refine Out.again (j + 1) ?_ ?_ ?_ ?_
        · exact (by first | omega | (dsimp only; omega))
        · first | omega | (dsimp only; omega)
        · exact (Sub.cons rfl (Sub.cons rfl (Sub.cons (by rw [hb]; rfl) (Sub.cons rfl (Sub.cons rfl Sub.nil)))))
        · exact (fun _ h => h)
    · skip
      have h2 : ¬ (((j : Nat) : Int) < (8 : Int)) := h2
      refine WPc.exit ?_
      refine Out.then_exit ?_
      refine Out.then_exit ?_
      refine Out.block_exit ?_
      refine Out.block ?_
      refine Out.next ?_
      refine WPc.region ?_
      refine WP.val rfl rfl rfl (Val.move rfl rfl) ?_
      refine WP.val rfl rfl rfl (Val.add (z := ((i + 1 : Nat) : Int)) rfl rfl rfl ((w64 (by omega) (by omega)).trans (by omega))) ?_
      refine WP.val rfl rfl rfl (Val.assign rfl rfl) ?_
      refine WP.nil ?_
      have hj8 : j = 8 := by omega
      have hcm := crc_more hx (bcom .u32 u)
      subst hj8
      refine Out.again (i + 1) ?_ ?_ ?_ ?_
      · exact (by first | omega | (dsimp only; omega))
      · first | omega | (dsimp only; omega)
      · exact (Sub.cons rfl (Sub.cons rfl (Sub.cons (by rw [hcm]; rfl) (Sub.cons rfl Sub.nil))))
      · exact (fun _ h => h)
  · skip
    have h1 : ¬ (((i : Nat) : Int) < ((l.length : Nat) : Int)) := h1
    refine WPc.exit ?_
    refine Out.then_exit ?_
    refine Out.then_exit ?_
    refine Out.block_exit ?_
    refine Out.next ?_
    refine WPc.seq ?_
    refine WPc.region ?_
    refine WP.val rfl rfl rfl (Val.move rfl rfl) ?_
    refine WP.val rfl rfl rfl (Val.move rfl rfl) ?_
    refine WP.val rfl rfl rfl (Val.com rfl rfl) ?_
    refine WP.val rfl rfl rfl (Val.nilCheck rfl rfl) ?_
    refine WP.val rfl rfl rfl (Val.fieldAddr (j := 0) rfl Ty.fo99_0 rfl rfl) ?_
    refine WP.eff0 rfl rfl (Eff.store rfl Ty.sc22 rfl rfl rfl (by simp) st0) ?_
    rintro _ _ rfl
    refine WP.nil ?_
    refine Out.next ?_
    refine WPc.seq ?_
    refine WPc.region ?_
    refine WP.val rfl rfl rfl (Val.move rfl rfl) ?_
    refine WP.val rfl rfl rfl (Val.len rfl Ty.sl40 rfl) ?_
    refine WP.val rfl rfl rfl (Val.assign rfl rfl) ?_
    refine WP.val rfl rfl rfl (Val.assign rfl rfl) ?_
    refine WP.nil ?_
    refine Out.next ?_
    refine WPc.ret ?_
    have hti2 : (l).take i = l := List.take_of_length_le (by first | omega | (simp at *; try omega))
    exact Out.ret2 (L' := _) Tryd.results39 rfl rfl ⟨_, rfl, rfl⟩ (fun w h => by rw [hti2] at h; exact h)

theorem crc_spec (A : HProp) (cb : Nat) (u : Int) (l : List UInt8) (hl : l.length ≤ 4294967296) (va : Value) (hva : Rd A 1 bcf va l) : Does Tryd.prog 39 [.pointer (some ⟨cb, 0, none⟩), va] [Blk cb [.int .u32 (u)] 99, A] (fun v L => ∃ k : Int, v = .tuple #[.int .i64 k, .nilIface] ∧ L = [Blk cb [.int .u32 (crcWrite u l)] 99, A]) := by
  rcases hva with ⟨b0, o0, c0, rfl, hr⟩ | ⟨rfl, a, c, rfl⟩
  · exact crc_row A cb u l hl b0 o0 c0 hr
  · exact crc_nil A cb u a c
set_option maxRecDepth 100000 in
set_option maxHeartbeats 2000000 in
theorem sum_spec (cb : Nat) (u : Int) : Does Tryd.prog 40 [.pointer (some ⟨cb, 0, none⟩)] [Blk cb [.int .u32 (u)] 99] (fun v L => v = .int .u32 u ∧ L = [Blk cb [.int .u32 u] 99]) := by
  refine Does.enter 7 Tryd.func40 rfl rfl rfl fun W F => ?_
  show WPc _ _ _ _ _ [(0, .pointer (some ⟨cb, 0, none⟩))] (Blk cb [.int .u32 (u)] 99 :: F)
  refine WPc.seq ?_
  refine WPc.region ?_
  refine WP.val rfl rfl rfl (Val.assign rfl rfl) ?_
  refine WP.nil ?_
  refine Out.next ?_
  refine WPc.seq ?_
  refine WPc.region ?_
  refine WP.val rfl rfl rfl (Val.move rfl rfl) ?_
  refine WP.val rfl rfl rfl (Val.nilCheck rfl rfl) ?_
  refine WP.val rfl rfl rfl (Val.fieldAddr (j := 0) rfl Ty.fo99_0 rfl rfl) ?_
  refine WP.val rfl rfl rfl (Val.load rfl Ty.sc22 rfl (fun w h => h.cell 0 rfl rfl)) ?_
  refine WP.val rfl rfl rfl (Val.assign rfl rfl) ?_
  refine WP.nil ?_
  refine Out.next ?_
  refine WPc.ret ?_
  exact Out.ret1 (L' := _) Tryd.results40 rfl ⟨rfl, rfl⟩ (fun _ h => h)
set_option maxRecDepth 100000 in
set_option maxHeartbeats 2000000 in
theorem at_spec (u : Int) : Does Tryd.prog 31 [.int .u32 (u)] [] (fun v L => ∃ cb, v = .pointer (some ⟨cb, 0, none⟩) ∧ L = [Blk cb [.int .u32 u] 99]) := by
  refine Does.enter 6 Tryd.func31 rfl rfl rfl fun W F => ?_
  show WPc _ _ _ _ _ [(0, .int .u32 (u))] (F)
  refine WPc.seq ?_
  refine WPc.region ?_
  refine WP.val rfl rfl rfl (Val.assign rfl rfl) ?_
  refine WP.nil ?_
  refine Out.next ?_
  refine WPc.seq ?_
  refine WPc.region ?_
  refine WP.val rfl rfl rfl (Val.move rfl rfl) ?_
  refine WP.val rfl rfl rfl (Val.mk (cs := [.int .u32 (u)]) rfl rfl (fun _ => by kernel_rfl)) ?_
  refine WP.eff rfl rfl rfl (Eff.box (C := [.int .u32 (u)]) rfl rfl rfl) ?_
  rintro _ F ⟨b1, rfl, rfl⟩
  refine WP.val rfl rfl rfl (Val.assign rfl rfl) ?_
  refine WP.nil ?_
  refine Out.next ?_
  refine WPc.ret ?_
  exact Out.ret1 (L' := _) Tryd.results31 rfl ⟨b1, rfl, rfl⟩ (fun _ h => h)
set_option maxRecDepth 100000 in
set_option maxHeartbeats 2000000 in
theorem ssum_spec (u : Int) (s : ByteArray) (hs : s.size ≤ 4294967296) : Does Tryd.prog 24 [.int .u32 (u), .string s] [] (fun v L => v = .int .u32 (crcWrite u s.data.toList) ∧ L = []) := by
  refine Does.enter 35 Tryd.func24 rfl rfl rfl fun W F => ?_
  show WPc _ _ _ _ _ [(0, .int .u32 (u)), (1, .string s)] (F)
  refine WPc.seq ?_
  refine WPc.region ?_
  refine WP.val rfl rfl rfl (Val.assign rfl rfl) ?_
  refine WP.nil ?_
  refine Out.next ?_
  refine WPc.seq ?_
  refine WPc.region ?_
  refine WP.val rfl rfl rfl (Val.move rfl rfl) ?_
  refine WP.val rfl rfl rfl (Val.com rfl rfl) ?_
  refine WP.val rfl rfl rfl (Val.assign rfl rfl) ?_
  refine WP.nil ?_
  refine Out.next ?_
  refine WPc.seq ?_
  refine WPc.seq ?_
  have bsz : s.data.toList.length = s.size := Array.length_toList
  refine WPc.region ?_
  refine WP.val rfl rfl rfl (Val.move rfl rfl) ?_
  refine WP.val rfl rfl rfl (Val.lenS rfl Ty.st9 rfl) ?_
  refine WP.val rfl rfl rfl (Val.move rfl rfl) ?_
  refine WP.nil ?_
  refine Out.next ?_
  refine WPc.block ?_
  refine WPc.loop (ι := Nat) (fun i => i ≤ s.size) (fun i => [(1, .string s), (5, .int .u32 ((s.data.toList.take i).foldl crcByte (bcom .u32 u))), (11, .int .i64 (((s.size : Nat) : Int))), (12, .int .i64 (((i : Nat) : Int)))]) (fun i => F) (fun i => s.size - i) 0 (Nat.zero_le _) ((Sub.cons rfl (Sub.cons rfl (Sub.cons rfl (Sub.cons rfl Sub.nil))))) (fun _ h => h) ?_
  rintro i hi
  show WPc _ _ _ _ _ [(1, .string s), (5, .int .u32 ((s.data.toList.take i).foldl crcByte (bcom .u32 u))), (11, .int .i64 (((s.size : Nat) : Int))), (12, .int .i64 (((i : Nat) : Int)))] (F)
  replace hi : i ≤ s.size := hi
  refine WPc.seq ?_
  refine WPc.region ?_
  refine WP.val rfl rfl rfl (Val.lss rfl rfl rfl) ?_
  refine WP.nil ?_
  refine Out.next ?_
  refine WPc.seq ?_
  refine WPc.ifP rfl (fun h1 => ?_) (fun h1 => ?_)
  · skip
    have h1 : (((i : Nat) : Int) < ((s.size : Nat) : Int)) := h1
    refine WPc.skip ?_
    refine Out.next ?_
    refine WPc.seq ?_
    refine WPc.block ?_
    refine WPc.seq ?_
    refine WPc.region ?_
    refine WP.val rfl rfl rfl (Val.move rfl rfl) ?_
    refine WP.val rfl rfl rfl (Val.assign rfl rfl) ?_
    refine WP.nil ?_
    refine Out.next ?_
    refine WPc.seq ?_
    obtain ⟨x, hx⟩ : ∃ x, s.data.toList[i]? = some x := ⟨_, List.getElem?_eq_getElem (by rw [bsz]; omega)⟩
    refine WPc.region ?_
    refine WP.val rfl rfl rfl (Val.move rfl rfl) ?_
    refine WP.val rfl rfl rfl (Val.move rfl rfl) ?_
    refine WP.val rfl rfl rfl (Val.move rfl rfl) ?_
    refine WP.val rfl rfl rfl (Val.indexStr (j := i) (c := x) rfl rfl rfl rfl rfl hx) ?_
    refine WP.val rfl rfl rfl (Val.conv (z := IntKind.wrap .u32 (x.toNat : Int)) rfl Ty.ik22 Ty.un5 rfl rfl) ?_
    refine WP.val rfl rfl rfl (Val.xor rfl rfl rfl) ?_
    refine WP.val rfl rfl rfl (Val.assign rfl rfl) ?_
    refine WP.nil ?_
    refine Out.next ?_
    refine WPc.seq ?_
    refine WPc.region ?_
    refine WP.val rfl rfl rfl (Val.move rfl rfl) ?_
    refine WP.nil ?_
    refine Out.next ?_
    refine WPc.block ?_
    refine WPc.loop (ι := Nat) (fun j => j ≤ 8) (fun j => [(1, .string s), (5, .int .u32 (rep crcBit j (bxor .u32 ((s.data.toList.take i).foldl crcByte (bcom .u32 u)) (IntKind.wrap .u32 (x.toNat : Int))))), (11, .int .i64 (((s.size : Nat) : Int))), (12, .int .i64 (((i : Nat) : Int))), (21, .int .i64 (((j : Nat) : Int)))]) (fun j => F) (fun j => 8 - j) 0 (Nat.zero_le _) ((Sub.cons rfl (Sub.cons rfl (Sub.cons rfl (Sub.cons rfl (Sub.cons rfl Sub.nil)))))) (fun _ h => h) ?_
    rintro j hj
    show WPc _ _ _ _ _ [(1, .string s), (5, .int .u32 (rep crcBit j (bxor .u32 ((s.data.toList.take i).foldl crcByte (bcom .u32 u)) (IntKind.wrap .u32 (x.toNat : Int))))), (11, .int .i64 (((s.size : Nat) : Int))), (12, .int .i64 (((i : Nat) : Int))), (21, .int .i64 (((j : Nat) : Int)))] (F)
    replace hj : j ≤ 8 := hj
    refine WPc.seq ?_
    refine WPc.region ?_
    refine WP.val rfl rfl rfl (Val.lss rfl rfl rfl) ?_
    refine WP.nil ?_
    refine Out.next ?_
    refine WPc.seq ?_
    refine WPc.ifP rfl (fun h2 => ?_) (fun h2 => ?_)
    · skip
      have h2 : (((j : Nat) : Int) < (8 : Int)) := h2
      refine WPc.skip ?_
      refine Out.next ?_
      refine WPc.seq ?_
      refine WPc.block ?_
      refine WPc.seq ?_
      refine WPc.region ?_
      refine WP.val rfl rfl rfl (Val.move rfl rfl) ?_
      refine WP.val rfl rfl rfl (Val.and rfl rfl rfl) ?_
      refine WP.val rfl rfl rfl (Val.assign rfl rfl) ?_
      refine WP.nil ?_
      refine Out.next ?_
      refine WPc.seq ?_
      refine WPc.region ?_
      refine WP.val rfl rfl rfl (Val.move rfl rfl) ?_
      refine WP.val rfl rfl rfl (Val.shr rfl rfl rfl (by first | decide | omega)) ?_
      refine WP.val rfl rfl rfl (Val.assign rfl rfl) ?_
      refine WP.nil ?_
      refine Out.next ?_
      refine WPc.seq ?_
      refine WPc.region ?_
      refine WP.val rfl rfl rfl (Val.move rfl rfl) ?_
      refine WP.val rfl rfl rfl (Val.eql rfl rfl rfl) ?_
      refine WP.nil ?_
      refine Out.next ?_
      refine WPc.ifP rfl (fun h3 => ?_) (fun h3 => ?_)
      · skip
        have h3 : ((band .u32 (rep crcBit j (bxor .u32 ((s.data.toList.take i).foldl crcByte (bcom .u32 u)) (IntKind.wrap .u32 (x.toNat : Int)))) (1 : Int)) = (1 : Int)) := h3
        refine WPc.region ?_
        refine WP.val rfl rfl rfl (Val.move rfl rfl) ?_
        refine WP.val rfl rfl rfl (Val.xor rfl rfl rfl) ?_
        refine WP.val rfl rfl rfl (Val.assign rfl rfl) ?_
        refine WP.nil ?_
        refine Out.block ?_
        refine Out.next ?_
        refine WPc.region ?_
        refine WP.val rfl rfl rfl (Val.add (z := ((j + 1 : Nat) : Int)) rfl rfl rfl ((w64 (by omega) (by omega)).trans (by omega))) ?_
        refine WP.val rfl rfl rfl (Val.move rfl rfl) ?_
        refine WP.nil ?_
        have hb : rep crcBit (j + 1) (bxor .u32 ((s.data.toList.take i).foldl crcByte (bcom .u32 u)) (IntKind.wrap .u32 (x.toNat : Int))) = bxor .u32 (bshr .u32 (rep crcBit j (bxor .u32 ((s.data.toList.take i).foldl crcByte (bcom .u32 u)) (IntKind.wrap .u32 (x.toNat : Int)))) (1 : Int)) (2197175160 : Int) := by show crcBit _ = _; unfold crcBit; rw [if_pos (by assumption)]
        refine Out.again (j + 1) ?_ ?_ ?_ ?_
        · exact (by first | omega | (dsimp only; omega))
        · first | omega | (dsimp only; omega)
        · exact (Sub.cons rfl (Sub.cons (by rw [hb]; rfl) (Sub.cons rfl (Sub.cons rfl (Sub.cons rfl Sub.nil)))))
        · exact (fun _ h => h)
      · skip
        have h3 : ¬ ((band .u32 (rep crcBit j (bxor .u32 ((s.data.toList.take i).foldl crcByte (bcom .u32 u)) (IntKind.wrap .u32 (x.toNat : Int)))) (1 : Int)) = (1 : Int)) := h3
        refine WPc.skip ?_
        refine Out.block ?_
        refine Out.next ?_
        refine WPc.region ?_
        refine WP.val rfl rfl rfl (Val.add (z := ((j + 1 : Nat) : Int)) rfl rfl rfl ((w64 (by omega) (by omega)).trans (by omega))) ?_
        refine WP.val rfl rfl rfl (Val.move rfl rfl) ?_
        refine WP.nil ?_
        have hb : rep crcBit (j + 1) (bxor .u32 ((s.data.toList.take i).foldl crcByte (bcom .u32 u)) (IntKind.wrap .u32 (x.toNat : Int))) = bshr .u32 (rep crcBit j (bxor .u32 ((s.data.toList.take i).foldl crcByte (bcom .u32 u)) (IntKind.wrap .u32 (x.toNat : Int)))) (1 : Int) := by show crcBit _ = _; unfold crcBit; rw [if_neg (by assumption)]
        refine Out.again (j + 1) ?_ ?_ ?_ ?_
        · exact (by first | omega | (dsimp only; omega))
        · first | omega | (dsimp only; omega)
        · exact (Sub.cons rfl (Sub.cons (by rw [hb]; rfl) (Sub.cons rfl (Sub.cons rfl (Sub.cons rfl Sub.nil)))))
        · exact (fun _ h => h)
    · skip
      have h2 : ¬ (((j : Nat) : Int) < (8 : Int)) := h2
      refine WPc.exit ?_
      refine Out.then_exit ?_
      refine Out.then_exit ?_
      refine Out.block_exit ?_
      refine Out.block ?_
      refine Out.next ?_
      refine WPc.region ?_
      refine WP.val rfl rfl rfl (Val.add (z := ((i + 1 : Nat) : Int)) rfl rfl rfl ((w64 (by omega) (by omega)).trans (by omega))) ?_
      refine WP.val rfl rfl rfl (Val.move rfl rfl) ?_
      refine WP.nil ?_
      have hj8 : j = 8 := by omega
      have hcm := crc_more hx (bcom .u32 u)
      subst hj8
      refine Out.again (i + 1) ?_ ?_ ?_ ?_
      · exact (by first | omega | (dsimp only; omega))
      · first | omega | (dsimp only; omega)
      · exact (Sub.cons rfl (Sub.cons (by rw [hcm]; rfl) (Sub.cons rfl (Sub.cons rfl Sub.nil))))
      · exact (fun _ h => h)
  · skip
    have h1 : ¬ (((i : Nat) : Int) < ((s.size : Nat) : Int)) := h1
    refine WPc.exit ?_
    refine Out.then_exit ?_
    refine Out.then_exit ?_
    refine Out.block_exit ?_
    refine Out.next ?_
    refine WPc.seq ?_
    refine WPc.region ?_
    refine WP.val rfl rfl rfl (Val.move rfl rfl) ?_
    refine WP.val rfl rfl rfl (Val.com rfl rfl) ?_
    refine WP.val rfl rfl rfl (Val.assign rfl rfl) ?_
    refine WP.nil ?_
    refine Out.next ?_
    refine WPc.ret ?_
    have hti2 : s.data.toList.take i = s.data.toList := List.take_of_length_le (by omega)
    exact Out.ret1 (L' := []) Tryd.results24 rfl ⟨by rw [hti2]; rfl, rfl⟩ (fun _ h => h)

end Go.Proofs.YthicijpjpijdjaaDoor.Wa
