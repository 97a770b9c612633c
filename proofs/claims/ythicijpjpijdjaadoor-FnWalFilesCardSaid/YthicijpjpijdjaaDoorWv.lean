import Derived.Test.YthicijpjpijdjaaDoorWu
namespace Go.Proofs.YthicijpjpijdjaaDoor.Wv
open Go.RowKit Go.Proofs.YthicijpjpijdjaaDoor Go.Proofs.YthicijpjpijdjaaDoor.Sl Go.Proofs.YthicijpjpijdjaaDoor.Wa Go.Proofs.YthicijpjpijdjaaDoor.Wb Go.Proofs.YthicijpjpijdjaaDoor.Wc Go.Proofs.YthicijpjpijdjaaDoor.Wd Go.Proofs.YthicijpjpijdjaaDoor.We Go.Proofs.YthicijpjpijdjaaDoor.Wf Go.Proofs.YthicijpjpijdjaaDoor.Wg Go.Proofs.YthicijpjpijdjaaDoor.Wh Go.Proofs.YthicijpjpijdjaaDoor.Wi Go.Proofs.YthicijpjpijdjaaDoor.Wj Go.Proofs.YthicijpjpijdjaaDoor.Wk Go.Proofs.YthicijpjpijdjaaDoor.Wl Go.Proofs.YthicijpjpijdjaaDoor.Wm Go.Proofs.YthicijpjpijdjaaDoor.Wn Go.Proofs.YthicijpjpijdjaaDoor.Wo Go.Proofs.YthicijpjpijdjaaDoor.Wp Go.Proofs.YthicijpjpijdjaaDoor.Wq Go.Proofs.YthicijpjpijdjaaDoor.Wr Go.Proofs.YthicijpjpijdjaaDoor.Ws Go.Proofs.YthicijpjpijdjaaDoor.Wt Go.Proofs.YthicijpjpijdjaaDoor.Wu
set_option linter.unusedVariables false
set_option linter.unusedSimpArgs false
set_option linter.unusedSectionVars false


theorem u8_eq {a b : UInt8} (h : ((a.toNat : Nat) : Int) = ((b.toNat : Nat) : Int)) : a = b := UInt8.toNat_inj.1 (by omega)
theorem leN_eq {a b : Int} : ∀ k : Nat, (∀ i, i < k → lq a i = lq b i) → leN a k = leN b k := fun k h => by
  unfold leN
  exact List.map_congr_left fun i hi => h i (List.mem_range.1 hi)
theorem wlow_leN (n : Nat) : ∀ i, wlow n i = leN (IntKind.wrap .u64 ((n : Nat) : Int)) i
  | 0 => rfl
  | i + 1 => by
    rw [leN_succ, ← wlow_leN n i]
    rfl
theorem pw256 (k : Nat) (h : k < 7) : (2 : Int) ^ (8 * k) * 2 ^ (8 * (7 - k)) = 72057594037927936 := by
  rw [← Int.pow_add, show 8 * k + 8 * (7 - k) = 56 by omega]; decide
theorem lq_low {n m : Int} {k : Nat} (h : k < 7) : (n + m * 72057594037927936) / 2 ^ (8 * k) % 256 = n / 2 ^ (8 * k) % 256 := by
  rcases (by omega : k = 0 ∨ k = 1 ∨ k = 2 ∨ k = 3 ∨ k = 4 ∨ k = 5 ∨ k = 6) with rfl | rfl | rfl | rfl | rfl | rfl | rfl <;> simp <;> omega
theorem btop_nat : ∀ p : Fin 8, (((btop ((p.val : Nat) : Int)).toNat : Nat) : Int) = ((128 + p.val : Nat) : Int) := by decide
theorem head_eq {n : Nat} (h : n < 72057594037927936) : wlow n 7 ++ [wtop n] = leN ((lfN n : Nat) : Int) 8 := by
  have hp := padn_lt n
  rw [leN_succ, wlow_leN, u64_nat (by omega)]
  congr 1
  · refine leN_eq 7 fun i hi => u8_eq ?_
    rw [lq_val (by omega), lq_val (by omega)]
    unfold lfN
    split
    · rfl
    · have e : (((n + (128 + padn n) * 72057594037927936 : Nat) : Nat) : Int) = ((n : Nat) : Int) + ((128 + padn n : Nat) : Int) * 72057594037927936 := by omega
      rw [e, lq_low hi]
  · refine congrArg (fun c => [c]) (u8_eq ?_)
    rw [lq_val (by omega)]
    unfold wtop lfN
    split
    · rename_i h0
      rw [if_neg (by omega)]
      have hb := btop_nat ⟨padn n, hp⟩
      simp only at hb
      rw [hb]
      simp
      omega
    · rename_i h0
      rw [if_pos (by omega)]
      simp
      omega
theorem wframe_fr8 {b : List UInt8} (h : b.length < 72057594037927936) : wframe b = fr8 b := by
  unfold wframe fr8
  rw [head_eq h, List.append_assoc]
theorem vint_8 : vint 8 = [8] := by decide
theorem vint_16 : vint 16 = [16] := by decide
theorem vint_26 : vint 26 = [26] := by decide
theorem key3 : bor .u64 (bshl .u64 (IntKind.wrap .u64 3) 3) 2 = 26 := by decide
def optd (x : WR) : Option (List UInt8) := if x.has then some x.d else none
theorem wbody_rbody (x : WR) (su : Int) : wbody x su = rbody x.ty su (optd x) := by
  unfold wbody rbody optd
  cases x.has with
  | true => simp [pbytes, key3, vint_26]
  | false => simp
/-- the pieces and the sums -/
def piecesR : Int → List WR → List (List UInt8)
  | _, [] => []
  | c, x :: l => wframe (wbody x (crcWrite c x.d)) :: piecesR (crcWrite c x.d) l
def sumsR : Int → List WR → List Int
  | _, [] => []
  | c, x :: l => crcWrite c x.d :: sumsR (crcWrite c x.d) l
theorem foldB : ∀ (l : List WR) (s : Int × List (List UInt8) × List Int), (l.foldl stepB s).2.1 = s.2.1 ++ piecesR s.1 l ∧ (l.foldl stepB s).2.2 = s.2.2 ++ sumsR s.1 l
  | [], s => by simp [piecesR, sumsR]
  | x :: l, s => by
    have := foldB l (stepB s x)
    simp only [List.foldl_cons]
    refine ⟨this.1.trans ?_, this.2.trans ?_⟩ <;> simp [stepB, piecesR, sumsR]
theorem rb_len (x : WR) (su : Int) (h : x.d.length ≤ 5000) : (wbody x su).length < 72057594037927936 := by have := wbody_len x su; omega
theorem foldW : ∀ (l : List WR) (s : Int × List UInt8), (∀ x ∈ l, x.d.length ≤ 5000) → (l.foldl stepW s).2 = s.2 ++ (piecesR s.1 l).flatten ∧ (l.foldl stepW s).1 = l.foldl stepL s.1
  | [], s, _ => by simp [piecesR]
  | x :: l, s, h => by
    have h1 := foldW l (stepW s x) (fun y hy => h y (List.mem_cons_of_mem _ hy))
    have h2 := h x List.mem_cons_self
    simp only [List.foldl_cons]
    refine ⟨h1.1.trans ?_, h1.2⟩
    have e : fr8 (rbody x.ty (crcWrite s.1 x.d) (if x.has then some x.d else none)) = wframe (wbody x (crcWrite s.1 x.d)) := by
      rw [wframe_fr8 (rb_len x _ h2), wbody_rbody]; rfl
    simp only [stepW, piecesR, List.flatten_cons, ← List.append_assoc, e]
theorem pieces_len : ∀ (c : Int) (l : List WR), (piecesR c l).length = l.length
  | _, [] => rfl
  | c, x :: l => by simp [piecesR, pieces_len]
theorem sums_len : ∀ (c : Int) (l : List WR), (sumsR c l).length = l.length
  | _, [] => rfl
  | c, x :: l => by simp [sumsR, sums_len]
theorem pieces_app : ∀ (c : Int) (a b : List WR), piecesR c (a ++ b) = piecesR c a ++ piecesR (a.foldl stepL c) b
  | _, [], _ => rfl
  | c, x :: a, b => by simp [piecesR, pieces_app, stepL]
theorem piece_le (x : WR) (su : Int) (h : x.d.length ≤ 5000) : (wframe (wbody x su)).length ≤ 5100 := by
  have h1 := wbody_len x su
  have h2 := padn_lt (wbody x su).length
  rw [wframe_len]; omega
theorem pieces_le : ∀ (c : Int) (l : List WR), (∀ x ∈ l, x.d.length ≤ 5000) → (piecesR c l).flatten.length ≤ l.length * 5100
  | _, [], _ => by simp [piecesR]
  | c, x :: l, h => by
    have h1 := piece_le x (crcWrite c x.d) (h x List.mem_cons_self)
    have h2 := pieces_le (crcWrite c x.d) l (fun y hy => h y (List.mem_cons_of_mem _ hy))
    simp only [piecesR, List.flatten_cons, List.length_append, List.length_cons]
    omega
/-- a record's data as they come -/
def WfR (x : WR) : Prop := (-9223372036854775808 ≤ x.ty ∧ x.ty ≤ 9223372036854775807) ∧ (0 ≤ x.c ∧ x.c < 4294967296)
def rfOf (x : WR) (su : Int) : RF := ⟨.ty (IntKind.wrap .u64 x.ty) :: .su (IntKind.wrap .u64 su) :: (if x.has then [.d x.d] else []), x.ty, su, x.d⟩
def rfs : Int → List WR → List RF
  | _, [] => []
  | c, x :: l => rfOf x (crcWrite c x.d) :: rfs (crcWrite c x.d) l
theorem u32_range (z : Int) : 0 ≤ IntKind.u32.wrap z ∧ IntKind.u32.wrap z < 4294967296 := by
  have h1 : IntKind.u32.wrap z = z % 4294967296 := rfl
  rw [h1]; omega
theorem crc_range (c : Int) (l : List UInt8) : 0 ≤ crcWrite c l ∧ crcWrite c l < 4294967296 := u32_range _
theorem encF_rf (x : WR) (su : Int) (h : x.d.length ≤ 5000) : encF (rfOf x su).fds = rbody x.ty su (optd x) := by
  unfold rfOf rbody optd
  cases x.has with
  | true => simp [encF, vint_8, vint_16, vint_26, pbytes, key3, u64_nat (show x.d.length < 18446744073709551616 by omega)]
  | false => simp [encF, vint_8, vint_16]
theorem frame_rf (x : WR) (su : Int) (h : x.d.length ≤ 5000) : (rfOf x su).frame = wframe (wbody x su) := by
  rw [wframe_fr8 (rb_len x su h), wbody_rbody, ← encF_rf x su h]; rfl
theorem u64_i64 {z : Int} (h0 : -9223372036854775808 ≤ z) (h1 : z ≤ 9223372036854775807) : IntKind.wrap .i64 (IntKind.wrap .u64 z) = z := by
  have e2 : IntKind.wrap .u64 z = z % 18446744073709551616 := rfl
  rw [e2, i64_val]
  split <;> omega
theorem u32_back {z : Int} (h0 : 0 ≤ z) (h1 : z < 4294967296) : IntKind.wrap .u32 (IntKind.wrap .i64 (IntKind.wrap .u64 z)) = z := by
  rw [u64_i64 (by omega) (by omega)]
  have e : IntKind.wrap .u32 z = z % 4294967296 := rfl
  rw [e]; omega
theorem good_rf {x : WR} {su : Int} (hw : WfR x) (hs : 0 ≤ su ∧ su < 4294967296) (h : x.d.length ≤ 5000) (hh : x.has = false → x.d = []) : (rfOf x su).good := by
  have hl := rbody_len x.ty su (optd x)
  have hp := rbody_pos x.ty su (optd x)
  have ho : ((optd x).getD []).length ≤ 5000 := by unfold optd; split <;> simp <;> omega
  refine ⟨?_, ?_, ?_, ?_, ?_⟩
  · unfold rfOf
    cases hx : x.has with
    | true => simp [appF, u64_i64 hw.1.1 hw.1.2, u32_back hs.1 hs.2]
    | false => simp [appF, u64_i64 hw.1.1 hw.1.2, u32_back hs.1 hs.2, hh hx]
  · intro y hy
    unfold rfOf at hy
    simp only [List.mem_cons] at hy
    rcases hy with rfl | rfl | hy
    · exact u64_range _
    · exact u64_range _
    · split at hy
      · obtain rfl : y = .d x.d := by simpa using hy
        exact True.intro
      · cases hy
  · rw [encF_rf x su h]; omega
  · rw [encF_rf x su h]; omega
  · show x.d.length ≤ _; omega
def OkR (x : WR) : Prop := WfR x ∧ GoodR x
theorem rfs_good : ∀ (c : Int) (l : List WR), (∀ x ∈ l, OkR x) → ∀ r ∈ rfs c l, r.good
  | _, [], _, _, h => by cases h
  | c, x :: l, ho, r, h => by
    obtain ⟨h1, h2⟩ := ho x List.mem_cons_self
    rcases List.mem_cons.1 h with rfl | h
    · exact good_rf h1 (crc_range _ _) h2.2.1 h2.2.2.1
    · exact rfs_good _ l (fun y hy => ho y (List.mem_cons_of_mem _ hy)) r h
theorem rfs_frames : ∀ (c : Int) (l : List WR), (∀ x ∈ l, OkR x) → (rfs c l).map RF.frame = piecesR c l
  | _, [], _ => rfl
  | c, x :: l, ho => by
    obtain ⟨h1, h2⟩ := ho x List.mem_cons_self
    simp only [rfs, piecesR, List.map_cons]
    rw [frame_rf x _ h2.2.1, rfs_frames _ l (fun y hy => ho y (List.mem_cons_of_mem _ hy))]
theorem frames_flat (rs : List RF) : frames rs = (rs.map RF.frame).flatten := by simp [frames, List.flatMap]
theorem rfs_take : ∀ (c : Int) (l : List WR) (k : Nat), (rfs c l).take k = rfs c (l.take k)
  | _, [], k => by simp [rfs]
  | _, _ :: _, 0 => rfl
  | c, x :: l, k + 1 => by simp [rfs, rfs_take]
theorem rfs_len : ∀ (c : Int) (l : List WR), (rfs c l).length = l.length
  | _, [] => rfl
  | c, x :: l => by simp [rfs, rfs_len]
theorem chain_rfs : ∀ (c : Int) (l : List WR), Chain c (rfs c l)
  | _, [] => True.intro
  | c, x :: l => ⟨fun _ => rfl, chain_rfs _ l⟩
theorem chain_hd (c : Int) (l : List WR) : Chain 0 (rfs c (WR.hd :: l)) := ⟨fun h => absurd rfl h, chain_rfs _ l⟩
theorem lastC_rfs : ∀ (c : Int) (l : List WR), lastC c (rfs c l) = l.foldl stepL c
  | _, [] => rfl
  | c, x :: l => by simp only [rfs, lastC, List.foldl_cons]; exact lastC_rfs _ l
theorem lastC_hd (c : Int) (l : List WR) : lastC 0 (rfs c (WR.hd :: l)) = (WR.hd :: l).foldl stepL c := by
  simp only [rfs, lastC, List.foldl_cons]; exact lastC_rfs _ l
theorem outs_at : ∀ {got : List WR} {c : Int} {l : List WR}, Outs got (rfs c l) → ∀ {i : Nat} {x : WR}, l[i]? = some x → ∃ su hb, got[i]? = some ⟨x.ty, true, su, true, x.d, hb⟩ ∧ (sumsR c l)[i]? = some su
  | [], _, [], _, _, _, h => by simp at h
  | [], _, _ :: _, h, _, _, _ => h.elim
  | _ :: _, _, [], h, _, _, _ => h.elim
  | g :: got, c, y :: l, h, 0, x, hx => by
    obtain rfl : y = x := by simpa using hx
    obtain ⟨⟨h1, h2, h3, h4, h5⟩, -⟩ := h
    obtain ⟨ty, ht, cc, hc, d, has⟩ := g
    simp only [rfOf] at h1 h2 h3 h4 h5
    subst h1 h2 h3 h4 h5
    exact ⟨_, has, rfl, rfl⟩
  | g :: got, c, y :: l, h, i + 1, x, hx => by
    obtain ⟨su, hb, h1, h2⟩ := outs_at h.2 (i := i) (x := x) (by simpa using hx)
    exact ⟨su, hb, by simpa using h1, by simpa [sumsR] using h2⟩
theorem mid_flat {P : List (List UInt8)} {i : Nat} {x : List UInt8} (h : P[i]? = some x) (sp : List Value) : ((byt P.flatten ++ sp).drop (P.take i).flatten.length).take x.length = byt x := by
  have e := split_at h
  have e2 : P.flatten = (P.take i).flatten ++ (x ++ (P.drop (i + 1)).flatten) := by
    conv => lhs; rw [e]
    simp
  rw [e2, byt_append, byt_append, List.append_assoc, List.append_assoc]
  have l1 : (P.take i).flatten.length = (byt (P.take i).flatten).length := by rw [byt_length]
  rw [l1, List.drop_left, ← byt_length x, List.take_left]
theorem piece_pos {c : Int} {l : List WR} {i : Nat} {x : List UInt8} (h : (piecesR c l)[i]? = some x) : 8 ≤ x.length := by
  induction l generalizing c i with
  | nil => simp [piecesR] at h
  | cons y l ih =>
    cases i with
    | zero =>
      obtain rfl : _ = x := by simpa [piecesR] using h
      rw [wframe_len]; omega
    | succ i => exact ih (c := crcWrite c y.d) (i := i) (by simpa [piecesR] using h)
theorem rd_blkW {g T : Nat} {l : List WR} {sp : List Value} : ∀ w, Holds (Blk g (flatOf WR.cells l ++ sp) T) w → ∀ i x, l[i]? = some x → w.rangeAt g (0 + i * 6) (WR.cells x) := fun w h i x hx => by
  rw [Nat.zero_add]
  exact h.cell_range (flatOf_range WR.len hx)
theorem u32_cell {l : List Int} {i : Nat} {z : Int} (h : l[i]? = some z) (sp : List Value) : (l.map u32v ++ sp)[i]? = some (.int .u32 z) := by
  have hlt := (List.getElem?_eq_some_iff.1 h).1
  rw [List.getElem?_append_left (by simpa using hlt), List.getElem?_map, h]; rfl

end Go.Proofs.YthicijpjpijdjaaDoor.Wv
