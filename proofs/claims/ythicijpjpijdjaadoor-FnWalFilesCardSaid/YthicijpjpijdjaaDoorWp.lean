import Derived.Test.YthicijpjpijdjaaDoorWo
namespace Go.Proofs.YthicijpjpijdjaaDoor.Wp
open Go.RowKit Go.Proofs.YthicijpjpijdjaaDoor Go.Proofs.YthicijpjpijdjaaDoor.Sl Go.Proofs.YthicijpjpijdjaaDoor.Wa Go.Proofs.YthicijpjpijdjaaDoor.Wb Go.Proofs.YthicijpjpijdjaaDoor.Wc Go.Proofs.YthicijpjpijdjaaDoor.Wd Go.Proofs.YthicijpjpijdjaaDoor.We Go.Proofs.YthicijpjpijdjaaDoor.Wf Go.Proofs.YthicijpjpijdjaaDoor.Wg Go.Proofs.YthicijpjpijdjaaDoor.Wh Go.Proofs.YthicijpjpijdjaaDoor.Wi Go.Proofs.YthicijpjpijdjaaDoor.Wj Go.Proofs.YthicijpjpijdjaaDoor.Wk Go.Proofs.YthicijpjpijdjaaDoor.Wl Go.Proofs.YthicijpjpijdjaaDoor.Wm Go.Proofs.YthicijpjpijdjaaDoor.Wn Go.Proofs.YthicijpjpijdjaaDoor.Wo
set_option linter.unusedVariables false
set_option linter.unusedSimpArgs false
set_option linter.unusedSectionVars false


/-- a record as it stands in a log -/
structure RF where
  fds : List Fld
  tx : Int
  cx : Int
  d : List UInt8
def RF.good (r : RF) : Prop := r.fds.foldl appF (none, none, []) = (some r.tx, some r.cx, r.d) ∧ (∀ x ∈ r.fds, x.ok) ∧ 0 < (encF r.fds).length ∧ (encF r.fds).length ≤ 2000000 ∧ r.d.length ≤ 4294967296
def RF.frame (r : RF) : List UInt8 := leN ((lfN (encF r.fds).length : Nat) : Int) 8 ++ (encF r.fds ++ List.replicate (padn (encF r.fds).length) 0)
def frames (rs : List RF) : List UInt8 := rs.flatMap RF.frame
theorem RF.frame_len (r : RF) : r.frame.length = 8 + (encF r.fds).length + padn (encF r.fds).length := by
  unfold RF.frame
  simp only [List.length_append, leN_len, List.length_replicate]; omega
theorem frames_cons (r : RF) (rs : List RF) : frames (r :: rs) = r.frame ++ frames rs := rfl
theorem frames_app (a b : List RF) : frames (a ++ b) = frames a ++ frames b := by simp [frames]
/-- what is left of files, and the records in it -/
def Lay : List Fil → Nat → List (List RF) → Prop
  | [], _, rss => rss = []
  | x :: fs, p, rss => ∃ rs rss', rss = rs :: rss' ∧ p ≤ x.2.length ∧ x.2.length ≤ 4294967296 ∧ x.2.drop p = frames rs ∧ (∀ r ∈ rs, r.good) ∧ Lay fs 0 rss'
def EOFV (ep : Addr) : Value := .iface 123 (.pointer (some ep))
theorem dec_step (db rb : Nat) (ep : Addr) (on : Bool) (r : RF) (more : List RF) (c : Int) (hc : r.tx ≠ 4 → r.cx = crcWrite c r.d) : ∀ (fs : List Fil) (p : Nat) (rss : List (List RF)), Lay fs p rss → rss.flatten = r :: more →
    ∃ k p' rss', Lay (fs.drop k) p' rss' ∧ k < fs.length ∧ rss'.flatten = more ∧
      Does Tryd.prog 75 [.pointer (some ⟨db, 0, none⟩), .pointer (some ⟨rb, 0, none⟩)] [Dec db on fs p p c, Rec rb none none [], Cel 0 0 (.iface 123 (.pointer (some ep)))] (fun v L => v = .nilIface ∧ L = [Dec db on (fs.drop k) p' p' (if r.tx = 4 then c else crcWrite c r.d), Rec rb (some r.tx) (some r.cx) r.d, Cel 0 0 (.iface 123 (.pointer (some ep)))])
  | [], p, rss, h, hm => by
    have : rss = [] := h
    subst this
    cases hm
  | (fb, bs) :: fs, p, rss, h, hm => by
    obtain ⟨rs, rss', rfl, hp, hbs, hd, hg, hl⟩ := h
    dsimp only at hp hbs hd
    cases rs with
    | nil =>
      have hpe : p = bs.length := by
        have := congrArg List.length hd
        simp [frames] at this
        omega
      have hm' : rss'.flatten = r :: more := by simpa using hm
      cases fs with
      | nil =>
        have : rss' = [] := hl
        subst this
        cases hm'
      | cons y ys =>
        obtain ⟨k, p', rss'', h1, h2, h3, h4⟩ := dec_step db rb ep on r more c hc (y :: ys) 0 rss' hl hm'
        exact ⟨k + 1, p', rss'', h1, by simp at h2 ⊢; omega, h3, dr_next db fb rb ep on bs y ys p p c hbs hpe _ _ _ h4⟩
    | cons r0 rs =>
      simp only [List.flatten_cons, List.cons_append, List.cons.injEq] at hm
      obtain ⟨rfl, rfl⟩ := hm
      obtain ⟨g1, g2, g3, g4, g5⟩ := hg r0 List.mem_cons_self
      have hd2 : bs.drop p = leN ((lfN (encF r0.fds).length : Nat) : Int) 8 ++ (encF r0.fds ++ (List.replicate (padn (encF r0.fds).length) 0 ++ frames rs)) := by
        rw [hd, frames_cons]; unfold RF.frame; simp
      have hlen := congrArg List.length hd
      rw [List.length_drop, frames_cons, List.length_append, RF.frame_len] at hlen
      refine ⟨0, p + (8 + (encF r0.fds).length + padn (encF r0.fds).length), rs :: rss', ⟨rs, rss', rfl, by dsimp only; omega, hbs, ?_, fun x hx => hg x (List.mem_cons_of_mem _ hx), hl⟩, by simp, by simp, ?_⟩
      · show bs.drop _ = _
        rw [← List.drop_drop, hd, frames_cons, ← RF.frame_len, List.drop_left]
      · exact dr_rec db fb rb ep on bs fs p c hbs r0.fds r0.tx r0.cx r0.d (frames rs) g1 g2 g3 g4 hd2 hc g5
def lastLen : List Fil → Nat
  | [] => 0
  | [x] => x.2.length
  | _ :: y :: ys => lastLen (y :: ys)
theorem dec_fin (db rb : Nat) (ep : Addr) (on : Bool) (c : Int) : ∀ (fs : List Fil) (p : Nat) (rss : List (List RF)), Lay fs p rss → fs ≠ [] → rss.flatten = [] →
      Does Tryd.prog 75 [.pointer (some ⟨db, 0, none⟩), .pointer (some ⟨rb, 0, none⟩)] [Dec db on fs p p c, Rec rb none none [], Cel 0 0 (.iface 123 (.pointer (some ep)))] (fun v L => v = .iface 123 (.pointer (some ep)) ∧ L = [Dec db on [] 0 (lastLen fs) c, Rec rb none none [], Cel 0 0 (.iface 123 (.pointer (some ep)))])
  | [], _, _, _, h, _ => absurd rfl h
  | (fb, bs) :: fs, p, rss, h, _, hm => by
    obtain ⟨rs, rss', rfl, hp, hbs, hd, hg, hl⟩ := h
    dsimp only at hp hbs hd
    have hrs : rs = [] ∧ rss'.flatten = [] := by simpa using hm
    obtain ⟨rfl, hm'⟩ := hrs
    have hpe : p = bs.length := by
      have := congrArg List.length hd
      simp [frames] at this
      omega
    cases fs with
    | nil =>
      have := dr_end db fb rb ep on bs p p c hbs hpe
      rw [hpe] at this ⊢
      exact this
    | cons y ys => exact dr_next db fb rb ep on bs y ys p p c hbs hpe _ _ _ (dec_fin db rb ep on c (y :: ys) 0 rss' hl (by simp) hm')
theorem lastLen_drop : ∀ (fs : List Fil) (k : Nat), k < fs.length → lastLen (fs.drop k) = lastLen fs
  | [], k, h => by simp at h
  | [x], k, h => by
    have : k = 0 := by simp at h; omega
    subst this; rfl
  | x :: y :: ys, 0, h => rfl
  | x :: y :: ys, k + 1, h => by
    have := lastLen_drop (y :: ys) k (by simp at h ⊢; omega)
    simpa [lastLen] using this
/-- the sums go on -/
def Chain : Int → List RF → Prop
  | _, [] => True
  | c, r :: rs => (r.tx ≠ 4 → r.cx = crcWrite c r.d) ∧ Chain r.cx rs
def lastC : Int → List RF → Int
  | c, [] => c
  | _, r :: rs => lastC r.cx rs
/-- a record that was read -/
def Out1 (x : WR) (r : RF) : Prop := x.ty = r.tx ∧ x.ht = true ∧ x.c = r.cx ∧ x.hc = true ∧ x.d = r.d
def Outs : List WR → List RF → Prop
  | [], [] => True
  | x :: xs, r :: rs => Out1 x r ∧ Outs xs rs
  | _, _ => False
theorem outs_snoc : ∀ {xs : List WR} {rs : List RF} {x : WR} {r : RF}, Outs xs rs → Out1 x r → Outs (xs ++ [x]) (rs ++ [r])
  | [], [], _, _, _, h => ⟨h, True.intro⟩
  | [], _ :: _, _, _, h, _ => h.elim
  | _ :: _, [], _, _, h, _ => h.elim
  | _ :: _, _ :: _, _, _, h, h2 => ⟨h.1, outs_snoc h.2 h2⟩
theorem outs_len : ∀ {xs : List WR} {rs : List RF}, Outs xs rs → xs.length = rs.length
  | [], [], _ => rfl
  | [], _ :: _, h => h.elim
  | _ :: _, [], h => h.elim
  | _ :: xs, _ :: rs, h => by have := outs_len h.2; simp [this]
theorem lastC_snoc : ∀ (c : Int) (rs : List RF) (r : RF), lastC c (rs ++ [r]) = r.cx
  | _, [], _ => rfl
  | _, x :: xs, r => lastC_snoc x.cx xs r
theorem lay_one {x : Fil} {p : Nat} {rss : List (List RF)} (h : Lay [x] p rss) : p + (frames rss.flatten).length = x.2.length := by
  obtain ⟨rs, rss', rfl, hp, hbs, hd, hg, hl⟩ := h
  have : rss' = [] := hl
  subst this
  have := congrArg List.length hd
  rw [List.length_drop] at this
  simp
  omega
theorem lay_of : ∀ (fs : List Fil) (rss : List (List RF)), fs.map Prod.snd = rss.map frames → (∀ rs ∈ rss, (frames rs).length ≤ 4294967296 ∧ ∀ r ∈ rs, r.good) → Lay fs 0 rss
  | [], rss, h, _ => by
    have e : rss = [] := by simpa using h.symm
    exact e
  | x :: fs, [], h, _ => by simp at h
  | x :: fs, rs :: rss, h, hg => by
    simp only [List.map_cons, List.cons.injEq] at h
    obtain ⟨h1, h2⟩ := h
    obtain ⟨g1, g2⟩ := hg rs List.mem_cons_self
    exact ⟨rs, rss, rfl, Nat.zero_le _, by rw [h1]; exact g1, by rw [List.drop_zero, h1], g2, lay_of fs rss h2 fun y hy => hg y (List.mem_cons_of_mem _ hy)⟩
def lastF : List (List RF) → Nat
  | [] => 0
  | [x] => (frames x).length
  | _ :: y :: ys => lastF (y :: ys)
theorem lastLen_of : ∀ (fs : List Fil) (rss : List (List RF)), fs.map Prod.snd = rss.map frames → lastLen fs = lastF rss
  | [], [], _ => rfl
  | [], _ :: _, h => by simp at h
  | _ :: _, [], h => by simp at h
  | [x], [rs], h => by simp at h; simp [lastLen, lastF, h]
  | [x], _ :: _ :: _, h => by simp at h
  | _ :: _ :: _, [_], h => by simp at h
  | x :: y :: ys, a :: b :: bs, h => by
    have := lastLen_of (y :: ys) (b :: bs) (by simp at h ⊢; exact h.2)
    simpa [lastLen, lastF] using this
set_option maxRecDepth 100000 in
set_option maxHeartbeats 2000000 in
theorem gty2 (rb tb xb : Nat) (dv : Value) (tx cx : Int) : Does Tryd.prog 22 [.pointer (some ⟨rb, 0, none⟩)] [Blk rb [.pointer (some ⟨tb, 0, none⟩), .pointer (some ⟨xb, 0, none⟩), dv] 59, Blk tb [.int .i64 (tx)] 2, Blk xb [.int .u32 (cx)] 22] (fun v L => v = .int .i64 tx ∧ L = [Blk rb [.pointer (some ⟨tb, 0, none⟩), .pointer (some ⟨xb, 0, none⟩), dv] 59, Blk tb [.int .i64 (tx)] 2, Blk xb [.int .u32 (cx)] 22]) := by
  refine Does.enter 14 Tryd.func22 rfl rfl rfl fun W F => ?_
  show WPc _ _ _ _ _ [(0, .pointer (some ⟨rb, 0, none⟩))] (Blk rb [.pointer (some ⟨tb, 0, none⟩), .pointer (some ⟨xb, 0, none⟩), dv] 59 :: Blk tb [.int .i64 (tx)] 2 :: Blk xb [.int .u32 (cx)] 22 :: F)
  refine WPc.seq ?_
  refine WPc.region ?_
  refine WP.val rfl rfl rfl (Val.assign rfl rfl) ?_
  refine WP.nil ?_
  refine Out.next ?_
  refine WPc.seq ?_
  refine WPc.seq ?_
  refine WPc.region ?_
  refine WP.val rfl rfl rfl (Val.move rfl rfl) ?_
  refine WP.val rfl rfl rfl (Val.nilCheck rfl rfl) ?_
  refine WP.val rfl rfl rfl (Val.fieldAddr (j := 0) rfl Ty.fo59_0 rfl rfl) ?_
  refine WP.val rfl rfl rfl (Val.load rfl Ty.sc56 rfl (fun w h => h.cell 0 rfl rfl)) ?_
  refine WP.val rfl rfl rfl (Val.nilP rfl Ty.ip56 rfl rfl) ?_
  refine WP.nil ?_
  refine Out.next ?_
  refine WPc.condF rfl rfl ?_
  refine WPc.skip ?_
  refine Out.next ?_
  refine WPc.seq ?_
  refine WPc.region ?_
  refine WP.val rfl rfl rfl (Val.move rfl rfl) ?_
  refine WP.val rfl rfl rfl (Val.nilCheck rfl rfl) ?_
  refine WP.val rfl rfl rfl (Val.fieldAddr (j := 0) rfl Ty.fo59_0 rfl rfl) ?_
  refine WP.val rfl rfl rfl (Val.load rfl Ty.sc56 rfl (fun w h => h.cell 0 rfl rfl)) ?_
  refine WP.val rfl rfl rfl (Val.nilCheck rfl rfl) ?_
  refine WP.val rfl rfl rfl (Val.load rfl Ty.sc2 rfl (fun w h => h.cell 1 rfl rfl)) ?_
  refine WP.val rfl rfl rfl (Val.assign rfl rfl) ?_
  refine WP.nil ?_
  refine Out.next ?_
  refine WPc.ret ?_
  exact Out.ret1 (L' := _) Tryd.results22 rfl ⟨rfl, rfl⟩ (fun _ h => h)
set_option maxRecDepth 100000 in
set_option maxHeartbeats 2000000 in
theorem gcr2 (rb tb xb : Nat) (dv : Value) (tx cx : Int) : Does Tryd.prog 23 [.pointer (some ⟨rb, 0, none⟩)] [Blk rb [.pointer (some ⟨tb, 0, none⟩), .pointer (some ⟨xb, 0, none⟩), dv] 59, Blk tb [.int .i64 (tx)] 2, Blk xb [.int .u32 (cx)] 22] (fun v L => v = .int .u32 cx ∧ L = [Blk rb [.pointer (some ⟨tb, 0, none⟩), .pointer (some ⟨xb, 0, none⟩), dv] 59, Blk tb [.int .i64 (tx)] 2, Blk xb [.int .u32 (cx)] 22]) := by
  refine Does.enter 14 Tryd.func23 rfl rfl rfl fun W F => ?_
  show WPc _ _ _ _ _ [(0, .pointer (some ⟨rb, 0, none⟩))] (Blk rb [.pointer (some ⟨tb, 0, none⟩), .pointer (some ⟨xb, 0, none⟩), dv] 59 :: Blk tb [.int .i64 (tx)] 2 :: Blk xb [.int .u32 (cx)] 22 :: F)
  refine WPc.seq ?_
  refine WPc.region ?_
  refine WP.val rfl rfl rfl (Val.assign rfl rfl) ?_
  refine WP.nil ?_
  refine Out.next ?_
  refine WPc.seq ?_
  refine WPc.seq ?_
  refine WPc.region ?_
  refine WP.val rfl rfl rfl (Val.move rfl rfl) ?_
  refine WP.val rfl rfl rfl (Val.nilCheck rfl rfl) ?_
  refine WP.val rfl rfl rfl (Val.fieldAddr (j := 1) rfl Ty.fo59_1 rfl rfl) ?_
  refine WP.val rfl rfl rfl (Val.load rfl Ty.sc57 rfl (fun w h => h.cell 0 rfl rfl)) ?_
  refine WP.val rfl rfl rfl (Val.nilP rfl Ty.ip57 rfl rfl) ?_
  refine WP.nil ?_
  refine Out.next ?_
  refine WPc.condF rfl rfl ?_
  refine WPc.skip ?_
  refine Out.next ?_
  refine WPc.seq ?_
  refine WPc.region ?_
  refine WP.val rfl rfl rfl (Val.move rfl rfl) ?_
  refine WP.val rfl rfl rfl (Val.nilCheck rfl rfl) ?_
  refine WP.val rfl rfl rfl (Val.fieldAddr (j := 1) rfl Ty.fo59_1 rfl rfl) ?_
  refine WP.val rfl rfl rfl (Val.load rfl Ty.sc57 rfl (fun w h => h.cell 0 rfl rfl)) ?_
  refine WP.val rfl rfl rfl (Val.nilCheck rfl rfl) ?_
  refine WP.val rfl rfl rfl (Val.load rfl Ty.sc22 rfl (fun w h => h.cell 2 rfl rfl)) ?_
  refine WP.val rfl rfl rfl (Val.assign rfl rfl) ?_
  refine WP.nil ?_
  refine Out.next ?_
  refine WPc.ret ?_
  exact Out.ret1 (L' := _) Tryd.results23 rfl ⟨rfl, rfl⟩ (fun _ h => h)
set_option maxRecDepth 100000 in
set_option maxHeartbeats 2000000 in
theorem recout_spec (rb tb xb : Nat) (dv : Value) (tx cx : Int) (d : List UInt8) : Does Tryd.prog 21 [.pointer (some ⟨rb, 0, none⟩)] [Blk rb [.pointer (some ⟨tb, 0, none⟩), .pointer (some ⟨xb, 0, none⟩), dv] 59, Blk tb [.int .i64 (tx)] 2, Blk xb [.int .u32 (cx)] 22, Byts dv d] (fun v L => ∃ hb : Bool, v = .agg (WR.cells ⟨tx, true, cx, true, d, hb⟩).toArray ∧ L = [Blk rb [.pointer (some ⟨tb, 0, none⟩), .pointer (some ⟨xb, 0, none⟩), dv] 59, Blk tb [.int .i64 (tx)] 2, Blk xb [.int .u32 (cx)] 22, Byts dv d]) := by
  refine Does.enter 28 Tryd.func21 rfl rfl rfl fun W F => ?_
  show WPc _ _ _ _ _ [(0, .pointer (some ⟨rb, 0, none⟩))] (Blk rb [.pointer (some ⟨tb, 0, none⟩), .pointer (some ⟨xb, 0, none⟩), dv] 59 :: Blk tb [.int .i64 (tx)] 2 :: Blk xb [.int .u32 (cx)] 22 :: Byts dv d :: F)
  refine WPc.seq ?_
  refine WPc.perm pl3 ?_
  refine WPc.fact (fun w h => byts_slice h) (fun hsl => ?_)
  obtain ⟨a, m, k, rfl⟩ := hsl
  show WPc _ _ _ _ _ _ (Byts (.slice a m k) d :: Blk rb [.pointer (some ⟨tb, 0, none⟩), .pointer (some ⟨xb, 0, none⟩), .slice a m k] 59 :: Blk tb [.int .i64 (tx)] 2 :: Blk xb [.int .u32 (cx)] 22 :: F)
  refine WPc.region ?_
  refine WP.eff rfl rfl rfl (Eff.alloc rfl Ty.z44) ?_
  rintro _ _ ⟨b1, rfl, rfl⟩
  refine WP.nil ?_
  refine Out.next ?_
  refine WPc.seq ?_
  refine WPD.start (Sat W [Blk rb [.pointer (some ⟨tb, 0, none⟩), .pointer (some ⟨xb, 0, none⟩), .slice a m k] 59, Byts (.slice a m k) d]) Ty.mixed ?_
  refine WPD.takeM 0 rfl rfl rfl rfl (by kernel_rfl) (by kernel_rfl) (by kernel_rfl) (by kernel_rfl) (fun _ _ _ h => h) (fun w h => (((h.perm pl1).perm pl2)).dropEnd (L := [_, _])) (Val.move rfl rfl) ?_
  refine WPD.takeM 2 rfl rfl rfl rfl (by kernel_rfl) (by kernel_rfl) (by kernel_rfl) (by kernel_rfl) (fun _ _ _ h => h) (fun w h => (((h.perm pl1).perm pl2)).dropEnd (L := [_, _])) (Val.move rfl rfl) ?_
  refine WPD.takeM 3 rfl rfl rfl rfl (by kernel_rfl) (by kernel_rfl) (by kernel_rfl) (by kernel_rfl) (fun _ _ _ h => h) (fun w h => (((h.perm pl1).perm pl2)).dropEnd (L := [_, _])) (Val.nilCheck rfl rfl) ?_
  refine WPD.takeM 4 rfl rfl rfl rfl (by kernel_rfl) (by kernel_rfl) (by kernel_rfl) (by kernel_rfl) (fun _ _ _ h => h) (fun w h => (((h.perm pl1).perm pl2)).dropEnd (L := [_, _])) (Val.fieldAddr (j := 0) rfl Ty.fo59_0 rfl rfl) ?_
  refine WPD.take 5 rfl rfl rfl rfl (by kernel_rfl) (by kernel_rfl) (by kernel_rfl) (by kernel_rfl) (fun _ _ _ h => h) (by kernel_rfl) (fun w h => (((h.perm pl1).perm pl2)).dropEnd (L := [_, _])) (Val.load rfl Ty.sc56 rfl (fun w h => h.cell 0 rfl rfl)) ?_
  refine WPD.takeM 6 rfl rfl rfl rfl (by kernel_rfl) (by kernel_rfl) (by kernel_rfl) (by kernel_rfl) (fun _ _ _ h => h) (fun w h => (((h.perm pl1).perm pl2)).dropEnd (L := [_, _])) (Val.nilPn rfl Ty.ip56 rfl rfl) ?_
  refine WPD.takeM 7 rfl rfl rfl rfl (by kernel_rfl) (by kernel_rfl) (by kernel_rfl) (by kernel_rfl) (fun _ _ _ h => h) (fun w h => (((h.perm pl1).perm pl2)).dropEnd (L := [_, _])) (Val.move rfl rfl) ?_
  refine WPD.takeM 9 rfl rfl rfl rfl (by kernel_rfl) (by kernel_rfl) (by kernel_rfl) (by kernel_rfl) (fun _ _ _ h => h) (fun w h => (((h.perm pl1).perm pl2)).dropEnd (L := [_, _])) (Val.move rfl rfl) ?_
  refine WPD.takeM 10 rfl rfl rfl rfl (by kernel_rfl) (by kernel_rfl) (by kernel_rfl) (by kernel_rfl) (fun _ _ _ h => h) (fun w h => (((h.perm pl1).perm pl2)).dropEnd (L := [_, _])) (Val.nilCheck rfl rfl) ?_
  refine WPD.takeM 11 rfl rfl rfl rfl (by kernel_rfl) (by kernel_rfl) (by kernel_rfl) (by kernel_rfl) (fun _ _ _ h => h) (fun w h => (((h.perm pl1).perm pl2)).dropEnd (L := [_, _])) (Val.fieldAddr (j := 1) rfl Ty.fo59_1 rfl rfl) ?_
  refine WPD.take 12 rfl rfl rfl rfl (by kernel_rfl) (by kernel_rfl) (by kernel_rfl) (by kernel_rfl) (fun _ _ _ h => h) (by kernel_rfl) (fun w h => (((h.perm pl1).perm pl2)).dropEnd (L := [_, _])) (Val.load rfl Ty.sc57 rfl (fun w h => h.cell 0 rfl rfl)) ?_
  refine WPD.takeM 13 rfl rfl rfl rfl (by kernel_rfl) (by kernel_rfl) (by kernel_rfl) (by kernel_rfl) (fun _ _ _ h => h) (fun w h => (((h.perm pl1).perm pl2)).dropEnd (L := [_, _])) (Val.nilPn rfl Ty.ip57 rfl rfl) ?_
  refine WPD.takeM 14 rfl rfl rfl rfl (by kernel_rfl) (by kernel_rfl) (by kernel_rfl) (by kernel_rfl) (fun _ _ _ h => h) (fun w h => (((h.perm pl1).perm pl2)).dropEnd (L := [_, _])) (Val.move rfl rfl) ?_
  refine WPD.takeM 15 rfl rfl rfl rfl (by kernel_rfl) (by kernel_rfl) (by kernel_rfl) (by kernel_rfl) (fun _ _ _ h => h) (fun w h => (((h.perm pl1).perm pl2)).dropEnd (L := [_, _])) (Val.nilCheck rfl rfl) ?_
  refine WPD.takeM 16 rfl rfl rfl rfl (by kernel_rfl) (by kernel_rfl) (by kernel_rfl) (by kernel_rfl) (fun _ _ _ h => h) (fun w h => (((h.perm pl1).perm pl2)).dropEnd (L := [_, _])) (Val.fieldAddr (j := 2) rfl Ty.fo59_2 rfl rfl) ?_
  refine WPD.take 17 rfl rfl rfl rfl (by kernel_rfl) (by kernel_rfl) (by kernel_rfl) (by kernel_rfl) (fun _ _ _ h => h) (by kernel_rfl) (fun w h => (((h.perm pl1).perm pl2)).dropEnd (L := [_, _])) (Val.load rfl Ty.sc40 rfl (fun w h => h.cell 0 rfl rfl)) ?_
  refine WPD.take 18 rfl rfl rfl rfl (by kernel_rfl) (by kernel_rfl) (by kernel_rfl) (by kernel_rfl) (fun _ _ _ h => h) (by kernel_rfl) (fun w h => (((h.perm pl1).perm pl2)).dropEnd (L := [_, _])) (show Val _ _ _ _ _ (.string (str d)) from Val.str rfl Ty.by40 Ty.st9 rfl (fun w h => h.at 1 rfl)) ?_
  refine WPD.takeM 19 rfl rfl rfl rfl (by kernel_rfl) (by kernel_rfl) (by kernel_rfl) (by kernel_rfl) (fun _ _ _ h => h) (fun w h => (((h.perm pl1).perm pl2)).dropEnd (L := [_, _])) (Val.move rfl rfl) ?_
  refine WPD.takeM 20 rfl rfl rfl rfl (by kernel_rfl) (by kernel_rfl) (by kernel_rfl) (by kernel_rfl) (fun _ _ _ h => h) (fun w h => (((h.perm pl1).perm pl2)).dropEnd (L := [_, _])) (Val.nilCheck rfl rfl) ?_
  refine WPD.takeM 21 rfl rfl rfl rfl (by kernel_rfl) (by kernel_rfl) (by kernel_rfl) (by kernel_rfl) (fun _ _ _ h => h) (fun w h => (((h.perm pl1).perm pl2)).dropEnd (L := [_, _])) (Val.fieldAddr (j := 2) rfl Ty.fo59_2 rfl rfl) ?_
  refine WPD.take 22 rfl rfl rfl rfl (by kernel_rfl) (by kernel_rfl) (by kernel_rfl) (by kernel_rfl) (fun _ _ _ h => h) (by kernel_rfl) (fun w h => (((h.perm pl1).perm pl2)).dropEnd (L := [_, _])) (Val.load rfl Ty.sc40 rfl (fun w h => h.cell 0 rfl rfl)) ?_
  refine WPD.takeM 23 rfl rfl rfl rfl (by kernel_rfl) (by kernel_rfl) (by kernel_rfl) (by kernel_rfl) (fun _ _ _ h => h) (fun w h => (((h.perm pl1).perm pl2)).dropEnd (L := [_, _])) (Val.nilSn rfl Ty.is40 rfl rfl) ?_
  refine WPD.perm pl4 ?_
  refine WPD.perm pl4 ?_
  refine WPD.perm pl4 ?_
  refine WPD.step 1 (by kernel_rfl) rfl rfl rfl rfl (Eff.call rfl rfl Tryd.call22 (gty2 rb tb xb (.slice a m k) tx cx)) ?_
  rintro _ _ ⟨_, ⟨rfl, rfl⟩, rfl⟩
  refine ⟨(fun w h => (((h.perm pl4).perm pl1)).dropEnd (L := [_, _])), ?_⟩
  show WPD _ _ _ _ _ _ _ _ _ (Blk rb [.pointer (some ⟨tb, 0, none⟩), .pointer (some ⟨xb, 0, none⟩), .slice a m k] 59 :: Blk tb [.int .i64 (tx)] 2 :: Blk xb [.int .u32 (cx)] 22 :: Blk b1 [.int .i64 0, .bool false, .int .u32 0, .bool false, .string (⟨#[]⟩), .bool false] 44 :: Byts (.slice a m k) d :: F)
  refine WPD.perm pl2 ?_
  refine WPD.perm pl2 ?_
  refine WPD.perm pl2 ?_
  refine WPD.step 8 (by kernel_rfl) rfl rfl rfl rfl (Eff.call rfl rfl Tryd.call23 (gcr2 rb tb xb (.slice a m k) tx cx)) ?_
  rintro _ _ ⟨_, ⟨rfl, rfl⟩, rfl⟩
  refine ⟨(fun w h => (((h.perm pl4).perm pl1)).dropEnd (L := [_, _])), ?_⟩
  show WPD _ _ _ _ _ _ _ _ _ (Blk rb [.pointer (some ⟨tb, 0, none⟩), .pointer (some ⟨xb, 0, none⟩), .slice a m k] 59 :: Blk tb [.int .i64 (tx)] 2 :: Blk xb [.int .u32 (cx)] 22 :: Blk b1 [.int .i64 0, .bool false, .int .u32 0, .bool false, .string (⟨#[]⟩), .bool false] 44 :: Byts (.slice a m k) d :: F)
  refine WPD.takeM 24 rfl rfl rfl rfl (by kernel_rfl) (by kernel_rfl) (by kernel_rfl) (by kernel_rfl) (fun _ _ _ h => h) (fun w h => (((h.perm pl4).perm pl1)).dropEnd (L := [_, _])) (Val.mk (cs := [.int .i64 (tx), .bool true, .int .u32 (cx), .bool true, .string (str d), .bool (a.isSome)]) rfl rfl (fun _ => by kernel_rfl)) ?_
  refine WPD.perm pl3 ?_
  refine WPD.stepC0 25 (by kernel_rfl) rfl rfl rfl (by kernel_rfl) (Eff.storeAgg (cs := [.int .i64 (tx), .bool true, .int .u32 (cx), .bool true, .string (str d), .bool (a.isSome)]) (C' := [.int .i64 (tx), .bool true, .int .u32 (cx), .bool true, .string (str d), .bool (a.isSome)]) rfl Ty.ag44 rfl rfl rfl rfl (by simp) rfl) ?_
  rintro _ _ rfl
  refine ⟨(Sat W (Blk b1 [.int .i64 (tx), .bool true, .int .u32 (cx), .bool true, .string (str d), .bool (a.isSome)] 44 :: Blk rb [.pointer (some ⟨tb, 0, none⟩), .pointer (some ⟨xb, 0, none⟩), .slice a m k] 59 :: Blk tb [.int .i64 (tx)] 2 :: Blk xb [.int .u32 (cx)] 22 :: Byts (.slice a m k) d :: F)), (fun _ h => h), ?_⟩
  refine WPD.done (by kernel_rfl) ?_
  refine Out.next ?_
  refine WPc.ret ?_
  exact Out.retRun (L' := _) (results_cell (cs := [.int .i64 (tx), .bool true, .int .u32 (cx), .bool true, .string (str d), .bool (a.isSome)]) Tryd.results21 Ty.ag44 rfl rfl (fun w h => h.range 0 rfl rfl)) ⟨_, rfl, rfl⟩ (fun w h => h.drop)
set_option maxRecDepth 100000 in
set_option maxHeartbeats 2000000 in
theorem walend_spec (ep : Addr) : Does Tryd.prog 20 [.iface 123 (.pointer (some ep))] [Cel 0 0 (.iface 123 (.pointer (some ep)))] (fun v L => v = .int .i64 1 ∧ L = [Cel 0 0 (.iface 123 (.pointer (some ep)))]) := by
  refine Does.enter 13 Tryd.func20 rfl rfl rfl fun W F => ?_
  show WPc _ _ _ _ _ [(0, .iface 123 (.pointer (some ep)))] (Cel 0 0 (.iface 123 (.pointer (some ep))) :: F)
  refine WPc.seq ?_
  refine WPc.region ?_
  refine WP.val rfl rfl rfl (Val.assign rfl rfl) ?_
  refine WP.nil ?_
  refine Out.next ?_
  refine WPc.seq ?_
  refine WPc.seq ?_
  refine WPc.region ?_
  refine WP.val rfl rfl rfl (Val.move rfl rfl) ?_
  refine WP.nil ?_
  refine Out.next ?_
  refine WPc.block ?_
  refine WPc.seq ?_
  refine WPc.region ?_
  refine WP.val rfl rfl rfl (Val.load (v := .iface 123 (.pointer (some ep))) rfl Ty.sc61 rfl (fun w h => (h.at 0 rfl).cel)) ?_
  refine WP.val rfl rfl rfl (Val.eqIface rfl Ty.if61 pc123 rfl rfl) ?_
  refine WP.val rfl rfl rfl (Val.assign rfl rfl) ?_
  refine WP.nil ?_
  refine Out.next ?_
  refine WPc.condT rfl rfl ?_
  refine WPc.seq ?_
  refine WPc.region ?_
  refine WP.val rfl rfl rfl (Val.assign rfl rfl) ?_
  refine WP.nil ?_
  refine Out.next ?_
  refine WPc.ret ?_
  refine Out.block_ret ?_
  refine Out.then_ret ?_
  exact Out.ret1 (L' := _) Tryd.results20 rfl ⟨rfl, rfl⟩ (fun _ h => h)

end Go.Proofs.YthicijpjpijdjaaDoor.Wp
