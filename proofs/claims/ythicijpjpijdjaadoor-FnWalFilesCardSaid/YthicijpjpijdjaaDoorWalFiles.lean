/-
  FnWalFiles is true for every input that its row lets in (io.EOF and io.ErrUnexpectedEOF as the program lays them).
-/
import Derived.Test.YthicijpjpijdjaaDoorRows
import Derived.Test.YthicijpjpijdjaaDoorCards
import Derived.Test.YthicijpjpijdjaaDoorTie
import Derived.Test.YthicijpjpijdjaaDoorWA
import Derived.WalkKit
import Derived.ProofKit
import Derived.OpenShut
import Derived.ShutString
import Derived.ChangeOld
import Derived.Below
import Derived.LaidMore
import Derived.LaidLaws
import Derived.Stop.Joined
import Derived.SevenTiedAt
namespace Go.Proofs.YthicijpjpijdjaaDoor.FnWalFilesRow
open Go.ChangeShapes Go.WideShapes Go.ChangeAt Go.RowKit
open Go.ChangeMaps (open_string shut_string)
set_option linter.unusedVariables false

theorem c2 : Tryd.prog.cellsOf 2 = 1 := by kernel_rfl
theorem c44 : Tryd.prog.cellsOf 44 = 6 := by kernel_rfl
theorem open_wr {w : World} {ds : List Value} (h : SlRead.Reads Tryd.prog w 44 ds) : ∃ x : Wc.WR, ds = x.cells ∧ Wv.WfR x := by
  obtain ⟨h1, h2⟩ := h.fields Tryd.underlying44 (by kernel_rfl) (by kernel_rfl)
  match ds, h1 with
  | [d0, d1, d2, d3, d4, d5], _ =>
    obtain ⟨ty, e0, w0⟩ := (h2 0 _ rfl d0 rfl).int Tryd.underlying2
    obtain ⟨ht, e1⟩ := (h2 1 _ rfl d1 rfl).bool Tryd.underlying4
    obtain ⟨c, e2, w2⟩ := (h2 2 _ rfl d2 rfl).int Tryd.underlying22
    obtain ⟨hc, e3⟩ := (h2 3 _ rfl d3 rfl).bool Tryd.underlying4
    obtain ⟨s, e4, w4⟩ := (h2 4 _ rfl d4 rfl).string Tryd.underlying9
    obtain ⟨has, e5⟩ := (h2 5 _ rfl d5 rfl).bool Tryd.underlying4
    simp only [List.cons.injEq, and_true] at e0 e1 e2 e3 e4 e5
    subst e0 e1 e2 e3 e4 e5
    refine ⟨⟨ty, ht, c, hc, s.data.toList, has⟩, ?_, ?_, ?_⟩
    · unfold Wc.WR.cells; rw [Wc.str_list]
    · simpa [Lit.wf, IntKind.min, IntKind.max, IntKind.signed, IntKind.bits] using w0
    · have h3 : 0 ≤ c ∧ c ≤ 4294967295 := by simpa [Lit.wf, IntKind.min, IntKind.max, IntKind.signed, IntKind.bits] using w2
      exact ⟨h3.1, by show c < 4294967296; omega⟩
theorem open_wrs {w : World} {a : Option Addr} {n c : Nat} (R : SlRead.Reads Tryd.prog w 23 [.slice a n c]) : ∃ l : List Wc.WR, l.length = n ∧ n ≤ 9223372036854775807 ∧ Sl.Rd (Sl.Old w) 6 Wc.WR.cells (.slice a n c) l ∧ ∀ x ∈ l, Wv.WfR x := by
  obtain ⟨a', n', c', l, e, hnc, hc, -, hl, hk, hp⟩ := R.rows (k := 6) Wc.WR.cells Wv.WfR Tryd.underlying23 c44 (by omega) (fun ds h => open_wr h)
  simp only [List.cons.injEq, Value.slice.injEq, and_true] at e
  obtain ⟨rfl, rfl, rfl⟩ := e
  subst hl
  exact ⟨l, rfl, by unfold maxLen at hc; omega, Sl.rd_old hk, hp⟩
theorem eof_cel {w : World} {v : Value} (h : w.cell? ⟨0, 0, none⟩ = some v) {L : List Sl.HProp} {w' : World} (hs : Sl.Sat w (Sl.Old w :: L) w') : Sl.Sat w (Sl.Cel 0 0 v :: Sl.Old w :: L) w' := by
  obtain ⟨r, s, hd, hlt, s1, s2, q1, q2, q3, hA, hL⟩ := hs.mem
  have hb : 0 < w.heap.size := World.block_lt_of_cell? w _ h
  refine ⟨hs.os, hs.tape, hs.output, r, s, hd, hlt, fun _ => False, s, fun _ h => h.elim, fun _ h => h, fun _ h => h.elim, ?_, s1, s2, q1, q2, q3, hA, hL⟩
  obtain ⟨h1, h2⟩ := hA 0 hb
  refine ⟨h1, ?_⟩
  unfold World.cell? at h
  split at h
  · rename_i C T fr hC
    exact ⟨C, T, fr, h2.trans hC, by simpa using h⟩
  · cases h
theorem gEof : Tryd.prog.globalNamed "io.EOF" = some 0 := by kernel_rfl
theorem tEof : (Tryd.prog.globals[0]?).map (·.type) = some 61 := by kernel_rfl
theorem star : "*" ++ "errors.errorString" = "*errors.errorString" := by decide
theorem row123 (u : TypeId) (h : Tryd.prog.typeName? 3 u = some "*errors.errorString") : u = 123 :=
  typeName_ptr_named (nm := "errors.errorString") (by rw [star]; kernel_rfl) (by kernel_rfl) (by decide) u (by rw [star]; exact h)
set_option maxRecDepth 100000 in
/-- what the variable's reading tells of its cell -/
theorem of_laid {W : World} (h : laidMetH Tryd.prog [("io.EOF", Rows.laid_io_EOF), ("io.ErrUnexpectedEOF", Rows.laid_io_ErrUnexpectedEOF)] W) : ∃ ep : Addr, W.cell? ⟨0, 0, none⟩ = some (.iface 123 (.pointer (some ep))) := by
  rw [MakeChecks.laidMetH_plain _ _ _ (by kernel_rfl)] at h
  obtain ⟨ps, ⟨g0, t0, cs0, f0, p0, q0, hg0, ht0, hv0, hd0, hr0, hps⟩, hnd, hokw⟩ := h
  obtain rfl := Option.some.inj (gEof.symm.trans hg0)
  obtain rfl := Option.some.inj (tEof.symm.trans ht0)
  have hcell := World.var?_cell gEof hv0 0
  obtain ⟨cs0⟩ := cs0
  have hform : ∀ u v, cs0 = [.iface u v] → Value.okWide Tryd.prog W .any 0 u v := by
    intro u v hc
    subst hc
    refine (hokw 0 0 ?_).2 u v (by rw [hcell]; rfl)
    rw [hps]
    exact List.mem_append_left _ (List.mem_append_left _ (by simp [MemPlace.row]))
  clear hr0 hps hnd hokw hv0
  cases f0 with
  | zero => simp [DataW.trod] at hd0
  | succ f =>
    unfold DataW.trod at hd0
    rw [Tryd.underlying61] at hd0
    match cs0, hd0, hcell, hform with
    | [.nilIface], hd0, _, _ => simp [Rows.laid_io_EOF] at hd0
    | [.iface u v], hd0, hcell, hform =>
      cases hn : Tryd.prog.typeName? 3 u with
      | none => simp [hn] at hd0
      | some nm =>
        simp only [hn] at hd0
        cases ht : DataW.trod (fun _ => ()) Tryd.prog W 0 (fun _ => true) false f u v.cells.toList with
        | none => simp [ht] at hd0
        | some z =>
          simp only [ht, Option.map_some, Rows.laid_io_EOF, Option.some.injEq, Prod.mk.injEq, DataW.iface.injEq] at hd0
          obtain ⟨⟨rfl, hz⟩, -⟩ := hd0
          obtain rfl := row123 u hn
          rcases DataW.trod_pointer Tryd.underlying123 ht with ⟨-, hz2⟩ | ⟨a, cs', y, n, -, hcs, hz2, -⟩
          · rw [hz2] at hz; cases hz
          · refine ⟨a, ?_⟩
            obtain ⟨a0, rfl⟩ := okWide_pointer Tryd.underlying123 (hform _ _ rfl)
            have hv : Value.pointer a0 = .pointer (some a) := by simpa [Value.cells] using hcs
            rw [hcell, hv]; rfl
theorem c3 : Tryd.prog.cellsOf 3 = 1 := by kernel_rfl
theorem open_ends {w : World} {a : Option Addr} {n c : Nat} (R : SlRead.Reads Tryd.prog w 36 [.slice a n c]) : ∃ l : List Int, l.length = n ∧ n ≤ 9223372036854775807 ∧ Sl.Rd (Sl.Old w) 1 Wz.icell (.slice a n c) l := by
  obtain ⟨a', n', c', l, e, hnc, hc, -, hl, hk, hp⟩ := R.rows (k := 1) Wz.icell (fun _ => True) Tryd.underlying36 c3 (by omega) (fun ds h => by
    obtain ⟨x, hx, -⟩ := h.int Tryd.underlying3
    exact ⟨x, hx, trivial⟩)
  simp only [List.cons.injEq, Value.slice.injEq, and_true] at e
  obtain ⟨rfl, rfl, rfl⟩ := e
  subst hl
  exact ⟨l, rfl, by unfold maxLen at hc; omega, Sl.rd_old hk⟩
theorem walk (w : World) (p : Int) (_ : (Lit.int .u32 p).wf = true) (a1 : Option Addr) (n1 c1 : Nat) (R1 : SlRead.Reads Tryd.prog w 23 [.slice a1 n1 c1]) (a2 : Option Addr) (n2 c2 : Nat) (R2 : SlRead.Reads Tryd.prog w 36 [.slice a2 n2 c2]) (ep : Addr) (hep : w.cell? ⟨0, 0, none⟩ = some (.iface 123 (.pointer (some ep)))) :
    Calls Tryd.prog 4 #[.int .u32 p, .slice a1 n1 c1, .slice a2 n2 c2] w fun e w' => e = .returned (.bool true) ∧ Below w.heap.size w w' := by
  obtain ⟨l, rfl, b, h, hw⟩ := open_wrs R1
  obtain ⟨le, rfl, b2, h2⟩ := open_ends R2
  refine (WA.files_spec (Sl.Old w) ep p l _ h b hw le b2 _ h2 w [] w ((eof_cel hep (Sl.Sat.start w)).perm (List.Perm.swap _ _ _))).mono ?_
  rintro e w' ⟨v, L, rfl, ⟨rfl, rfl⟩, hs⟩
  exact ⟨rfl, hs.below⟩

theorem own : ownKnob Tryd.prog.godebug = none := by kernel_rfl
theorem laidOut : laidOutB Tryd.prog = true := by kernel_rfl

abbrev LAID {H : Type} : List (String × DataW H) := [("io.EOF", Rows.laid_io_EOF), ("io.ErrUnexpectedEOF", Rows.laid_io_ErrUnexpectedEOF)]
/-- the door's own heap meets the condition -/
theorem door_met (os : Os) (args : Array Value) : laidMetH Tryd.prog LAID ((World.doorLaid Tryd.prog 400 os).forCall (fun _ _ => 0) ⟨#[], args, []⟩).memory :=
  laidMetH_of_parts3 (fuel := 8) (laidMet_of_run' 8 (by kernel_rfl) (by kernel_rfl)) (by kernel_rfl) (by kernel_rfl)
set_option maxRecDepth 100000 in
theorem lifted (os : Os) (started : os.Started) (H : Type) (enc : TypeId × Value → H) :
    ReturnsInHanded {} Tryd.checked os 4 .any (fun w args => (Rows.fnWalFilesSpec.pre enc Tryd.prog Tryd.f4 [] false w args ∧ laidMetH Tryd.prog LAID w) ∧ sizedMet enc Tryd.prog Tryd.f4 (OpenSpec.ofChange Rows.fnWalFilesSpec) false w args) (Rows.fnWalFilesSpec.post enc Tryd.prog Tryd.f4 false true false false) := by
  refine returnsInHanded_of_change_and (C := Tryd.checked) (X := fun w _ => laidMetH Tryd.prog LAID w) (fun _ _ _ hh h => h.of_heap hh) own started (by kernel_rfl) Tryd.func4
    (ChangeSpec.witness_shaped (enc := enc) (C := Tryd.checked) (os := os) (X := fun w _ => laidMetH Tryd.prog LAID w) false (World.doorLaid Tryd.prog 400 os) #[.int .u32 0, .slice none 0 0, .slice none 0 0] 8 rfl (World.shaped_of_RefB (by kernel_rfl) (by kernel_rfl)) (by kernel_rfl) (by kernel_rfl) (by kernel_rfl) (door_met os _)) ?_
  intro W base args ds gs before hval0 hW _ _ hL _
  obtain ⟨ep, hep⟩ := of_laid hL
  have hval : ∀ (j : Nat) t v, Tryd.f4.params[j]? = some t → args[j]? = some v → Value.okWide Tryd.prog W .any base t v := hval0
  have hW' := hW
  obtain ⟨p, q, hA0, hV, rfl, hfz, hnd⟩ := hW
  have hA : DataW.TrodAll enc Tryd.prog W 0 (fun _ => true) true Tryd.f4.params.toList args.toList ds p := hA0
  rw [Tryd.params4] at hA hval
  obtain ⟨v0, vs0, d0, ds0, p0, q0, hargs, rfl, rfl, h0, r0⟩ := trodAll_cons hA
  obtain ⟨v1, vs1, d1, ds1, p1, q1, rfl, rfl, rfl, h1, r1⟩ := trodAll_cons r0
  obtain ⟨v2, vs2, d2, ds2, p2, q2, rfl, rfl, rfl, h2, r2⟩ := trodAll_cons r1
  obtain ⟨rfl, rfl, rfl⟩ := trodAll_nil r2
  obtain rfl : args = #[v0, v1, v2] := by cases args; simp_all
  obtain ⟨rfl, rfl⟩ := trodVars_none hV
  have k0 := h0
  have lt0 : ∀ x ∈ p0, x.block < W.heap.size := by obtain ⟨m, hm⟩ := k0; exact DataW.trod_lt m _ _ _ hm
  obtain ⟨a0, rfl, -, -, w0⟩ := open_int Tryd.underlying22 (hval 0 22 v0 rfl rfl) h0
  have k1 := h1
  have lt1 : ∀ x ∈ p1, x.block < W.heap.size := by obtain ⟨m, hm⟩ := k1; exact DataW.trod_lt m _ _ _ hm
  obtain ⟨a1, len1, cap1, rfl⟩ := okWide_slice Tryd.underlying23 (hval 1 23 v1 rfl rfl)
  have R1 : SlRead.Reads Tryd.prog W 23 [.slice a1 len1 cap1] := by obtain ⟨fuel, hf⟩ := k1; exact ⟨_, _, _, _, _, _, _, hf⟩
  have k2 := h2
  have lt2 : ∀ x ∈ p2, x.block < W.heap.size := by obtain ⟨m, hm⟩ := k2; exact DataW.trod_lt m _ _ _ hm
  obtain ⟨a2, len2, cap2, rfl⟩ := okWide_slice Tryd.underlying36 (hval 2 36 v2 rfl rfl)
  have R2 : SlRead.Reads Tryd.prog W 36 [.slice a2 len2 cap2] := by obtain ⟨fuel, hf⟩ := k2; exact ⟨_, _, _, _, _, _, _, hf⟩
  clear hA0 hval0
  refine (walk W a0 w0 a1 len1 cap1 R1 a2 len2 cap2 R2 ep hep).mono fun e W' ⟨he, bel⟩ => ?_
  subst he
  exact ⟨_, rfl, _, _, _, [], _, [], hW', trodAll_mk1 (shut_bool Tryd.underlying4 _), (trodAll_cons_mk (Below.trod laidOut (by kernel_rfl) (of_decide_eq_true (by kernel_rfl)) k0 bel lt0) (trodAll_cons_mk (Below.trod laidOut (by kernel_rfl) (of_decide_eq_true (by kernel_rfl)) k1 bel lt1) (trodAll_cons_mk (Below.trod laidOut (by kernel_rfl) (of_decide_eq_true (by kernel_rfl)) k2 bel lt2) trodAll_mk0))), rfl, bel.frame _, fun h => by cases h⟩

theorem over : Rows.fnWalFilesRow.holds Tryd.pinned (OpenSpec.ofChange Rows.fnWalFilesSpec) :=
  OpenClaim.holds_of_wide 4 Tryd.f4 rfl rfl rfl rfl rfl rfl rfl ⟨rfl, rfl, rfl, rfl, rfl⟩ rfl rfl rfl rfl rfl (by kernel_rfl) Tryd.func4 (by kernel_rfl)
    (of_decide_eq_true (by kernel_rfl)) (by unfold Func.isWrapper; first | (rw [if_pos (by decide +kernel)]; kernel_rfl) | (rw [if_neg (by decide +kernel)]; exact ⟨rfl, rfl⟩))
    (fun os started H enc _ => lifted os started H enc)

theorem row_holds : Rows.FnWalFilesSaid := over
/-- the card, closed by the given tie -/
theorem fnWalFilesCard_holds : Rows.FnWalFilesCardSaid :=
  Claim7.holds_tied_plain_at .later [] [.sentinel, .sentinel] true (true, "ff5cdb066b863382387dc987791acbd8ef663f81b4d48412442642270ec181d5") true
    row_holds (fun _ h => by cases h) (by kernel_rfl) (fun _ h => by cases h) fnWalFiles_row_tie rfl ⟨rfl, rfl⟩ (by kernel_rfl) rfl
    (fun f fn hf hfn => by
      obtain rfl : f = 4 := Option.some.inj ((show Tryd.prog.funcNamed "pub-stadtholder/laws.FnWalFiles" = some 4 by kernel_rfl).symm.trans hf) |>.symm
      obtain rfl : fn = Tryd.f4 := (Option.some.inj (Tryd.func4.symm.trans hfn)).symm
      exact ⟨by kernel_rfl, fun j t ht => by
        rw [Tryd.params4] at ht
        have hm : t ∈ [22, 23, 36] := by simpa using Array.mem_of_getElem? ht
        have hall : ([22, 23, 36].all fun u => !Tryd.prog.wantsStandIn u) = true := by kernel_rfl
        exact (show Tryd.prog.wantsStandIn t = false by simpa using List.all_eq_true.1 hall t hm)⟩)
    (by kernel_rfl)
#print axioms fnWalFilesCard_holds

end Go.Proofs.YthicijpjpijdjaaDoor.FnWalFilesRow
