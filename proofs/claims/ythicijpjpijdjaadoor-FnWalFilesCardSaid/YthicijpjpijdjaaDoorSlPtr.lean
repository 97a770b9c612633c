import Derived.Test.YthicijpjpijdjaaDoorSlX
import Derived.LaidEql
namespace Go.Proofs.YthicijpjpijdjaaDoor.Sl
open Go.RowKit Go.Lib
set_option linter.unusedSectionVars false
set_option linter.unusedVariables false
set_option linter.unusedSimpArgs false
section
variable [Dfs]
variable {P : Program} {W : World} {n : Nat} {l : List (Nat × Value)} {L : List HProp} {o : Oper} {Q : Exit → Act → World → Prop} {G : World → Prop}
theorem equal_sameP {t : TypeId} (ht : isPtr P t = true) (hsz : ∃ e i, P.underlying t = some (.pointer e) ∧ P.info? e = some i) (p : Addr) (w : World) : (Op.equal t (.pointer (some p)) (.pointer (some p))).run P w = .ok true w := by
  obtain ⟨e, i, hu, hi⟩ := hsz
  have h : Op.maxDepth = 9999 + 1 := rfl
  unfold Op.equal
  rw [h]
  unfold Op.equalIn
  simp [run_underlying hu w, sizeOf, typeInfo, hi]
  intro _
  simp [run_sameAddr_same]
def ptrE (P : Program) (t : TypeId) : Bool := match P.underlying t with | some (.pointer e) => (P.info? e).isSome | _ => false
theorem ptrE_of {t : TypeId} (h : ptrE P t = true) : isPtr P t = true ∧ ∃ e i, P.underlying t = some (.pointer e) ∧ P.info? e = some i := by
  unfold ptrE at h
  split at h
  · rename_i e he
    obtain ⟨i, hi⟩ := Option.isSome_iff_exists.1 h
    exact ⟨by unfold isPtr; rw [he], e, i, he, hi⟩
  · cases h
/-- a pointer beside itself -/
theorem Val.eqSame {t u : TypeId} {x y : Operand} {p : Addr} (ho : o.op = .binOp .eql t x y u) (ht : ptrE P t = true) (hx : ev l x = some (.pointer (some p))) (hy : ev l y = some (.pointer (some p))) : Val P n l G o (.bool true) := fun a w hf hs => by
  obtain ⟨h1, h2⟩ := ptrE_of ht
  simp [execOp, ho, hf.ev hx, hf.ev hy, eqGuard, binOp, equal_sameP h1 h2 p w]
def mu0 (P : Program) (s : TypeId) (f : Nat) : Bool := match P.underlying s with
  | some (.struct fs) => (match fs[f]? with | some fl => (match P.info? fl.type with | some i => i.size == 0 | none => false) && fl.offset == 0 && fl.byteOffset == 0 && P.cellsOf s != 0 && byteOfCell P P.depth s 0 == some 0 | none => false)
  | _ => false
/-- the address of a field without bytes, at the head -/
theorem Val.mu {s : TypeId} {x : Operand} {f b : Nat} {C : List Value} (ho : o.op = .fieldAddr s x f) (ht : mu0 P s f = true) (hx : ev l x = some (.pointer (some ⟨b, 0, none⟩))) (hc : ∀ w, G w → Holds (Blk b C s) w) :
    Val P n l G o (.pointer (some ⟨b, 0, none⟩)) := fun a w hf hs => by
  obtain ⟨fr, hb, -⟩ := (hc w hs).blk
  unfold mu0 at ht
  split at ht
  · rename_i fs hu
    split at ht
    · rename_i fl hfl
      split at ht
      · rename_i i hi
        simp only [Bool.and_eq_true, beq_iff_eq, bne_iff_ne, ne_eq] at ht
        obtain ⟨⟨⟨⟨h1, h2⟩, h3⟩, h4⟩, h5⟩ := ht
        simp [execOp, ho, hf.ev hx, Instr.fieldAt, Instr.sureAddr, run_underlying hu w, hfl, fieldPlace, sizeOf, typeInfo, hi, h1, h2, h3, partAt, byteOf, noView, viewAt, World.shape?, hb, h4, h5]
      · simp at ht
    · cases ht
  · cases ht
/-- an append for which there is room -/
theorem Eff.appendIn {t tx e : TypeId} {k by_ m n0 cap b : Nat} {s x : Operand} {vx : Value} {xs sp news : List Value} (ho : o.op = .call { callee := .builtin .append, args := #[s, x], argTypes := #[t, tx] })
    (ht : slcE P t = some (e, k, by_)) (hs : ev l s = some (.slice (some ⟨b, 0, none⟩) n0 cap)) (hx : ev l x = some vx) (hsrc : Srcs P W (Blk b (xs ++ sp) e :: L) k tx vx m news) (hroom : n0 + m ≤ cap) (hxl : xs.length = n0 * k) (hspl : sp.length = (cap - n0) * k) :
    Eff P W Q n l (Blk b (xs ++ sp) e :: L) o (One (.slice (some ⟨b, 0, none⟩) (n0 + m) cap) (Blk b ((xs ++ news) ++ sp.drop (m * k)) e :: L)) := fun a w hf hsat K hK => by
  obtain ⟨inf, hu, hi, rfl, rfl⟩ := slcE_of ht
  have hS := hsrc w hsat
  have hnl := hS.newsLen
  have hlen : (xs ++ sp).length = cap * inf.size := by
    rw [List.length_append, hxl, hspl, ← Nat.add_mul]; congr 1; omega
  have hfit : n0 * inf.size + news.length ≤ (xs ++ sp).length := by
    rw [hlen, hnl, ← Nat.add_mul]; exact Nat.mul_le_mul_right _ hroom
  have hr := run_append_room_src w t tx o.type e inf hu hi b 0 n0 cap vx m news hS hroom (fun j hj => by rw [hsat.head.cell, List.getElem?_eq_getElem (by omega)]; rfl) (fun j hj => hsat.head.free (by omega))
  unfold Oper.wp
  have e0 : (#[s, x].map a.eval) = #[.slice (some ⟨b, 0, none⟩) n0 cap, vx] := by simp [hf.ev hs, hf.ev hx]
  simp only [execOp, ho, resolve, e0, Sem.run_bind, Sem.run_pure, Result.andThen_ok, Go.invoke, builtin, hr]
  have h2 := setCells_blk news (xs ++ sp) (0 + n0 * inf.size) (by omega) hsat
  have e2 : (xs ++ sp).take (0 + n0 * inf.size) ++ news ++ (xs ++ sp).drop (0 + n0 * inf.size + news.length) = (xs ++ news) ++ sp.drop (m * inf.size) := by
    rw [Nat.zero_add, ← hxl, List.take_left, List.drop_append, hnl]
    simp
  rw [e2] at h2
  exact hK _ _ _ ⟨rfl, rfl⟩ h2
/-- a row of one's own is appended -/
theorem Srcs.ownAt {k m : Nat} {tx e e' : TypeId} {k' b' : Nat} {v : Value} {news : List Value} (hk : slcE P tx = some (e', k', b')) (h1 : news.all (·.oneCell') = true) (i : Nat) (hi : L[i]? = some (Own e k v m news)) : Srcs P W L k tx v m news := fun w hs => by
  obtain ⟨r, s, hlt, q, hq⟩ := hs.at i hi
  cases q with
  | none => obtain ⟨rfl, rfl, rfl⟩ := hq; exact Srcs.nil (W := W) (L := L) hk w hs
  | some q =>
    obtain ⟨b, c, sp⟩ := q
    obtain ⟨s1, s2, q1, q2, q3, ⟨rfl, h2, h3, -⟩, t1, t2, p1, p2, p3, hB, -⟩ := hq
    have hb : Holds (Blk b (news ++ sp) e) w := ⟨r, t1, fun b hb => hlt b (hb.imp id (fun x => q2 b (p1 b x))), hB⟩
    obtain ⟨inf, hu, -, -, -⟩ := slcE_of hk
    exact Src.ofSlice w hu ⟨b, 0, none⟩ m c news h3 (cells_range (hb.cell_range (by simp))) (by simpa using h1)
/-! many parts of one kind -/
def Kds {α : Type} (R : α → HProp) (ks : List α) : HProp := Sep (ks.map R)
theorem Sat.kCons {w : World} {α : Type} {R : α → HProp} {x : α} {ks : List α} (h : Sat W (Kds R (x :: ks) :: L) w) : Sat W (R x :: Kds R ks :: L) w := by
  have h2 : Sat W ((R x :: ks.map R) ++ L) w := h.sep
  exact (Sat.sep_mk (M := ks.map R) (h2.perm (show List.Perm (R x :: (ks.map R ++ L)) (ks.map R ++ (R x :: L)) from List.perm_middle.symm))).perm (List.Perm.swap _ _ _)
theorem Sat.kConsMk {w : World} {α : Type} {R : α → HProp} {x : α} {ks : List α} (h : Sat W (R x :: Kds R ks :: L) w) : Sat W (Kds R (x :: ks) :: L) w := by
  have h1 : Sat W (ks.map R ++ (R x :: L)) w := (h.perm (List.Perm.swap _ _ _)).sep
  exact Sat.sep_mk (M := R x :: ks.map R) (h1.perm List.perm_middle)
theorem Sat.kPerm {w : World} {α : Type} {R : α → HProp} {ks ms : List α} (hp : ks.Perm ms) (h : Sat W (Kds R ks :: L) w) : Sat W (Kds R ms :: L) w :=
  Sat.sep_mk (h.sep.perm ((hp.map R).append_right L))
theorem Sat.kNil {w : World} {α : Type} {R : α → HProp} (h : Sat W L w) : Sat W (Kds R [] :: L) w := Sat.sep_mk (M := []) h
theorem Sat.kApp {w : World} {α : Type} {R : α → HProp} {ks ms : List α} (h : Sat W (Kds R (ks ++ ms) :: L) w) : Sat W (Kds R ks :: Kds R ms :: L) w := by
  have h1 : Sat W ((ks.map R ++ ms.map R) ++ L) w := by rw [← List.map_append]; exact h.sep
  rw [List.append_assoc] at h1
  have h2 := Sat.sep_mk (M := ks.map R) h1
  have h3 := h2.perm (show List.Perm (Sep (ks.map R) :: (ms.map R ++ L)) (ms.map R ++ (Sep (ks.map R) :: L)) from List.perm_middle.symm)
  exact (Sat.sep_mk (M := ms.map R) h3).perm (List.Perm.swap _ _ _)
theorem Sat.kAppMk {w : World} {α : Type} {R : α → HProp} {ks ms : List α} (h : Sat W (Kds R ks :: Kds R ms :: L) w) : Sat W (Kds R (ks ++ ms) :: L) w := by
  have h1 := (h.perm (List.Perm.swap _ _ _)).sep
  have h2 := (h1.perm (show List.Perm (ms.map R ++ (Kds R ks :: L)) (Kds R ks :: (ms.map R ++ L)) from List.perm_middle)).sep
  refine Sat.sep_mk (M := (ks ++ ms).map R) ?_
  rw [List.map_append, List.append_assoc]
  exact h2
theorem split_at {α : Type} {l : List α} {i : Nat} {x : α} (h : l[i]? = some x) : l = l.take i ++ x :: l.drop (i + 1) := by
  have hlt := (List.getElem?_eq_some_iff.1 h).1
  have he := (List.getElem?_eq_some_iff.1 h).2
  rw [← he, ← List.drop_eq_getElem_cons hlt, List.take_append_drop]
/-- one of them by itself -/
theorem Sat.kOut {w : World} {α : Type} {R : α → HProp} {ks : List α} {i : Nat} {x : α} (hx : ks[i]? = some x) (h : Sat W (Kds R ks :: L) w) : Sat W (R x :: Kds R (ks.take i ++ ks.drop (i + 1)) :: L) w :=
  (Sat.kPerm (by have := split_at hx; exact (this ▸ List.perm_middle : List.Perm (ks.take i ++ x :: ks.drop (i + 1)) _) |> fun q => (List.Perm.of_eq this).trans q) h).kCons
theorem Sat.kIn {w : World} {α : Type} {R : α → HProp} {ks : List α} {i : Nat} {x : α} (h : Sat W (R x :: Kds R (ks.take i ++ ks.drop (i + 1)) :: L) w) : Sat W (Kds R (ks.take i ++ x :: ks.drop (i + 1)) :: L) w := Sat.kPerm List.perm_middle.symm h.kConsMk
end
end Go.Proofs.YthicijpjpijdjaaDoor.Sl
