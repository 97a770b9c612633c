import Derived.Test.YthicijpjpijdjaaDoorSlOps
import Derived.Laws.IdiomStrings
import Derived.Lib.SmallJoins
namespace Go.Proofs.YthicijpjpijdjaaDoor.Sl
open Go.RowKit Go.Lib
set_option linter.unusedSectionVars false
set_option linter.unusedVariables false
set_option linter.unusedSimpArgs false

/-! ## calls -/
def evs (l : List (Nat × Value)) : List Operand → Option (List Value)
  | [] => some []
  | x :: xs => match ev l x with | some v => (match evs l xs with | some vs => some (v :: vs) | none => none) | none => none
def evps (l : List (Nat × Value)) : List (Nat × Operand) → Option (List (Nat × Value))
  | [] => some []
  | (i, x) :: xs => match ev l x with | some v => (match evps l xs with | some vs => some ((i, v) :: vs) | none => none) | none => none

section
variable [Dfs]
variable {P : Program} {W : World} {n : Nat} {l : List (Nat × Value)} {L : List HProp} {o : Oper} {Q : Exit → Act → World → Prop} {G : World → Prop}
theorem Fr.evs {a : Act} (h : Fr n a l) : ∀ {xs : List Operand} {vs : List Value}, evs l xs = some vs → xs.map a.eval = vs
  | [], vs, hv => by simp only [Sl.evs, Option.some.injEq] at hv; subst hv; rfl
  | x :: xs, vs, hv => by
    simp only [Sl.evs] at hv
    cases hx : Sl.ev l x with
    | none => rw [hx] at hv; cases hv
    | some v =>
      rw [hx] at hv
      cases hxs : Sl.evs l xs with
      | none => rw [hxs] at hv; cases hv
      | some us =>
        rw [hxs] at hv
        simp only [Option.some.injEq] at hv
        subst hv
        rw [List.map_cons, h.ev hx, h.evs hxs]
theorem Fr.evps {a : Act} (h : Fr n a l) : ∀ {xs : List (Nat × Operand)} {vs : List (Nat × Value)}, evps l xs = some vs → xs.map (fun p => (p.1, a.eval p.2)) = vs
  | [], vs, hv => by simp only [Sl.evps, Option.some.injEq] at hv; subst hv; rfl
  | (i, x) :: xs, vs, hv => by
    simp only [Sl.evps] at hv
    cases hx : Sl.ev l x with
    | none => rw [hx] at hv; cases hv
    | some v =>
      rw [hx] at hv
      cases hxs : Sl.evps l xs with
      | none => rw [hxs] at hv; cases hv
      | some us =>
        rw [hxs] at hv
        simp only [Option.some.injEq] at hv
        subst hv
        rw [List.map_cons, h.ev hx, h.evps hxs]
def After (R : Value → List HProp → Prop) (F : List HProp) : Value → List HProp → Prop := fun v L' => ∃ M, R v M ∧ L' = M ++ F
theorem Eff.call {f : FuncId} {xs : List Operand} {ats : Array TypeId} {args : List Value} {L0 F : List HProp} {R : Value → List HProp → Prop} (ho : o.op = .call { callee := .value (.func f), args := xs.toArray, argTypes := ats })
    (hx : evs l xs = some args) (hc : ∀ (as : Array Value) (w : World), (callFunc f as).run P w = .ok (.enter f as) w) (h : Does P f args L0 R) : Eff P W Q n l (L0 ++ F) o (After R F) :=
  Eff.enter h fun a w hf hs => by
    have e : (xs.toArray.map a.eval) = args.toArray := by rw [List.map_toArray, hf.evs hx]
    simp only [execOp, ho, resolve, Act.eval, e, Sem.run_bind, Deferred.ofValue, Sem.run_pure, Result.andThen_ok, invoke]
    have e2 : (#[] ++ args.toArray ++ #[] : Array Value) = args.toArray := by simp
    rw [e2, hc]
/-- a call of a function value -/
theorem Eff.callF {f : FuncId} {x : Operand} {xs : List Operand} {ats : Array TypeId} {first caps : Array Value} {args args' : List Value} {L0 F : List HProp} {R : Value → List HProp → Prop} (ho : o.op = .call { callee := .value x, args := xs.toArray, argTypes := ats })
    (hv : ev l x = some (.func (.func f) first caps)) (hx : evs l xs = some args) (ha : first.toList ++ args ++ caps.toList = args') (hc : ∀ (as : Array Value) (w : World), (callFunc f as).run P w = .ok (.enter f as) w) (h : Does P f args' L0 R) : Eff P W Q n l (L0 ++ F) o (After R F) :=
  Eff.enter h fun a w hf hs => by
    subst ha
    have e : (xs.toArray.map a.eval) = args.toArray := by rw [List.map_toArray, hf.evs hx]
    simp only [execOp, ho, resolve, hf.ev hv, e, Sem.run_bind, Deferred.ofValue, Sem.run_pure, Result.andThen_ok, invoke]
    have e2 : first ++ args.toArray ++ caps = (first.toList ++ args ++ caps.toList).toArray := by simp
    rw [e2, hc]
/-- a call through an interface -/
theorem Eff.invoke {f : FuncId} {x : Operand} {nm : String} {xs : List Operand} {ats : Array TypeId} {t : TypeId} {v u : Value} {args : List Value} {L0 F : List HProp} {R : Value → List HProp → Prop} (ho : o.op = .call { callee := .invoke x nm, args := xs.toArray, argTypes := ats })
    (hv : ev l x = some (.iface t v)) (hx : evs l xs = some args) (hm : ∀ w : World, (method (P.types.size + Made.depth) t v nm).run P w = .ok (f, u) w) (hc : ∀ (as : Array Value) (w : World), (callFunc f as).run P w = .ok (.enter f as) w)
    (h : Does P f (u :: args) L0 R) : Eff P W Q n l (L0 ++ F) o (After R F) :=
  Eff.enter h fun a w hf hs => by
    have e : (xs.toArray.map a.eval) = args.toArray := by rw [List.map_toArray, hf.evs hx]
    simp only [execOp, ho, resolve, hf.ev hv, e, Sem.run_bind, Sem.run_pure, Result.andThen_ok, Go.invoke]
    have e1 : (#[Value.iface t v] ++ args.toArray)[0]? = some (.iface t v) := by simp
    have e2 : (#[Value.iface t v] ++ args.toArray).extract 1 (#[Value.iface t v] ++ args.toArray).size = args.toArray := by
      apply Array.ext'
      simp
    simp only [e1, e2, callMethod, Sem.run_bind, program, Sem.run, Result.andThen_ok, hm]
    have e3 : #[u] ++ args.toArray = (u :: args).toArray := by simp
    rw [e3, hc]
theorem Val.mkFunc {fn : Fn} {xs ys : List Operand} {us vs : List Value} (ho : o.op = .makeFunc fn xs.toArray ys.toArray) (hx : evs l xs = some us) (hy : evs l ys = some vs) : Val P n l G o (.func fn us.toArray vs.toArray) :=
  Val.makeFunc ho (fun a hf => by rw [List.map_toArray, hf.evs hx]) (fun a hf => by rw [List.map_toArray, hf.evs hy])
theorem Val.mk {t : TypeId} {ps : List (Nat × Operand)} {vs : List (Nat × Value)} {cs : List Value} (ho : o.op = .build t ps.toArray) (hv : evps l ps = some vs) (hb : ∀ w, (Instr.build t vs.toArray).run P w = .ok (.agg cs.toArray) w) :
    Val P n l G o (.agg cs.toArray) := Val.build ho (fun a hf => by rw [List.map_toArray, hf.evps hv]) hb
theorem Eff.mkSlice {t e : TypeId} {k by_ m : Nat} {ps : List (Nat × Operand)} {vs : List (Nat × Value)} {C : List Value} (ho : o.op = .buildSlice t m ps.toArray) (ht : slcE P t = some (e, k, by_)) (hv : evps l ps = some vs)
    (hb : ∀ w, (Instr.buildSlice t m vs.toArray).run P w = .ok (.slice (some ⟨w.heap.size, 0, none⟩) m m) (w.alloc (.cells C.toArray e))) : Eff P W Q n l L o (NewS e m m C L) :=
  Eff.buildSlice ho ht (fun a hf => by rw [List.map_toArray, hf.evps hv]) hb

theorem oc_int (k : IntKind) (z : Int) : (Value.int k z).oneCell' = true := rfl
theorem oc_str (x : ByteArray) : (Value.string x).oneCell' = true := rfl
theorem oc_bool (x : Bool) : (Value.bool x).oneCell' = true := rfl
theorem oc_ptr (x : Option Addr) : (Value.pointer x).oneCell' = true := rfl
theorem oc_slice (x : Option Addr) (m c : Nat) : (Value.slice x m c).oneCell' = true := rfl
theorem oc_iface (t : TypeId) (v : Value) : (Value.iface t v).oneCell' = true := rfl
theorem oc_map (x : Option Nat) : (Value.map x).oneCell' = true := rfl
/-! ## a row of one's own, which grows -/
/-- v is a slice of n elements (of k cells each) of one's own: nil, or the head of a block -/
def Own (e : TypeId) (k : Nat) (v : Value) (n : Nat) (xs : List Value) : HProp :=
  Ex fun q : Option (Nat × Nat × List Value) => match q with
    | none => Pure (v = .slice none 0 0 ∧ n = 0 ∧ xs = [])
    | some (b, cap, sp) => Sep [Pure (v = .slice (some ⟨b, 0, none⟩) n cap ∧ n ≤ cap ∧ xs.length = n * k ∧ sp.length = (cap - n) * k ∧ cap ≤ maxLen), Blk b (xs ++ sp) e]
theorem Sat.ownNil {w : World} {e : TypeId} {k : Nat} (h : Sat W L w) : Sat W (Own e k (.slice none 0 0) 0 [] :: L) w := Sat.ex_mk none (Sat.pure_mk ⟨rfl, rfl, rfl⟩ h)
theorem Sat.ownMk {w : World} {e : TypeId} {k b m cap : Nat} {xs sp : List Value} (h : Sat W (Blk b (xs ++ sp) e :: L) w) (h1 : m ≤ cap) (h2 : xs.length = m * k) (h3 : sp.length = (cap - m) * k) (h4 : cap ≤ maxLen) :
    Sat W (Own e k (.slice (some ⟨b, 0, none⟩) m cap) m xs :: L) w := Sat.ex_mk (some (b, cap, sp)) (Sat.sep_mk (Sat.pure_mk ⟨rfl, h1, h2, h3, h4⟩ h))
theorem Sat.own {w : World} {e : TypeId} {k m : Nat} {v : Value} {xs : List Value} (h : Sat W (Own e k v m xs :: L) w) :
    (v = .slice none 0 0 ∧ m = 0 ∧ xs = [] ∧ Sat W L w) ∨ ∃ b cap sp, v = .slice (some ⟨b, 0, none⟩) m cap ∧ m ≤ cap ∧ xs.length = m * k ∧ sp.length = (cap - m) * k ∧ cap ≤ maxLen ∧ Sat W (Blk b (xs ++ sp) e :: L) w := by
  obtain ⟨q, h⟩ := h.ex
  cases q with
  | none => exact .inl ⟨h.pure.1, h.pure.2.1, h.pure.2.2, h.drop⟩
  | some q =>
    obtain ⟨b, cap, sp⟩ := q
    have h2 := h.sep
    obtain ⟨e1, e2, e3, e4, e5⟩ := h2.pure
    exact .inr ⟨b, cap, sp, e1, e2, e3, e4, e5, h2.drop⟩
/-- what is appended -/
def Srcs (P : Program) (W : World) (L : List HProp) (k : Nat) (tx : TypeId) (x : Value) (m : Nat) (news : List Value) : Prop := ∀ w, Sat W L w → Src P k tx x m news w
theorem Srcs.slice {k m c : Nat} {tx e' : TypeId} {k' b' : Nat} {p : Addr} {news : List Value} (hk : slcE P tx = some (e', k', b')) (hl : news.length = m * k) (h1 : news.all (·.oneCell') = true)
    (hc : ∀ w, Sat W L w → ∀ j u, news[j]? = some u → w.cell? (p.add j) = some u) : Srcs P W L k tx (.slice (some p) m c) m news := fun w hs => by
  obtain ⟨inf, hu, -, -, -⟩ := slcE_of hk
  exact Src.ofSlice w hu p m c news hl (hc w hs) (by simpa using h1)
theorem Srcs.str {tx : TypeId} (hk : isStr P tx = true) (s : ByteArray) : Srcs P W L 1 tx (.string s) s.size (byteCells s) := fun w hs => by
  have hu : P.underlying tx = some .string := by
    unfold isStr at hk
    split at hk
    · assumption
    · cases hk
  exact Src.ofString w hu s
theorem Srcs.nil {k c : Nat} {tx e' : TypeId} {k' b' : Nat} (hk : slcE P tx = some (e', k', b')) : Srcs P W L k tx (.slice none 0 c) 0 [] := fun w hs => by
  obtain ⟨inf, hu, -, -, -⟩ := slcE_of hk
  exact Src.ofNil w hu c
theorem cells_range {w : World} {b i : Nat} {news : List Value} (h : w.rangeAt b i news) : ∀ j u, news[j]? = some u → w.cell? ((⟨b, i, none⟩ : Addr).add j) = some u := fun j u hj => by
  rw [Addr.add_mid]; exact h j u hj
def Grown (e : TypeId) (k n : Nat) (xs : List Value) (L : List HProp) : Value → List HProp → Prop := fun u M => u.oneCell' = true ∧ M = Own e k u n xs :: L
theorem zeroCells_list (z : Value) (C : List Value) (hz : z.cells = C.toArray) (m : Nat) : (Builtin.zeroCells z.cells m).toList.length = m * C.length := by
  simp [Builtin.zeroCells, hz]
theorem Eff.append {t tx e : TypeId} {k by_ m n0 : Nat} {s x : Operand} {vs vx : Value} {xs news : List Value} {C : List Value} (ho : o.op = .call { callee := .builtin .append, args := #[s, x], argTypes := #[t, tx] })
    (ht : slcE P t = some (e, k, by_)) (hz : zeroC P e = some C) (hC : C.length = k) (hs : ev l s = some vs) (hx : ev l x = some vx) (hsrc : Srcs P W (Own e k vs n0 xs :: L) k tx vx m news)
    (h63 : n0 + m ≤ 9223372036854775807) (hb : (n0 + m) * by_ ≤ 140737488355328) : Eff P W Q n l (Own e k vs n0 xs :: L) o (Grown e k (n0 + m) (xs ++ news) L) := fun a w hf hsat K hK => by
  obtain ⟨inf, hu, hi, rfl, rfl⟩ := slcE_of ht
  obtain ⟨i2, z, hi2, hz2, hcz⟩ := zeroC_of hz
  rw [hi] at hi2
  obtain rfl : inf = i2 := by simpa using hi2
  have hS := hsrc w hsat
  have goal : ∃ v' w', v'.oneCell' = true ∧ (Builtin.append_ #[t, tx] o.type #[vs, vx]).run P w = .ok v' w' ∧ Sat W (Own e inf.size v' (n0 + m) (xs ++ news) :: L) w' := by
    have grow : ∀ (base : Option Addr) (sCap : Nat), (Builtin.firstCells inf.size n0 (.slice base n0 sCap)).run P w.drew = .ok xs.toArray w.drew → xs.length = n0 * inf.size → sCap < n0 + m →
        ∃ v' w', v'.oneCell' = true ∧ (Builtin.append_ #[t, tx] o.type #[.slice base n0 sCap, vx]).run P w = .ok v' w' ∧ Sat W (Own e inf.size v' (n0 + m) (xs ++ news) :: L) w' := by
      intro base sCap hold hxl hg
      refine ⟨_, _, rfl, run_append_grow_src w t tx o.type e inf z hu hi hz2 base n0 sCap xs hold vx m news hS hg (by omega) (growslice_fits hg hb), ?_⟩
      have hge := grownCap_ge w (n0 + m) sCap e
      have hle := grownCap_le_maxLen w (n0 + m) sCap e (by unfold maxLen; omega)
      have h1 := (hsat.drop.drew).blk ((xs ++ news) ++ (Builtin.zeroCells z.cells (grownCap w (n0 + m) sCap e - (n0 + m))).toList) e
      have e1 : ((xs ++ news) ++ (Builtin.zeroCells z.cells (grownCap w (n0 + m) sCap e - (n0 + m))).toList).toArray = (xs ++ news).toArray ++ Builtin.zeroCells z.cells (grownCap w (n0 + m) sCap e - (n0 + m)) := by
        apply Array.ext'; simp
      rw [e1] at h1
      refine h1.ownMk hge (by rw [List.length_append, hxl, hS.newsLen, Nat.add_mul]) ?_ hle
      rw [zeroCells_list z C hcz, hC]
    rcases hsat.own with ⟨rfl, rfl, rfl, hL⟩ | ⟨b, cap, sp, rfl, hle, hxl, hspl, hcap, hL⟩
    · by_cases hm : m = 0
      · subst hm
        have hn0 : news = [] := List.eq_nil_of_length_eq_zero (by rw [hS.newsLen]; simp)
        subst hn0
        refine ⟨.slice none 0 0, w, rfl, ?_, hL.ownNil⟩
        rcases hS.kind with ⟨e', hk⟩ | hk <;> simp [Builtin.append_, run_underlying hu, run_underlying hk, sizeOf, typeInfo, hi, hS.len, hS.cells]
      · exact grow none 0 (run_firstCells_none _ _ _ _ _) (by simp) (by omega)
    · by_cases hroom : n0 + m ≤ cap
      · have hnl := hS.newsLen
        have hlen : (xs ++ sp).length = cap * inf.size := by
          rw [List.length_append, hxl, hspl, ← Nat.add_mul]; congr 1; omega
        have hfit : n0 * inf.size + news.length ≤ (xs ++ sp).length := by
          rw [hlen, hnl, ← Nat.add_mul]; exact Nat.mul_le_mul_right _ hroom
        refine ⟨_, _, rfl, run_append_room_src w t tx o.type e inf hu hi b 0 n0 cap vx m news hS hroom (fun j hj => ?_) (fun j hj => ?_), ?_⟩
        · rw [hL.head.cell, List.getElem?_eq_getElem (by omega)]; rfl
        · exact hL.head.free (by omega)
        · have h2 := setCells_blk news (xs ++ sp) (0 + n0 * inf.size) (by omega) hL
          have e2 : (xs ++ sp).take (0 + n0 * inf.size) ++ news ++ (xs ++ sp).drop (0 + n0 * inf.size + news.length) = (xs ++ news) ++ sp.drop (m * inf.size) := by
            rw [Nat.zero_add, ← hxl, List.take_left, List.drop_append, hnl]
            simp
          rw [e2] at h2
          refine h2.ownMk hroom (by rw [List.length_append, hxl, hnl, Nat.add_mul]) ?_ hcap
          rw [List.length_drop, hspl, ← Nat.sub_mul]; congr 1; omega
      · exact grow _ cap (run_firstCells_some _ inf.size n0 _ n0 cap xs hxl (fun j v hj => by
          show w.cell? _ = _
          rw [Addr.add_mid, Nat.zero_add, hL.head.cell, List.getElem?_append_left (List.getElem?_eq_some_iff.1 hj).1]; exact hj)) hxl (by omega)
  obtain ⟨v', w', h1', hr, hs'⟩ := goal
  unfold Oper.wp
  have e0 : (#[s, x].map a.eval) = #[vs, vx] := by simp [hf.ev hs, hf.ev hx]
  simp only [execOp, ho, resolve, e0, Sem.run_bind, Sem.run_pure, Result.andThen_ok, Go.invoke, builtin, hr]
  exact hK v' _ w' ⟨h1', rfl⟩ hs'

/-! ## copy -/
theorem run_copy_src {w : World} {dT sT ty e : TypeId} {inf : TypeInfo} {b i dLen dCap m : Nat} {x : Value} {cs : List Value} (hu : P.underlying dT = some (.slice e)) (hi : P.info? e = some inf)
    (hlen : ∀ w' : World, (Builtin.lenOf x).run P w' = .ok m w') (hcs : (Builtin.firstCells inf.size (Nat.min m dLen) x).run P w = .ok cs.toArray w)
    (hc : ∀ j, j < cs.length → (w.cell? ⟨b, i + j, none⟩).isSome = true) (hf : ∀ j, j < cs.length → w.frozen? ⟨b, i + j, none⟩ = false) (h1 : ∀ u ∈ cs, u.oneCell' = true) :
    (Builtin.copy_ #[dT, sT] ty #[.slice (some ⟨b, i, none⟩) dLen dCap, x]).run P w = .ok (.int .i64 (Nat.min m dLen : Nat)) (w.setCells b i cs) := by
  have hst := run_storeCells_cells (P := P) b i cs 0 w (by simpa using hc) (by simpa using hf) h1
  simp only [Nat.add_zero] at hst
  simp [Builtin.copy_, run_underlying hu, hlen, sizeOf, typeInfo, hi, hcs, hst, goInt]
theorem Eff.copy {dT sT e : TypeId} {k by_ b i dLen dCap m : Nat} {d x : Operand} {vx : Value} {cs C : List Value} {T : TypeId} (ho : o.op = .call { callee := .builtin .copy, args := #[d, x], argTypes := #[dT, sT] }) (ht : slcE P dT = some (e, k, by_))
    (hd : ev l d = some (.slice (some ⟨b, i, none⟩) dLen dCap)) (hx : ev l x = some vx) (hlen : ∀ w' : World, (Builtin.lenOf vx).run P w' = .ok m w')
    (hcs : ∀ w, Sat W (Blk b C T :: L) w → (Builtin.firstCells k (Nat.min m dLen) vx).run P w = .ok cs.toArray w) (h1 : cs.all (·.oneCell') = true) (hfit : i + cs.length ≤ C.length) :
    Eff P W Q n l (Blk b C T :: L) o (One (.int .i64 (Nat.min m dLen : Nat)) (Blk b (C.take i ++ cs ++ C.drop (i + cs.length)) T :: L)) := fun a w hf hs K hK => by
  obtain ⟨inf, hu, hi, rfl, rfl⟩ := slcE_of ht
  have c1 : ∀ j, j < cs.length → (w.cell? ⟨b, i + j, none⟩).isSome = true := fun j hj => by
    have hj2 : i + j < C.length := by omega
    rw [hs.head.cell, List.getElem?_eq_getElem hj2]
    rfl
  have hr := run_copy_src (P := P) (sT := sT) (ty := o.type) (dCap := dCap) hu hi hlen (hcs w hs) c1 (fun j hj => hs.head.free (by omega)) (by simpa using h1)
  unfold Oper.wp
  have e0 : (#[d, x].map a.eval) = #[.slice (some ⟨b, i, none⟩) dLen dCap, vx] := by simp [hf.ev hd, hf.ev hx]
  simp only [execOp, ho, resolve, e0, Sem.run_bind, Sem.run_pure, Result.andThen_ok, Go.invoke, builtin]
  rw [hr]
  exact hK _ _ _ ⟨rfl, rfl⟩ (setCells_blk cs C i hfit hs)

/-- copy out of a slice into one's own row (elements of one cell) -/
theorem Eff.copySl {dT sT e : TypeId} {by_ b i dLen dCap b' i' m c' : Nat} {d x : Operand} {cs C C' : List Value} {T : TypeId} (ho : o.op = .call { callee := .builtin .copy, args := #[d, x], argTypes := #[dT, sT] }) (ht : slcE P dT = some (e, 1, by_))
    (hd : ev l d = some (.slice (some ⟨b, i, none⟩) dLen dCap)) (hx : ev l x = some (.slice (some ⟨b', i', none⟩) m c')) (hr : ∀ w, Sat W (Blk b C T :: L) w → w.rangeAt b' i' cs) (hcs : cs.length = m) (hm : m ≤ dLen)
    (h1 : cs.all (·.oneCell') = true) (hfit : i + m ≤ C.length) (hC : C.take i ++ cs ++ C.drop (i + m) = C') :
    Eff P W Q n l (Blk b C T :: L) o (One (.int .i64 ((m : Nat) : Int)) (Blk b C' T :: L)) := by
  subst hC hcs
  have hmin : Nat.min cs.length dLen = cs.length := Nat.min_eq_left hm
  have := Eff.copy (P := P) (W := W) (n := n) (l := l) (L := L) (Q := Q) (m := cs.length) (cs := cs) (C := C) (T := T) (b := b) (i := i) (dLen := dLen) ho ht hd hx (fun w' => rfl) (fun w hs => by
    rw [hmin]
    exact run_firstCells_some w 1 cs.length _ cs.length c' cs (by simp) (cells_range (hr w hs))) h1 (by omega)
  rw [hmin] at this
  exact this
theorem own_oneCell {w : World} {e : TypeId} {k m : Nat} {v : Value} {xs : List Value} (h : Sat W (Own e k v m xs :: L) w) : v.oneCell' = true := by
  rcases h.own with ⟨rfl, _⟩ | ⟨b, c, sp, rfl, _⟩ <;> rfl

/-! ## strings and bytes -/
def isBytes (P : Program) (t : TypeId) : Option TypeId := match P.underlying t with | some (.slice e) => (match P.underlying e with | some (.int .u8) => some e | _ => none) | _ => none
theorem isBytes_of {t e : TypeId} (h : isBytes P t = some e) : P.underlying t = some (.slice e) ∧ P.underlying e = some (.int .u8) := by
  unfold isBytes at h
  split at h
  · rename_i e' he
    split at h
    · rename_i he2
      simp only [Option.some.injEq] at h
      subst h
      exact ⟨he, he2⟩
    · cases h
  · cases h
theorem isStr_of {t : TypeId} (ht : isStr P t = true) : P.underlying t = some .string := by
  unfold isStr at ht
  split at ht
  · assumption
  · cases ht
/-- '[]byte(s)' -/
theorem Eff.bytes {u t e : TypeId} {x : Operand} {s : ByteArray} (ho : o.op = .convert u t x) (hu : isStr P u = true) (ht : isBytes P t = some e) (hx : ev l x = some (.string s)) :
    Eff P W Q n l L o (fun v M => ∃ b cap sp, v = .slice (some ⟨b, 0, none⟩) s.size cap ∧ s.size ≤ cap ∧ sp.length = cap - s.size ∧ M = Blk b (byteCells s ++ sp) e :: L) := fun a w hf hs K hK => by
  obtain ⟨h1, h2⟩ := isBytes_of ht
  have hr := Lib.run_convert_string_bytes (P := P) w u t e s (isStr_of hu) h1 h2
  unfold Oper.wp
  simp only [execOp, ho, hf.ev hx, Sem.run_bind, hr]
  have hge := grownCap_ge w s.size 0 e
  refine hK _ _ _ ⟨w.heap.size, grownCap w s.size 0 e, List.replicate (grownCap w s.size 0 e - s.size) (Value.int .u8 0), rfl, hge, by simp, rfl⟩ ?_
  have hcells : (bytesCells w e s) = (byteCells s ++ List.replicate (grownCap w s.size 0 e - s.size) (Value.int .u8 0)).toArray := by
    apply Array.ext'
    simp [bytesCells, byteCells]
  have h3 := (hs.drew).alloc (.cells (bytesCells w e s) e)
  have hsz : (bytesCells w e s).size = grownCap w s.size 0 e := by
    rw [hcells]
    simp only [List.size_toArray, List.length_append, byteCells_length, List.length_replicate]
    omega
  have hb : (w.drew.alloc (.cells (bytesCells w e s) e)).heap[w.heap.size]? = some (.cells (bytesCells w e s) e (0, 0)) := heap_alloc_new w.drew _
  have h4 := h3.write (bytesWorld w e s) (o' := .cells (bytesCells w e s) e (grownCap w s.size 0 e, grownCap w s.size 0 e + 1)) rfl rfl rfl (by simp [bytesWorld, World.freeze]) (by
      show (bytesWorld w e s).heap[w.heap.size]? = _
      simp only [bytesWorld, World.freeze]
      rw [if_neg (by simp)]
      simp only [Array.getElem?_modify, hb, if_true, Option.map_some, hsz, beq_self_eq_true]) (fun k hk => by
      simp only [bytesWorld, World.freeze]
      rw [if_neg (by simp)]
      simp only [Array.getElem?_modify]
      rw [if_neg (fun e => hk e.symm)])
  refine h4.imp fun _ _ _ ⟨k1, k2⟩ => ⟨k1, _, by rw [← hcells]; exact k2, fun i hi => ?_⟩
  simp only [List.length_append, byteCells_length, List.length_replicate] at hi
  omega
theorem Val.bytesBack {u t e : TypeId} {x : Operand} {p : Addr} {cap : Nat} {bs : List UInt8} {len : Nat} (ho : o.op = .convert u t x) (hu : isBytes P u = some e) (ht : isStr P t = true) (hx : ev l x = some (.slice (some p) len cap)) (hl : bs.length = len)
    (hc : ∀ w, G w → ∀ j (hj : j < bs.length), w.cell? (p.add j) = some (.int .u8 (bs[j].toNat : Int))) : Val P n l G o (.string ⟨bs.toArray⟩) := fun a w hf hs => by
  subst hl
  obtain ⟨h1, h2⟩ := isBytes_of hu
  have hr := run_convert_bytes_back (P := P) w u t e p cap bs h1 h2 (isStr_of ht) (hc w hs)
  simp only [execOp, ho, hf.ev hx, Sem.run_bind, hr]
  rfl
end
end Go.Proofs.YthicijpjpijdjaaDoor.Sl
