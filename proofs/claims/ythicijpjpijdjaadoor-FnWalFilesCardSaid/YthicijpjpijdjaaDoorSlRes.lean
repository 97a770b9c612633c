import Derived.Test.YthicijpjpijdjaaDoorSlDefer
import Derived.Test.YthicijpjpijdjaaDoorSlPtr
namespace Go.Proofs.YthicijpjpijdjaaDoor.Sl
open Go.RowKit Go.Lib
set_option linter.unusedVariables false
set_option linter.unusedSectionVars false
section
variable {P : Program} {W : World} {n : Nat} {l : List (Nat × Value)} {L : List HProp} {o : Oper} {G : World → Prop}
/-- a known answer -/
theorem Val.intK [Dfs] {k : IntKind} {p z : Int} (h : Val P n l G o (.int k p)) (e : p = z) : Val P n l G o (.int k z) := e ▸ h
theorem Val.boolK [Dfs] {p q : Bool} (h : Val P n l G o (.bool p)) (e : p = q) : Val P n l G o (.bool q) := e ▸ h
theorem results_ttt {fn : Func} {t u s : Tmp} {v x y : Value} (hr : fn.results = #[.tmp t, .tmp u, .tmp s]) (hv : Sl.look l t = some v) (hx : Sl.look l u = some x) (hy : Sl.look l s = some y) : ∀ a w, Fr n a l → Sat W L w → (results fn a.tmps).run P w = .ok (.tuple #[v, x, y]) w := fun a w hf hs => by
  have e := hf.at_ t _ hv
  have e2 := hf.at_ u _ hx
  have e3 := hf.at_ s _ hy
  rw [Array.getD_eq_getD_getElem?] at e e2 e3
  simp [results, hr, e, e2, e3]
theorem results_ctt {fn : Func} {t u s : Tmp} {ty : TypeId} {v x : Value} {b k : Nat} {cs : List Value} (hr : fn.results = #[.cell u ty, .tmp t, .tmp s]) (hu : Sl.look l u = some (.pointer (some ⟨b, 0, none⟩))) (hv : Sl.look l t = some v) (hx : Sl.look l s = some x) (ht : aggS P ty = some k) (hk : cs.length = k)
    (hc : ∀ w, Sat W L w → w.rangeAt b 0 cs) : ∀ a w, Fr n a l → Sat W L w → (results fn a.tmps).run P w = .ok (.tuple #[.agg cs.toArray, v, x]) w := fun a w hf hs => by
  obtain ⟨d, h1, h2, h3⟩ := aggS_row ht
  have := run_loadVar_mid (P := P) w b 0 ty cs d (hc w hs) h1 h2 (by rw [h3, hk])
  have e := hf.at_ u _ hu
  have e2 := hf.at_ t _ hv
  have e3 := hf.at_ s _ hx
  rw [Array.getD_eq_getD_getElem?] at e e2 e3
  simp [results, hr, e, e2, e3, asAddr, this]
end

section
variable {P : Program} {W : World} {n : Nat} {l : List (Nat × Value)} {L : List HProp} {o : Oper} {G : World → Prop} {Q : Exit → Act → World → Prop}
/-- a walk that never panics -/
def noPan (Q : Exit → Act → World → Prop) : Exit → Act → World → Prop := fun e a w => match e with | .panic _ => False | e' => Q e' a w
theorem noPan_imp {Q : Exit → Act → World → Prop} : ∀ e a w, noPan Q e a w → Q e a w := fun e a w h => by
  cases e <;> first | exact h | exact h.elim
theorem Does.enterN {f : FuncId} {fn : Func} {c : Code} {args : List Value} {R : Value → List HProp → Prop} (n : Nat) (hf : P.funcs[f]? = some fn) (hb : fn.body = some c) (hn : fn.ntmps = n) (hle : Nat.ble args.length n = true)
    (h : ∀ (W : World) (F : List HProp), WPc P W c (noPan (bodyPostD P fn (Ends W F R))) n (argsFrom 0 args) (L ++ F)) : Does P f args L R :=
  Does.enterD n hf hb hn hle fun W F a w hfr hs => wp_mono (h W F a w hfr hs) noPan_imp
theorem Out.retN0 {fn : Func} {F : List HProp} {R : Value → List HProp → Prop} {t : Tmp} {v : Value} {L' : List HProp} (hr : fn.results = #[.tmp t]) (hv : look l t = some v) (hR : R v L') (hL : ∀ w, Sat W L w → Sat W (L' ++ F) w) :
    Out W (noPan (bodyPostD P fn (Ends W F R))) .ret n l L := fun a w hf hs => Out.retD0 (P := P) (F := F) (R := R) hr hv hR hL a w hf hs
theorem Out.retN1 {D : Dfs} {k : FuncId} {z : Value} {fn : Func} {F : List HProp} {R : Value → List HProp → Prop} {t : Tmp} {v : Value} {L' : List HProp} (hD : D.ds = [putOff k z]) (hq : Quiet P k) (hc : ∀ (as : Array Value) (w : World), (callFunc k as).run P w = .ok (.enter k as) w) (hr : fn.results = #[.tmp t]) (hv : look l t = some v) (hR : R v L') (hL : ∀ w, Sat W L w → Sat W (L' ++ F) w) :
    Out W (noPan (bodyPostD P fn (Ends W F R))) .ret n l L := fun a w hf hs => Out.retD1 (P := P) (F := F) (R := R) hD hq hc hr hv hR hL a w hf hs
end
section
variable [Dfs]
variable {P : Program} {W : World} {n : Nat} {l : List (Nat × Value)} {L : List HProp} {o : Oper} {G : World → Prop} {Q : Exit → Act → World → Prop}
/-- copy that fills a row of one's own out of a slice that is as long or longer -/
theorem Eff.copyFill {dT sT e : TypeId} {by_ b i dLen dCap b' i' m c' : Nat} {d x : Operand} {cs C C' : List Value} {T : TypeId} (ho : o.op = .call { callee := .builtin .copy, args := #[d, x], argTypes := #[dT, sT] }) (ht : slcE P dT = some (e, 1, by_))
    (hd : ev l d = some (.slice (some ⟨b, i, none⟩) dLen dCap)) (hx : ev l x = some (.slice (some ⟨b', i', none⟩) m c')) (hr : ∀ w, Sat W (Blk b C T :: L) w → w.rangeAt b' i' cs) (hcs : cs.length = dLen) (hm : dLen ≤ m)
    (h1 : cs.all (·.oneCell') = true) (hfit : i + dLen ≤ C.length) (hC : C.take i ++ cs ++ C.drop (i + dLen) = C') :
    Eff P W Q n l (Blk b C T :: L) o (One (.int .i64 ((dLen : Nat) : Int)) (Blk b C' T :: L)) := by
  subst hC hcs
  have hmin : Nat.min m cs.length = cs.length := Nat.min_eq_right hm
  have := Eff.copy (P := P) (W := W) (n := n) (l := l) (L := L) (Q := Q) (m := m) (cs := cs) (C := C) (T := T) (b := b) (i := i) (dLen := cs.length) ho ht hd hx (fun w' => rfl) (fun w hs => by
    rw [hmin]
    exact run_firstCells_some w 1 cs.length _ m c' cs (by simp) (cells_range (hr w hs))) h1 (by omega)
  rw [hmin] at this
  exact this
/-- the length of a slice that reads as bytes -/
theorem Val.lenByts {t e : TypeId} {k by_ : Nat} {x : Operand} {v : Value} {bs : List UInt8} (ho : o.op = .call { callee := .builtin .len, args := #[x], argTypes := #[t] }) (ht : slcE P t = some (e, k, by_)) (hx : ev l x = some v)
    (hc : ∀ w, G w → Holds (Byts v bs) w) : Val P n l G o (.int .i64 ((bs.length : Nat) : Int)) := fun a w hf hs => by
  obtain ⟨r, s, -, q, hq⟩ := hc w hs
  cases q with
  | none => obtain ⟨rfl, rfl⟩ := hq; exact Val.len (G := G) ho ht hx a w hf hs
  | some q =>
    obtain ⟨b, i, c, C, T⟩ := q
    obtain ⟨s1, s2, -, -, -, ⟨rfl, -⟩, -⟩ := hq
    exact Val.len (G := G) ho ht hx a w hf hs
/-- an array's address as a slice -/
theorem Val.sliceArr {t : TypeId} {x : Operand} {k b i len : Nat} (ho : o.op = .slice t x none none none) (ht : arrE P t = some (len, k)) (hx : ev l x = some (.pointer (some ⟨b, i, none⟩))) (hlen : 0 < len) : Val P n l G o (.slice (some ⟨b, i, none⟩) len len) := fun a w hf hs => by
  unfold arrE at ht
  cases hu : P.underlying t with
  | none => rw [hu] at ht; cases ht
  | some d =>
    rw [hu] at ht
    cases d with
    | array len' e =>
      simp only at ht
      cases hi : P.info? e with
      | none => rw [hi] at ht; cases ht
      | some inf =>
        rw [hi] at ht
        simp only [Option.map_some, Option.some.injEq, Prod.mk.injEq] at ht
        obtain ⟨rfl, rfl⟩ := ht
        have h0 : len' ≠ 0 := by omega
        simp [execOp, ho, hf.ev hx, Instr.sliceAt, run_underlying hu w, sizeOf, typeInfo, hi, Instr.sureAddr, Instr.sliceBounds, h0, Addr.add_mid]
    | _ => cases ht
/-- a method of values behind a pointer -/
def ptrM (P : Program) (t : TypeId) (name : String) : Bool := match P.info? t with
  | some i => (match i.methods.find? (·.name == name) with | some m => m.path.isEmpty && (match m.func with | some (_, true) => true | _ => false) | none => false)
  | none => false
theorem nilAhead_ptrM {t : TypeId} {name : String} (h : ptrM P t name = true) (v : Value) (k : Nat) (w : World) : (nilAhead (k + 1) t v name).run P w = .ok (some false) w := by
  unfold ptrM at h
  split at h
  · rename_i i hi
    split at h
    · rename_i m hm
      rw [Bool.and_eq_true] at h
      obtain ⟨h1, h2⟩ := h
      have hp : m.path.toList = [] := by simpa using h1
      split at h2
      · rename_i f hf
        unfold nilAhead
        simp [typeInfo, hi, hm, hp, followBlind, hf]
      · cases h2
    · cases h
  · cases h
theorem Val.nilCheckM {x : Operand} {name : String} {t : TypeId} {v : Value} {cs : Array Value} (ho : o.op = .nilCheck x) (hx : ev l x = some (.func (.method name) #[.iface t v] cs)) (hm : ptrM P t name = true) : Val P n l G o (.func (.method name) #[.iface t v] cs) := fun a w hf hs => by
  have hk : P.types.size + Made.depth = (P.types.size + (Made.depth - 1)) + 1 := rfl
  simp [execOp, ho, hf.ev hx, hk, nilAhead_ptrM hm]
/-- the address of a field without bytes, at the head of a block whose cells need not be known -/
theorem Val.muE {s : TypeId} {x : Operand} {f b : Nat} (ho : o.op = .fieldAddr s x f) (ht : mu0 P s f = true) (hx : ev l x = some (.pointer (some ⟨b, 0, none⟩))) (hc : ∀ w, G w → ∃ C, Holds (Blk b C s) w) :
    Val P n l G o (.pointer (some ⟨b, 0, none⟩)) := fun a w hf hs => by
  obtain ⟨C, h⟩ := hc w hs
  exact Val.mu (P := P) (n := n) (l := l) (G := fun w' => Holds (Blk b C s) w') ho ht hx (fun _ h => h) a w hf h
/-- two interface values with the same pointer -/
def ptrC (P : Program) (t : TypeId) : Bool := ptrE P t && match P.info? t with | some i => i.comparable | none => false
theorem equal_ifaceSame {t t1 : TypeId} (ht : isIfc P t = true) (h1 : ptrC P t1 = true) (p : Addr) (w : World) : (Op.equal t (.iface t1 (.pointer (some p))) (.iface t1 (.pointer (some p)))).run P w = .ok true w := by
  unfold ptrC at h1
  rw [Bool.and_eq_true] at h1
  obtain ⟨h1, h2⟩ := h1
  obtain ⟨-, e, i, hu, hi⟩ := ptrE_of h1
  unfold isIfc at ht
  split at ht
  · rename_i ms hm
    split at h2
    · rename_i inf hinf
      have h : Op.maxDepth = 9998 + 1 + 1 := rfl
      unfold Op.equal
      rw [h]
      unfold Op.equalIn
      simp only [Sem.run_bind, run_underlying hm w, Result.andThen_ok, ne_eq, not_true_eq_false, if_false, typeInfo, hinf, h2]
      unfold Op.equalIn
      simp [run_underlying hu w, sizeOf, typeInfo, hi, hinf, h2]
      intro _
      simp [run_sameAddr_same]
    · cases h2
  · cases ht
theorem equal_nilSome {t u : TypeId} {v : Value} (ht : isIfc P t = true) (w : World) : (Op.equal t .nilIface (.iface u v)).run P w = .ok false w := by
  unfold isIfc at ht
  split at ht
  · rename_i e hu
    have h : Op.maxDepth = 9999 + 1 := rfl
    unfold Op.equal
    rw [h]
    unfold Op.equalIn
    simp [run_underlying hu w]
  · cases ht
/-- one error beside itself -/
theorem Val.eqIface {t t1 u : TypeId} {x y : Operand} {p : Addr} (ho : o.op = .binOp .eql t x y u) (ht : isIfc P t = true) (h1 : ptrC P t1 = true) (hx : ev l x = some (.iface t1 (.pointer (some p)))) (hy : ev l y = some (.iface t1 (.pointer (some p)))) : Val P n l G o (.bool true) := fun a w hf hs => by
  simp [execOp, ho, hf.ev hx, hf.ev hy, eqGuard, binOp, equal_ifaceSame ht h1 p w]
theorem Val.eqNilSome {t s u : TypeId} {x y : Operand} {v : Value} (ho : o.op = .binOp .eql t x y u) (ht : isIfc P t = true) (hx : ev l x = some .nilIface) (hy : ev l y = some (.iface s v)) : Val P n l G o (.bool false) := fun a w hf hs => by
  simp [execOp, ho, hf.ev hx, hf.ev hy, eqGuard, binOp, equal_nilSome ht w]
end
/-- a pointer that is nil, or to a block of one cell -/
def PtrO (T : TypeId) (v : Value) (q : Option Value) : HProp := match q with
  | none => Pure (v = .pointer none)
  | some x => Ex fun b : Nat => Sep [Pure (v = .pointer (some ⟨b, 0, none⟩)), Blk b [x] T]
theorem Sat.ptrNil {W w : World} {T : TypeId} {L : List HProp} (h : Sat W L w) : Sat W (PtrO T (.pointer none) none :: L) w := Sat.pure_mk rfl h
theorem Sat.ptrMk {W w : World} {T : TypeId} {L : List HProp} {b : Nat} {x : Value} (h : Sat W (Blk b [x] T :: L) w) : Sat W (PtrO T (.pointer (some ⟨b, 0, none⟩)) (some x) :: L) w := Sat.ex_mk b (Sat.sep_mk (Sat.pure_mk rfl h))
theorem Sat.ptrNone {W w : World} {T : TypeId} {v : Value} {L : List HProp} (h : Sat W (PtrO T v none :: L) w) : v = .pointer none ∧ Sat W L w := ⟨h.pure, h.drop⟩
theorem Sat.ptrSome {W w : World} {T : TypeId} {v x : Value} {L : List HProp} (h : Sat W (PtrO T v (some x) :: L) w) : ∃ b : Nat, Sat W (Pure (v = .pointer (some ⟨b, 0, none⟩)) :: Blk b [x] T :: L) w := by
  obtain ⟨b, h⟩ := h.ex
  exact ⟨b, h.sep⟩
theorem ptr_oneCell {W w : World} {T : TypeId} {v : Value} {q : Option Value} {L : List HProp} (h : Sat W (PtrO T v q :: L) w) : v.oneCell' = true := by
  cases q with
  | none => rw [h.ptrNone.1]; rfl
  | some x => obtain ⟨b, h⟩ := h.ptrSome; rw [h.pure]; rfl
theorem own_slice {w : World} {W : World} {e : TypeId} {k m : Nat} {v : Value} {xs : List Value} {L : List HProp} (h : Sat W (Own e k v m xs :: L) w) : ∃ a c, v = .slice a m c := by
  rcases h.own with ⟨rfl, h1, -, -⟩ | ⟨b, cap, sp, rfl, -⟩
  · subst h1; exact ⟨_, _, rfl⟩
  · exact ⟨_, _, rfl⟩
end Go.Proofs.YthicijpjpijdjaaDoor.Sl
