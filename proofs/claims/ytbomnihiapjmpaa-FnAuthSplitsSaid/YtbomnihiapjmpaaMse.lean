import Derived.Test.YtbomnihiapjmpaaMsd
import Derived.Test.YtbomnihiapjmpaaMsa
namespace Go.Proofs.Ytbomnihiapjmpaa.TD
open Go.RowKit Go.Proofs.Ytbomnihiapjmpaa Go.Proofs.Ytbomnihiapjmpaa.Sl Go.Proofs.Ytbomnihiapjmpaa.TrP Go.Proofs.Ytbomnihiapjmpaa.Tb Go.Proofs.Ytbomnihiapjmpaa.Tc Go.Proofs.Ytbomnihiapjmpaa.Td Go.Proofs.Ytbomnihiapjmpaa.Tk Go.Proofs.Ytbomnihiapjmpaa.Tr Go.Proofs.Ytbomnihiapjmpaa.Ts Go.Proofs.Ytbomnihiapjmpaa.Tt Go.Proofs.Ytbomnihiapjmpaa.Tv Go.Proofs.Ytbomnihiapjmpaa.Tx Go.Proofs.Ytbomnihiapjmpaa.TA Go.Proofs.Ytbomnihiapjmpaa.TB Go.Proofs.Ytbomnihiapjmpaa.TC
set_option linter.unusedVariables false
set_option linter.unusedSimpArgs false
set_option linter.unusedSectionVars false

theorem Does.frame {P : Program} {f : FuncId} {args : List Value} {L : List HProp} {R : Value → List HProp → Prop} (A : HProp) (h : Does P f args L R) : Does P f args (A :: L) (fun v M => ∃ M', R v M' ∧ M = A :: M') := by
  intro W F w hs
  have hs' : Sat W (L ++ (A :: F)) w := hs.perm (List.perm_middle.symm)
  refine (h W (A :: F) w hs').mono ?_
  rintro e w' ⟨v, L', he, hR, hs2⟩
  exact ⟨v, A :: L', he, ⟨L', hR, rfl⟩, hs2.perm List.perm_middle⟩
/-- a tree in memory, and what tree it is -/
structure Rep (k : Int) (q : TQ) (t : T) : Prop where
  z : Z q.s q.root q.S [] t q.root
  rd : t.red = false
  ok : Ok q.s q.EL q.D q.S
  rt : Is q.s q.D q.root
  hE : ∀ e ∈ q.EL, e.t = kt k
  ids : ∀ j ∈ t.ids, j ∈ q.D
  cnt : q.cnt = t.ino.length
  srt : Srt t.ino
  vals : ∀ y ∈ t.ino, y.vt = 3 ∧ ∃ n : Int, y.vu = .int .i64 n
theorem rep_new (k : Int) (tb s : Nat) (S : St) : Rep k ⟨tb, s, s, 0, [], [], S⟩ .leaf :=
  ⟨⟨rfl, rfl, by simp [T.ids, cids]⟩, rfl, ⟨fun {i} h => (List.not_mem_nil h).elim, fun {i} h => (List.not_mem_nil h).elim, fun {i} h => (List.not_mem_nil h).elim, fun {i} h => (List.not_mem_nil h).elim, fun {i} h => (List.not_mem_nil h).elim, fun {i} h => (List.not_mem_nil h).elim⟩, .inl rfl, (fun e h => by cases h), (fun j h => by cases h), rfl, List.Pairwise.nil, fun y hy => by cases hy⟩
/-- what laws say of intervals -/
structure SpOk (k : Int) (x : Sp) : Prop where
  key : x.key.size ≤ 2147483647
  fin : x.fin.size ≤ 2147483647
  k3 : k = 3 → x.one = false ∧ (-2305843009213693952 ≤ x.lo ∧ x.lo ≤ 2305843009213693952) ∧ (-2305843009213693952 ≤ x.hi ∧ x.hi ≤ 2305843009213693952)
theorem tm_open {W w : World} {L : List HProp} {q : TQ} (h : Sat W (TM q :: L) w) : Sat W (Blk q.tb [.pointer (some ⟨q.root, 0, none⟩), .int .i64 q.cnt, .pointer (some ⟨q.s, 0, none⟩)] 180 :: Ens q.EL :: Sto q.S q.D :: Blk q.s ZZ 177 :: L) w := Sat.sep (M := [_, _, _, _]) h
theorem own_nils {W w : World} {L : List HProp} (h : Sat W L w) : Sat W (Own 56 5 (.slice none 0 0) 0 [] :: Own 3 1 (.slice none 0 0) 0 [] :: L) w := Sat.ownNil (Sat.ownNil h)
def noAns : TAns := ⟨false, 0, 0, [], []⟩
/-- the end of a step whose answer has no lists -/
theorem back_nil {W w : World} {A : HProp} {F : List HProp} {tb s root : Nat} {cnt : Int} {EL : List En} {D : List Nat} {S : St} (h : Sat W (A :: Blk tb [.pointer (some ⟨root, 0, none⟩), .int .i64 cnt, .pointer (some ⟨s, 0, none⟩)] 180 :: Ens EL :: Sto S D :: Blk s ZZ 177 :: F) w) : Sat W (A :: TM ⟨tb, s, root, cnt, EL, D, S⟩ :: Own 56 5 (.slice none 0 0) 0 [] :: Own 3 1 (.slice none 0 0) 0 [] :: F) w := by
  have h1 := own_nils h
  exact (tm_mk ((((((h1.perm pl2).perm pl6).perm pl6).perm pl6).perm pl6))).perm (List.Perm.swap _ _ _)
theorem des_is {s z : Nat} {EL : List En} {D : List Nat} {S : St} (ok : Ok s EL D S) : ∀ (k x y : Nat), Is s D x → Is s D y → Is s D (des s S z k x y)
  | 0, x, y, _, hy => hy
  | k + 1, x, y, hx, hy => by
    by_cases h : x = s
    · subst h; rw [des_s]; exact hy
    · rw [des_x h]
      refine des_is ok k _ _ ?_ hx
      split
      · exact ok.l (hx.mem h)
      · exact ok.r (hx.mem h)
theorem hang_ok {s n root z y : Nat} {EL : List En} {D : List Nat} {S : St} (ok : Ok s EL D S) (hz : z ∈ D) (hy : Is s D y) : Ok s EL D (hang s n S root z y).1 := by
  by_cases h : y = s
  · rw [hang_s h]; exact ok.setP hy
  · by_cases h2 : goL S z y
    · rw [hang_l h h2]; exact um_ok _ _ _ ((ok.setP hy).setL (.inr hz)) hy
    · rw [hang_r h h2]; exact um_ok _ _ _ ((ok.setP hy).setR (.inr hz)) hy
theorem hang_root {s n root z y : Nat} {D : List Nat} {S : St} (hr : Is s D root) (hz : z ∈ D) : Is s D (hang s n S root z y).2 := by
  by_cases h : y = s
  · rw [hang_s h]; exact .inr hz
  · by_cases h2 : goL S z y
    · rw [hang_l h h2]; exact hr
    · rw [hang_r h h2]; exact hr
theorem insF_ok {s n k root z : Nat} {EL : List En} {D : List Nat} {S : St} {eb ee : En} {v : TypeId × Value} (ok : Ok s EL D S) (hroot : Is s D root) (heb : eb ∈ EL) (hee : ee ∈ EL) (h : InsOk s n k D S root eb ee v z) : Ok s EL (z :: D) (setC (insF s n k S root eb ee v z).1 (insF s n k S root eb ee v z).2 0) := by
  refine Ok.setC ?_
  have ok1 := Ok.new (z := z) (v := v) ok heb hee
  have ok2 : Ok s EL (z :: D) (insS s n k S root eb ee v z).1 := hang_ok ok1 List.mem_cons_self (des_is ok1 _ _ _ hroot.cons (.inl rfl))
  unfold insF
  exact fx_ok ok2.setC List.mem_cons_self (hang_root hroot.cons List.mem_cons_self) h.fx
theorem op_eta (o : TOp) : (TOp.cells o).toArray = #[.int .i64 o.k, .string o.x.key, .string o.x.fin, .bool (o.x.one), .int .i64 (o.x.lo), .int .i64 (o.x.hi), .int .i64 (o.val), .int .i64 (o.lim), o.ov, o.wv] := rfl
/-- an interval is put in -/
theorem step_ins (A : HProp) (k : Int) (x : Sp) (hx : SpOk k x) (val lim : Int) (ov wv : Value) (hov : ov.oneCell' = true) (hwv : wv.oneCell' = true) (q : TQ) (t : T) (hq : Rep k q t) (hc : t.ino.length < 1000000) :
    Does Try.prog 66 [.iface 178 (.pointer (some ⟨q.tb, 0, none⟩)), .int .i64 k, .agg (TOp.cells ⟨1, x, val, lim, ov, wv⟩).toArray] [A, TM q]
      (fun v L => ∃ (q' : TQ) (z : Nat) (eb ee : En), Rep k q' (insT z ⟨eb, ee, 3, .int .i64 val⟩ t) ∧ eb.k = kB k x ∧ ee.k = kE k x ∧ q'.tb = q.tb ∧ v = .agg #[.bool false, .int .i64 0, .int .i64 0, .slice none 0 0, .slice none 0 0] ∧ L = [A, TM q', Own 56 5 (.slice none 0 0) 0 [], Own 3 1 (.slice none 0 0) 0 []]) := by
  obtain ⟨hz, hrd, ok, hrt, hE, hids, hcnt, hsrt, hvals⟩ := hq
  have hio : ∀ eb ee : En, eb.k = kB k x → ee.k = kE k x → ∀ z, z ∉ q.D → z ≠ q.s → InsOk q.s (t.depth + 2) t.depth q.D q.S q.root eb ee (3, .int .i64 val) z := fun eb ee _ _ z hz1 hz2 =>
    (ins_spec (EL := eb :: ee :: q.EL) (v := (3, .int .i64 val)) (n := t.depth + 2) hz hrd (Ok.mono ok (fun e he => List.mem_cons_of_mem _ (List.mem_cons_of_mem _ he))) hrt List.mem_cons_self (List.mem_cons_of_mem _ List.mem_cons_self) hz2 (fun h => hz1 (hids _ h)) hids (Nat.le_refl _) (by omega)).1
  have h := treed_ins k x hx.key hx.fin hx.k3 val lim ov wv hov hwv q.EL hE q.s q.D ZZ q.tb q.root q.cnt ⟨by omega, by omega⟩ q.S ok hrt (t.depth + 2) t.depth hio
  refine Does.conv (M := [A, _, _, _, _]) (fun W w F h => ?_) (((Does.frame A h)).mono ?_)
  · exact (tm_open (h.perm (List.Perm.swap _ _ _))).perm pl4
  · rintro v L ⟨M, ⟨eb, ee, z, hv, hbt, het, hb, he, hz1, hz2, rfl⟩, rfl⟩
    have hs := ins_spec (EL := eb :: ee :: q.EL) (v := (3, .int .i64 val)) (n := t.depth + 2) hz hrd (Ok.mono ok (fun e he => List.mem_cons_of_mem _ (List.mem_cons_of_mem _ he))) hrt List.mem_cons_self (List.mem_cons_of_mem _ List.mem_cons_self) hz2 (fun h => hz1 (hids _ h)) hids (Nat.le_refl _) (by omega)
    refine ⟨[A, TM ⟨q.tb, q.s, (insF q.s (t.depth + 2) t.depth q.S q.root eb ee (3, .int .i64 val) z).2, q.cnt + 1, eb :: ee :: q.EL, z :: q.D, setC (insF q.s (t.depth + 2) t.depth q.S q.root eb ee (3, .int .i64 val) z).1 (insF q.s (t.depth + 2) t.depth q.S q.root eb ee (3, .int .i64 val) z).2 0⟩, Own 56 5 (.slice none 0 0) 0 [], Own 3 1 (.slice none 0 0) 0 []],
      ⟨⟨q.tb, q.s, (insF q.s (t.depth + 2) t.depth q.S q.root eb ee (3, .int .i64 val) z).2, q.cnt + 1, eb :: ee :: q.EL, z :: q.D, setC (insF q.s (t.depth + 2) t.depth q.S q.root eb ee (3, .int .i64 val) z).1 (insF q.s (t.depth + 2) t.depth q.S q.root eb ee (3, .int .i64 val) z).2 0⟩, z, eb, ee, ⟨hs.2, insT_red, insF_ok (Ok.mono ok (fun e he => List.mem_cons_of_mem _ (List.mem_cons_of_mem _ he))) hrt List.mem_cons_self (List.mem_cons_of_mem _ List.mem_cons_self) hs.1, .inr hs.1.last, ?_, ?_, ?_, ?_, ?_⟩, hb, he, rfl, hv, rfl⟩, fun W w F h => back_nil h⟩
    · intro e he
      rcases List.mem_cons.1 he with rfl | he
      · exact hbt
      · rcases List.mem_cons.1 he with rfl | he
        · exact het
        · exact hE e he
    · intro j hj
      rcases insT_ids hj with rfl | hj
      · exact List.mem_cons_self
      · exact List.mem_cons_of_mem _ (hids _ hj)
    · rw [insT_len hsrt, hcnt]; rfl
    · rw [insT_ino hsrt]; exact putI_srt hsrt
    · intro y hy
      rw [insT_ino hsrt] at hy
      rcases putI_mem.1 hy with rfl | hy
      · exact ⟨rfl, val, rfl⟩
      · exact hvals y hy
/-- the tree with two more ends known -/
theorem rep_ens {k : Int} {q : TQ} {t : T} (hq : Rep k q t) {eb ee : En} (hb : eb.t = kt k) (he : ee.t = kt k) : Rep k ⟨q.tb, q.s, q.root, q.cnt, eb :: ee :: q.EL, q.D, q.S⟩ t := by
  obtain ⟨hz, hrd, ok, hrt, hE, hids, hcnt, hsrt, hvals⟩ := hq
  refine ⟨hz, hrd, Ok.mono ok (fun e he => List.mem_cons_of_mem _ (List.mem_cons_of_mem _ he)), hrt, ?_, hids, hcnt, hsrt, hvals⟩
  intro e he'
  rcases List.mem_cons.1 he' with rfl | he'
  · exact hb
  · rcases List.mem_cons.1 he' with rfl | he'
    · exact he
    · exact hE e he'
/-- is there one that an interval meets? -/
theorem step_isect (A : HProp) (k : Int) (x : Sp) (hx : SpOk k x) (val lim : Int) (ov wv : Value) (hov : ov.oneCell' = true) (hwv : wv.oneCell' = true) (q : TQ) (t : T) (hq : Rep k q t) :
    Does Try.prog 66 [.iface 178 (.pointer (some ⟨q.tb, 0, none⟩)), .int .i64 k, .agg (TOp.cells ⟨6, x, val, lim, ov, wv⟩).toArray] [A, TM q]
      (fun v L => ∃ (q' : TQ), Rep k q' t ∧ q'.tb = q.tb ∧ v = .agg #[.bool (isect (kB k x) (kE k x) t), .int .i64 0, .int .i64 0, .slice none 0 0, .slice none 0 0] ∧ L = [A, TM q', Own 56 5 (.slice none 0 0) 0 [], Own 3 1 (.slice none 0 0) 0 []]) := by
  have h := treed_isect k x hx.key hx.fin hx.k3 val lim ov wv hov hwv q.EL hq.hE q.s q.D ZZ q.tb q.root q.cnt q.S hq.ok hq.rt t hq.z.rm
  refine Does.conv (M := [A, _, _, _, _]) (fun W w F h => ?_) (((Does.frame A h)).mono ?_)
  · exact (tm_open (h.perm (List.Perm.swap _ _ _))).perm pl4
  · rintro v L ⟨M, ⟨eb, ee, hv, hbt, het, rfl⟩, rfl⟩
    exact ⟨_, ⟨_, rep_ens hq hbt het, rfl, hv, rfl⟩, fun W w F h => back_nil h⟩
/-- an interval is not found -/
theorem step_find0 (A : HProp) (k : Int) (x : Sp) (hx : SpOk k x) (val lim : Int) (ov wv : Value) (hov : ov.oneCell' = true) (hwv : wv.oneCell' = true) (q : TQ) (t : T) (hq : Rep k q t) (hf : fnd (kB k x) (kE k x) t = none) :
    Does Try.prog 66 [.iface 178 (.pointer (some ⟨q.tb, 0, none⟩)), .int .i64 k, .agg (TOp.cells ⟨3, x, val, lim, ov, wv⟩).toArray] [A, TM q]
      (fun v L => ∃ (q' : TQ), Rep k q' t ∧ q'.tb = q.tb ∧ v = .agg #[.bool false, .int .i64 0, .int .i64 0, .slice none 0 0, .slice none 0 0] ∧ L = [A, TM q', Own 56 5 (.slice none 0 0) 0 [], Own 3 1 (.slice none 0 0) 0 []]) := by
  have h := treed_find0 k x hx.key hx.fin hx.k3 val lim ov wv hov hwv q.EL hq.hE q.s q.D ZZ q.tb q.root q.cnt q.S hq.ok hq.rt t hq.z.rm hf
  refine Does.conv (M := [A, _, _, _, _]) (fun W w F h => ?_) (((Does.frame A h)).mono ?_)
  · exact (tm_open (h.perm (List.Perm.swap _ _ _))).perm pl4
  · rintro v L ⟨M, ⟨eb, ee, hv, hbt, het, rfl⟩, rfl⟩
    exact ⟨_, ⟨_, rep_ens hq hbt het, rfl, hv, rfl⟩, fun W w F h => back_nil h⟩
def spk (b e : Ky) : Sp := ⟨txt b, txt e, false, b.n, e.n⟩
theorem spo_spk (b e : En) : spo b e = Sp.cells (spk b.k e.k) := rfl
theorem RM_find {s : Nat} {S : St} {ib ie : Ky} : ∀ {t : T} {q p i : Nat}, RM s S t q p → fnd ib ie t = some i → i ≠ s ∧ ∃ y ∈ t.ino, (S i).it = y ∧ y.b.k = ib ∧ y.e.k = ie
  | .leaf, _, _, _, _, hf => by cases hf
  | .node j l x c r, q, p, i, h, hf => by
    obtain ⟨h1, h2, h3, h4, h5, h6, h7, h8⟩ := h
    by_cases hk : kcmp ib x.b.k = 0 ∧ kcmp ie x.e.k = 0
    · rw [fnd_y hk.1 hk.2] at hf
      obtain rfl : j = i := by injection hf
      exact ⟨h2, x, List.mem_append_right _ List.mem_cons_self, h3, (kcmp_eq.1 hk.1).symm, (kcmp_eq.1 hk.2).symm⟩
    · by_cases hg : goK ib ie x.b.k x.e.k
      · rw [fnd_l hk hg] at hf
        obtain ⟨g1, y, hy, g2⟩ := RM_find h7 hf
        exact ⟨g1, y, List.mem_append_left _ hy, g2⟩
      · rw [fnd_r hk hg] at hf
        obtain ⟨g1, y, hy, g2⟩ := RM_find h8 hf
        exact ⟨g1, y, List.mem_append_right _ (List.mem_cons_of_mem _ hy), g2⟩
theorem back_lists {W w : World} {A : HProp} {F : List HProp} {tb s root : Nat} {cnt : Int} {EL : List En} {D : List Nat} {S : St} {P Q : HProp} (h : Sat W (A :: Blk tb [.pointer (some ⟨root, 0, none⟩), .int .i64 cnt, .pointer (some ⟨s, 0, none⟩)] 180 :: Ens EL :: Sto S D :: Blk s ZZ 177 :: P :: Q :: F) w) : Sat W (A :: TM ⟨tb, s, root, cnt, EL, D, S⟩ :: P :: Q :: F) w :=
  (tm_mk (((((h.perm pl4).perm pl4).perm pl4).perm pl4))).perm (List.Perm.swap _ _ _)
/-- an interval is found -/
theorem step_find1 (A : HProp) (k : Int) (x : Sp) (hx : SpOk k x) (val lim : Int) (ov wv : Value) (hov : ov.oneCell' = true) (hwv : wv.oneCell' = true) (q : TQ) (t : T) (hq : Rep k q t) (i : Nat) (hf : fnd (kB k x) (kE k x) t = some i) :
    Does Try.prog 66 [.iface 178 (.pointer (some ⟨q.tb, 0, none⟩)), .int .i64 k, .agg (TOp.cells ⟨3, x, val, lim, ov, wv⟩).toArray] [A, TM q]
      (fun v L => ∃ (q' : TQ) (y : It) (n : Int) (lv vv : Value), Rep k q' t ∧ q'.tb = q.tb ∧ y ∈ t.ino ∧ y.b.k = kB k x ∧ y.e.k = kE k x ∧ y.vu = .int .i64 n ∧ v = .agg #[.bool true, .int .i64 0, .int .i64 0, lv, vv] ∧ L = [A, TM q', Own 56 5 lv [spk (kB k x) (kE k x)].length (flatOf Sp.cells [spk (kB k x) (kE k x)]), Own 3 1 vv [n].length (flatOf iv [n])]) := by
  obtain ⟨his, y, hy, hyi, hyb, hye⟩ := RM_find hq.z.rm hf
  obtain ⟨hvt, n, hvu⟩ := hq.vals y hy
  have h := treed_find k x hx.key hx.fin hx.k3 val lim ov wv hov hwv q.EL hq.hE q.s q.D ZZ q.tb q.root q.cnt q.S hq.ok hq.rt t hq.z.rm i hf his (hq.ids _ (fnd_ids hf)) n (by rw [hyi]; show Value.iface y.vt y.vu = _; rw [hvt, hvu])
  refine Does.conv (M := [A, _, _, _, _]) (fun W w F h => ?_) (((Does.frame A h)).mono ?_)
  · exact (tm_open (h.perm (List.Perm.swap _ _ _))).perm pl4
  · rintro v L ⟨M, ⟨eb, ee, l2, v2, hv, hbt, het, rfl⟩, rfl⟩
    refine ⟨_, ⟨_, y, n, l2, v2, rep_ens hq hbt het, rfl, hy, hyb, hye, hvu, hv, rfl⟩, fun W w F h => ?_⟩
    rw [spo_spk, hyi, hyb, hye] at h
    exact back_lists h
end Go.Proofs.Ytbomnihiapjmpaa.TD

namespace Go.Proofs.Ytbomnihiapjmpaa.Aa
open Go.RowKit Go.Proofs.Ytbomnihiapjmpaa Go.Proofs.Ytbomnihiapjmpaa.Sl Go.Proofs.Ytbomnihiapjmpaa.TrP Go.Proofs.Ytbomnihiapjmpaa.Tb Go.Proofs.Ytbomnihiapjmpaa.Tc Go.Proofs.Ytbomnihiapjmpaa.Td Go.Proofs.Ytbomnihiapjmpaa.Te Go.Proofs.Ytbomnihiapjmpaa.Tk Go.Proofs.Ytbomnihiapjmpaa.Tl Go.Proofs.Ytbomnihiapjmpaa.Tm
set_option linter.unusedVariables false
set_option linter.unusedSimpArgs false
set_option linter.unusedSectionVars false


/-- a method of values that are no pointers -/
def valM (P : Program) (t : TypeId) (name : String) : Bool := match P.info? t with
  | some i => (match i.methods.find? (·.name == name) with | some m => m.path.isEmpty && (match m.func with | some (_, false) => true | _ => false) | none => false) && (match P.underlying t with | some (.pointer _) => false | some _ => true | none => false)
  | none => false
def NilOk (P : Program) (t : TypeId) (name : String) : Prop := ∀ (v : Value) (k : Nat) (w : World), (nilAhead (k + 1) t v name).run P w = .ok (some false) w
theorem nilOk_valM {P : Program} {t : TypeId} {name : String} (h : valM P t name = true) : NilOk P t name := by
  intro v k w
  unfold valM at h
  split at h
  · rename_i i hi
    rw [Bool.and_eq_true] at h
    obtain ⟨h, hu⟩ := h
    split at h
    · rename_i m hm
      rw [Bool.and_eq_true] at h
      obtain ⟨h1, h2⟩ := h
      have hp : m.path.toList = [] := by simpa using h1
      split at h2
      · rename_i f hf
        cases hun : P.underlying t with
        | none => rw [hun] at hu; cases hu
        | some d =>
          rw [hun] at hu
          have hr := run_underlying hun w
          unfold nilAhead
          cases d <;> first | (simp at hu; done) | (simp [typeInfo, hi, hm, hp, followBlind, hf, hr])
      · cases h2
    · cases h
  · cases h
theorem Val.nilCheckN {P : Program} {n : Nat} {l : List (Nat × Value)} {G : World → Prop} {o : Oper} {x : Operand} {name : String} {t : TypeId} {v : Value} {cs : Array Value} (ho : o.op = .nilCheck x) (hx : ev l x = some (.func (.method name) #[.iface t v] cs)) (hm : NilOk P t name) : Val P n l G o (.func (.method name) #[.iface t v] cs) := fun a w hf hs => by
  have hk : P.types.size + Made.depth = (P.types.size + (Made.depth - 1)) + 1 := rfl
  have hm2 := hm v (P.types.size + (Made.depth - 1)) w
  simp [execOp, ho, hf.ev hx, hk, hm2]
/-- the state of Contains: the least beginning, the greatest end; does all hang together? -/
structure CS where
  o : Option (En × En)
  c : Bool
def CS.mb (q : CS) : Value := match q.o with | none => .nilIface | some p => .iface p.1.t p.1.u
def CS.xb (q : CS) : Value := match q.o with | none => .nilIface | some p => .iface p.2.t p.2.u
def CSP (mb xb cb : Nat) (q : CS) : HProp := Sep [Blk mb [q.mb] 170, Blk xb [q.xb] 170, Blk cb [.bool q.c] 4]
def stepE (q : CS) (b e : En) : CS × Bool := match q.o with
  | none => (⟨some (b, e), q.c⟩, true)
  | some (m, x) => if kcmp x.k b.k < 0 then (⟨some (m, x), false⟩, false) else if 0 < kcmp e.k x.k then (⟨some (m, e), q.c⟩, true) else (q, true)
def stepC (S : St) (D : List Nat) (q : CS) (i : Nat) : CS × Bool := if i ∈ D then stepE q (S i).it.b (S i).it.e else (q, true)
def preC (EL : List En) (_ : Nat) (q : CS) : Prop := ∀ m x, q.o = some (m, x) → m ∈ EL ∧ x ∈ EL
theorem stepE_ok {EL : List En} {q : CS} {b e : En} (h : preC EL 0 q) (hb : b ∈ EL) (he : e ∈ EL) : preC EL 0 (stepE q b e).1 := by
  unfold stepE
  split
  · intro m x hq
    injection hq with hq; injection hq with h1 h2; subst h1 h2; exact ⟨hb, he⟩
  · rename_i m x hq
    split
    · intro m' x' hq'
      injection hq' with hq'; injection hq' with h1 h2; subst h1 h2; exact h _ _ hq
    · split
      · intro m' x' hq'
        injection hq' with hq'; injection hq' with h1 h2; subst h1 h2; exact ⟨(h _ _ hq).1, he⟩
      · exact h
theorem hpreC {s : Nat} {EL : List En} {D : List Nat} {S : St} (ok : Ok s EL D S) : Pre (stepC S D) (preC EL) := ⟨fun {m q i} h => by
  unfold stepC
  split
  · rename_i hi; exact stepE_ok h (ok.b hi) (ok.e hi)
  · exact h⟩
theorem cs_open {W w : World} {L : List HProp} {mb xb cb : Nat} {q : CS} (h : Sat W (CSP mb xb cb q :: L) w) : Sat W (Blk mb [q.mb] 170 :: Blk xb [q.xb] 170 :: Blk cb [.bool q.c] 4 :: L) w := Sat.sep (M := [_, _, _]) h
theorem cs_mk {W w : World} {L : List HProp} {mb xb cb : Nat} (q : CS) (h : Sat W (Blk mb [q.mb] 170 :: Blk xb [q.xb] 170 :: Blk cb [.bool q.c] 4 :: L) w) : Sat W (CSP mb xb cb q :: L) w := Sat.sep_mk (M := [_, _, _]) h
set_option maxRecDepth 100000 in
set_option maxHeartbeats 2000000 in
theorem c1_none (EL : List En) (t0 : TypeId) (hE : ∀ e ∈ EL, e.t = t0) (s : Nat) (D : List Nat) (ZC : List Value) (S : St) (ok : Ok s EL D S) (mb xb cb i : Nat) (hi : i ∈ D) (c : Bool) : Does Try.prog 145 [.pointer (some ⟨i, 0, none⟩), .pointer (some ⟨mb, 0, none⟩), .pointer (some ⟨xb, 0, none⟩), .pointer (some ⟨cb, 0, none⟩)] [Ens EL, Sto S D, Blk s ZC 177, Blk mb [.nilIface] 170, Blk xb [.nilIface] 170, Blk cb [.bool (c)] 4] (fun v L => v = .bool true ∧ L = [Ens EL, Sto S D, Blk s ZC 177, Blk mb [.iface ((S i).it.b).t (((S i).it.b).u)] 170, Blk xb [.iface ((S i).it.e).t (((S i).it.e).u)] 170, Blk cb [.bool c] 4]) := by
  refine Does.enter 42 Try.func145 rfl rfl rfl fun W F => ?_
  show WPc _ _ _ _ _ [(0, .pointer (some ⟨i, 0, none⟩)), (1, .pointer (some ⟨mb, 0, none⟩)), (2, .pointer (some ⟨xb, 0, none⟩)), (3, .pointer (some ⟨cb, 0, none⟩))] (Ens EL :: Sto S D :: Blk s ZC 177 :: Blk mb [.nilIface] 170 :: Blk xb [.nilIface] 170 :: Blk cb [.bool (c)] 4 :: F)
  refine WPc.seq ?_
  refine WPc.region ?_
  refine WP.val rfl rfl rfl (Val.assign rfl rfl) ?_
  refine WP.nil ?_
  refine Out.next ?_
  refine WPc.seq ?_
  refine WPc.seq ?_
  refine WPc.region ?_
  refine WP.val rfl rfl rfl (Val.load rfl Ty.sc170 rfl (fun w h => h.cell 3 rfl rfl)) ?_
  refine WP.val rfl rfl rfl (Val.nilI rfl Ty.if170 rfl) ?_
  refine WP.nil ?_
  refine Out.next ?_
  refine WPc.condT rfl rfl ?_
  refine WPc.seq ?_
  refine WPc.region ?_
  refine WP.val rfl rfl rfl (Val.move rfl rfl) ?_
  refine WP.val rfl rfl rfl (Val.nilCheck rfl rfl) ?_
  refine WP.val rfl rfl rfl (Val.fieldAddr (j := 0) rfl Ty.fo174_0 rfl rfl) ?_
  refine WP.val rfl rfl rfl (Val.fieldAddr (j := 0) rfl Ty.fo172_0 rfl rfl) ?_
  refine WP.val rfl rfl rfl (Val.load (v := .iface ((S i).it.b).t (((S i).it.b).u)) rfl Ty.sc170 rfl (fun w h => sto_b (h.at 1 rfl) hi rfl)) ?_
  refine WP.perm pl3 ?_
  refine WP.eff0 rfl rfl (Eff.store rfl Ty.sc170 rfl rfl rfl (by simp) st0) ?_
  rintro _ _ rfl
  refine WP.nil ?_
  refine Out.next ?_
  refine WPc.seq ?_
  refine WPc.region ?_
  refine WP.val rfl rfl rfl (Val.move rfl rfl) ?_
  refine WP.val rfl rfl rfl (Val.nilCheck rfl rfl) ?_
  refine WP.val rfl rfl rfl (Val.fieldAddr (j := 0) rfl Ty.fo174_0 rfl rfl) ?_
  refine WP.val rfl rfl rfl (Val.fieldAddr (j := 1) rfl Ty.fo172_1 rfl rfl) ?_
  refine WP.val rfl rfl rfl (Val.load (v := .iface ((S i).it.e).t (((S i).it.e).u)) rfl Ty.sc170 rfl (fun w h => sto_e (h.at 2 rfl) hi rfl)) ?_
  refine WP.perm pl4 ?_
  refine WP.eff0 rfl rfl (Eff.store rfl Ty.sc170 rfl rfl rfl (by simp) st0) ?_
  rintro _ _ rfl
  refine WP.nil ?_
  refine Out.next ?_
  refine WPc.seq ?_
  refine WPc.region ?_
  refine WP.val rfl rfl rfl (Val.assign rfl rfl) ?_
  refine WP.nil ?_
  refine Out.next ?_
  refine WPc.ret ?_
  refine Out.then_ret ?_
  refine Out.perm pl5 ?_
  refine Out.perm pl1 ?_
  refine Out.perm pl2 ?_
  refine Out.perm pl5 ?_
  refine Out.perm pl5 ?_
  refine Out.perm pl5 ?_
  exact Out.ret1 (L' := _) Try.results145 rfl ⟨rfl, rfl⟩ (fun _ h => h)
set_option maxRecDepth 100000 in
set_option maxHeartbeats 2000000 in
theorem c1_some (EL : List En) (t0 : TypeId) (hE : ∀ e ∈ EL, e.t = t0) (s : Nat) (D : List Nat) (ZC : List Value) (S : St) (ok : Ok s EL D S) (mb xb cb i : Nat) (hi : i ∈ D) (c : Bool) (hpm : NilOk Try.prog t0 "Compare") (m x : En) (hm : m ∈ EL) (hxx : x ∈ EL) : Does Try.prog 145 [.pointer (some ⟨i, 0, none⟩), .pointer (some ⟨mb, 0, none⟩), .pointer (some ⟨xb, 0, none⟩), .pointer (some ⟨cb, 0, none⟩)] [Ens EL, Sto S D, Blk s ZC 177, Blk mb [.iface m.t (m.u)] 170, Blk xb [.iface x.t (x.u)] 170, Blk cb [.bool (c)] 4] (fun v L => (kcmp x.k (S i).it.b.k < 0 ∧ v = .bool false ∧ L = [Ens EL, Sto S D, Blk s ZC 177, Blk mb [.iface m.t (m.u)] 170, Blk xb [.iface x.t (x.u)] 170, Blk cb [.bool false] 4]) ∨ (¬ kcmp x.k (S i).it.b.k < 0 ∧ 0 < kcmp (S i).it.e.k x.k ∧ v = .bool true ∧ L = [Ens EL, Sto S D, Blk s ZC 177, Blk mb [.iface m.t (m.u)] 170, Blk xb [.iface ((S i).it.e).t (((S i).it.e).u)] 170, Blk cb [.bool c] 4]) ∨ (¬ kcmp x.k (S i).it.b.k < 0 ∧ ¬ 0 < kcmp (S i).it.e.k x.k ∧ v = .bool true ∧ L = [Ens EL, Sto S D, Blk s ZC 177, Blk mb [.iface m.t (m.u)] 170, Blk xb [.iface x.t (x.u)] 170, Blk cb [.bool c] 4])) := by
  refine Does.enter 42 Try.func145 rfl rfl rfl fun W F => ?_
  show WPc _ _ _ _ _ [(0, .pointer (some ⟨i, 0, none⟩)), (1, .pointer (some ⟨mb, 0, none⟩)), (2, .pointer (some ⟨xb, 0, none⟩)), (3, .pointer (some ⟨cb, 0, none⟩))] (Ens EL :: Sto S D :: Blk s ZC 177 :: Blk mb [.iface m.t (m.u)] 170 :: Blk xb [.iface x.t (x.u)] 170 :: Blk cb [.bool (c)] 4 :: F)
  refine WPc.seq ?_
  refine WPc.region ?_
  refine WP.val rfl rfl rfl (Val.assign rfl rfl) ?_
  refine WP.nil ?_
  refine Out.next ?_
  refine WPc.seq ?_
  refine WPc.seq ?_
  refine WPc.region ?_
  refine WP.val rfl rfl rfl (Val.load rfl Ty.sc170 rfl (fun w h => h.cell 3 rfl rfl)) ?_
  refine WP.val rfl rfl rfl (Val.someI rfl Ty.if170 rfl) ?_
  refine WP.nil ?_
  refine Out.next ?_
  refine WPc.condF rfl rfl ?_
  refine WPc.skip ?_
  refine Out.next ?_
  refine WPc.seq ?_
  refine WPc.seq ?_
  refine WPD.start (Sat W (Ens EL :: Sto S D :: Blk s ZC 177 :: Blk mb [.iface m.t (m.u)] 170 :: Blk xb [.iface x.t (x.u)] 170 :: Blk cb [.bool (c)] 4 :: F)) Ty.mixed ?_
  refine WPD.take 0 rfl rfl rfl rfl (by kernel_rfl) (by kernel_rfl) (by kernel_rfl) (by kernel_rfl) (fun _ _ _ h => h) (by kernel_rfl) (fun _ h => h) (Val.load rfl Ty.sc170 rfl (fun w h => h.cell 4 rfl rfl)) ?_
  refine WPD.takeM 1 rfl rfl rfl rfl (by kernel_rfl) (by kernel_rfl) (by kernel_rfl) (by kernel_rfl) (fun _ _ _ h => h) (fun _ h => h) (Val.move rfl rfl) ?_
  refine WPD.takeM 2 rfl rfl rfl rfl (by kernel_rfl) (by kernel_rfl) (by kernel_rfl) (by kernel_rfl) (fun _ _ _ h => h) (fun _ h => h) (Val.nilCheck rfl rfl) ?_
  refine WPD.takeM 3 rfl rfl rfl rfl (by kernel_rfl) (by kernel_rfl) (by kernel_rfl) (by kernel_rfl) (fun _ _ _ h => h) (fun _ h => h) (Val.fieldAddr (j := 0) rfl Ty.fo174_0 rfl rfl) ?_
  refine WPD.takeM 4 rfl rfl rfl rfl (by kernel_rfl) (by kernel_rfl) (by kernel_rfl) (by kernel_rfl) (fun _ _ _ h => h) (fun _ h => h) (Val.fieldAddr (j := 0) rfl Ty.fo172_0 rfl rfl) ?_
  refine WPD.take 5 rfl rfl rfl rfl (by kernel_rfl) (by kernel_rfl) (by kernel_rfl) (by kernel_rfl) (fun _ _ _ h => h) (by kernel_rfl) (fun _ h => h) (Val.load (v := .iface ((S i).it.b).t (((S i).it.b).u)) rfl Ty.sc170 rfl (fun w h => sto_b (h.at 1 rfl) hi rfl)) ?_
  refine WPD.take 6 rfl rfl rfl rfl (by kernel_rfl) (by kernel_rfl) (by kernel_rfl) (by kernel_rfl) (fun _ _ _ h => h) (by kernel_rfl) (fun _ h => h) (Val.mkFunc rfl rfl rfl) ?_
  refine WPD.takeM 7 rfl rfl rfl rfl (by kernel_rfl) (by kernel_rfl) (by kernel_rfl) (by kernel_rfl) (fun _ _ _ h => h) (fun _ h => h) (Val.nilCheckN rfl rfl (by rw [hE _ hxx]; exact hpm)) ?_
  refine WPD.takeM 8 rfl rfl rfl rfl (by kernel_rfl) (by kernel_rfl) (by kernel_rfl) (by kernel_rfl) (fun _ _ _ h => h) (fun _ h => h) (Val.move rfl rfl) ?_
  refine WPD.stepC 9 (by kernel_rfl) rfl rfl rfl rfl (by kernel_rfl) (Eff.cmp (a := x) (b := (S i).it.b) rfl rfl rfl hxx (Ok.b ok hi) ((hE _ hxx).trans (hE _ (Ok.b ok hi)).symm)) ?_
  rintro _ _ ⟨rfl, rfl⟩
  refine ⟨(Sat W (Ens EL :: Sto S D :: Blk s ZC 177 :: Blk mb [.iface m.t (m.u)] 170 :: Blk xb [.iface x.t (x.u)] 170 :: Blk cb [.bool (c)] 4 :: F)), (fun _ h => h), ?_⟩
  refine WPD.takeM 10 rfl rfl rfl rfl (by kernel_rfl) (by kernel_rfl) (by kernel_rfl) (by kernel_rfl) (fun _ _ _ h => h) (fun _ h => h) (Val.lss rfl rfl rfl) ?_
  refine WPD.done (by kernel_rfl) ?_
  refine Out.next ?_
  refine WPc.ifP rfl (fun h1 => ?_) (fun h1 => ?_)
  · skip
    have h1 : ((kcmp x.k ((S i).it.b).k) < (0 : Int)) := h1
    refine WPc.seq ?_
    refine WPc.region ?_
    refine WP.perm pl5 ?_
    refine WP.eff0 rfl rfl (Eff.store rfl Ty.sc4 rfl rfl rfl (by simp) st0) ?_
    rintro _ _ rfl
    refine WP.nil ?_
    refine Out.next ?_
    refine WPc.seq ?_
    refine WPc.region ?_
    refine WP.val rfl rfl rfl (Val.assign rfl rfl) ?_
    refine WP.nil ?_
    refine Out.next ?_
    refine WPc.ret ?_
    refine Out.then_ret ?_
    refine Out.perm pl5 ?_
    refine Out.perm pl5 ?_
    refine Out.perm pl5 ?_
    refine Out.perm pl5 ?_
    refine Out.perm pl5 ?_
    exact Out.ret1 (L' := _) Try.results145 rfl (.inl ⟨(by assumption), rfl, rfl⟩) (fun _ h => h)
  · skip
    have h1 : ¬ ((kcmp x.k ((S i).it.b).k) < (0 : Int)) := h1
    refine WPc.skip ?_
    refine Out.next ?_
    refine WPc.seq ?_
    refine WPc.seq ?_
    refine WPD.start (Sat W (Ens EL :: Sto S D :: Blk s ZC 177 :: Blk mb [.iface m.t (m.u)] 170 :: Blk xb [.iface x.t (x.u)] 170 :: Blk cb [.bool (c)] 4 :: F)) Ty.mixed ?_
    refine WPD.takeM 0 rfl rfl rfl rfl (by kernel_rfl) (by kernel_rfl) (by kernel_rfl) (by kernel_rfl) (fun _ _ _ h => h) (fun _ h => h) (Val.move rfl rfl) ?_
    refine WPD.takeM 1 rfl rfl rfl rfl (by kernel_rfl) (by kernel_rfl) (by kernel_rfl) (by kernel_rfl) (fun _ _ _ h => h) (fun _ h => h) (Val.nilCheck rfl rfl) ?_
    refine WPD.takeM 2 rfl rfl rfl rfl (by kernel_rfl) (by kernel_rfl) (by kernel_rfl) (by kernel_rfl) (fun _ _ _ h => h) (fun _ h => h) (Val.fieldAddr (j := 0) rfl Ty.fo174_0 rfl rfl) ?_
    refine WPD.takeM 3 rfl rfl rfl rfl (by kernel_rfl) (by kernel_rfl) (by kernel_rfl) (by kernel_rfl) (fun _ _ _ h => h) (fun _ h => h) (Val.fieldAddr (j := 1) rfl Ty.fo172_1 rfl rfl) ?_
    refine WPD.take 4 rfl rfl rfl rfl (by kernel_rfl) (by kernel_rfl) (by kernel_rfl) (by kernel_rfl) (fun _ _ _ h => h) (by kernel_rfl) (fun _ h => h) (Val.load (v := .iface ((S i).it.e).t (((S i).it.e).u)) rfl Ty.sc170 rfl (fun w h => sto_e (h.at 1 rfl) hi rfl)) ?_
    refine WPD.take 5 rfl rfl rfl rfl (by kernel_rfl) (by kernel_rfl) (by kernel_rfl) (by kernel_rfl) (fun _ _ _ h => h) (by kernel_rfl) (fun _ h => h) (Val.load rfl Ty.sc170 rfl (fun w h => h.cell 4 rfl rfl)) ?_
    refine WPD.stepC 6 (by kernel_rfl) rfl rfl rfl rfl (by kernel_rfl) (Eff.cmp (a := (S i).it.e) (b := x) rfl rfl rfl (Ok.e ok hi) hxx ((hE _ (Ok.e ok hi)).trans (hE _ hxx).symm)) ?_
    rintro _ _ ⟨rfl, rfl⟩
    refine ⟨(Sat W (Ens EL :: Sto S D :: Blk s ZC 177 :: Blk mb [.iface m.t (m.u)] 170 :: Blk xb [.iface x.t (x.u)] 170 :: Blk cb [.bool (c)] 4 :: F)), (fun _ h => h), ?_⟩
    refine WPD.takeM 7 rfl rfl rfl rfl (by kernel_rfl) (by kernel_rfl) (by kernel_rfl) (by kernel_rfl) (fun _ _ _ h => h) (fun _ h => h) (Val.gtr rfl rfl rfl) ?_
    refine WPD.done (by kernel_rfl) ?_
    refine Out.next ?_
    refine WPc.ifP rfl (fun h2 => ?_) (fun h2 => ?_)
    · skip
      have h2 : ((0 : Int) < (kcmp ((S i).it.e).k x.k)) := h2
      refine WPc.region ?_
      refine WP.val rfl rfl rfl (Val.move rfl rfl) ?_
      refine WP.val rfl rfl rfl (Val.nilCheck rfl rfl) ?_
      refine WP.val rfl rfl rfl (Val.fieldAddr (j := 0) rfl Ty.fo174_0 rfl rfl) ?_
      refine WP.val rfl rfl rfl (Val.fieldAddr (j := 1) rfl Ty.fo172_1 rfl rfl) ?_
      refine WP.val rfl rfl rfl (Val.load (v := .iface ((S i).it.e).t (((S i).it.e).u)) rfl Ty.sc170 rfl (fun w h => sto_e (h.at 1 rfl) hi rfl)) ?_
      refine WP.perm pl4 ?_
      refine WP.eff0 rfl rfl (Eff.store rfl Ty.sc170 rfl rfl rfl (by simp) st0) ?_
      rintro _ _ rfl
      refine WP.nil ?_
      refine Out.next ?_
      refine WPc.seq ?_
      refine WPc.region ?_
      refine WP.val rfl rfl rfl (Val.assign rfl rfl) ?_
      refine WP.nil ?_
      refine Out.next ?_
      refine WPc.ret ?_
      refine Out.perm pl5 ?_
      refine Out.perm pl1 ?_
      refine Out.perm pl5 ?_
      refine Out.perm pl5 ?_
      refine Out.perm pl5 ?_
      refine Out.perm pl5 ?_
      exact Out.ret1 (L' := _) Try.results145 rfl (.inr (.inl ⟨(by assumption), (by assumption), rfl, rfl⟩)) (fun _ h => h)
    · skip
      have h2 : ¬ ((0 : Int) < (kcmp ((S i).it.e).k x.k)) := h2
      refine WPc.skip ?_
      refine Out.next ?_
      refine WPc.seq ?_
      refine WPc.region ?_
      refine WP.val rfl rfl rfl (Val.assign rfl rfl) ?_
      refine WP.nil ?_
      refine Out.next ?_
      refine WPc.ret ?_
      exact Out.ret1 (L' := _) Try.results145 rfl (.inr (.inr ⟨(by assumption), (by assumption), rfl, rfl⟩)) (fun _ h => h)

end Go.Proofs.Ytbomnihiapjmpaa.Aa

namespace Go.Proofs.Ytbomnihiapjmpaa.Ab
open Go.RowKit Go.Proofs.Ytbomnihiapjmpaa Go.Proofs.Ytbomnihiapjmpaa.Sl Go.Proofs.Ytbomnihiapjmpaa.TrP Go.Proofs.Ytbomnihiapjmpaa.Tb Go.Proofs.Ytbomnihiapjmpaa.Tc Go.Proofs.Ytbomnihiapjmpaa.Td Go.Proofs.Ytbomnihiapjmpaa.Te Go.Proofs.Ytbomnihiapjmpaa.Tk Go.Proofs.Ytbomnihiapjmpaa.Tl Go.Proofs.Ytbomnihiapjmpaa.Tm Go.Proofs.Ytbomnihiapjmpaa.Aa
set_option linter.unusedVariables false
set_option linter.unusedSimpArgs false
set_option linter.unusedSectionVars false


theorem c1_does (EL : List En) (t0 : TypeId) (hE : ∀ e ∈ EL, e.t = t0) (s : Nat) (D : List Nat) (ZC : List Value) (S : St) (ok : Ok s EL D S) (mb xb cb : Nat) (hpm : NilOk Try.prog t0 "Compare") : ∀ i ∈ D, ∀ m q, preC EL (m + 1) q → Does Try.prog 145 (.pointer (some ⟨i, 0, none⟩) :: [.pointer (some ⟨mb, 0, none⟩), .pointer (some ⟨xb, 0, none⟩), .pointer (some ⟨cb, 0, none⟩)]) [Ens EL, Sto S D, Blk s ZC 177, CSP mb xb cb q] (fun v L => v = .bool (stepC S D q i).2 ∧ L = [Ens EL, Sto S D, Blk s ZC 177, CSP mb xb cb (stepC S D q i).1]) := by
  intro i hi n q hq
  have hstep : stepC S D q i = stepE q (S i).it.b (S i).it.e := by unfold stepC; rw [if_pos hi]
  rw [hstep]
  refine Does.conv (M := [Ens EL, Sto S D, Blk s ZC 177, Blk mb [q.mb] 170, Blk xb [q.xb] 170, Blk cb [.bool q.c] 4]) (fun W w F h => ?_) ?_
  · exact (((((cs_open (h.perm pl3)).perm pl5).perm pl5).perm pl5))
  have back : ∀ (q' : CS) (W w : World) (F : List HProp), Sat W ([Ens EL, Sto S D, Blk s ZC 177, Blk mb [q'.mb] 170, Blk xb [q'.xb] 170, Blk cb [.bool q'.c] 4] ++ F) w → Sat W ([Ens EL, Sto S D, Blk s ZC 177, CSP mb xb cb q'] ++ F) w := fun q' W w F h => by
    have h1 : Sat W (CSP mb xb cb q' :: Ens EL :: Sto S D :: Blk s ZC 177 :: F) w := cs_mk q' (((h.perm pl5).perm pl5).perm pl5)
    exact ((h1.perm pl3).perm pl3).perm pl3
  obtain ⟨o, c⟩ := q
  cases o with
  | none =>
    refine (c1_none EL t0 hE s D ZC S ok mb xb cb i hi c).mono ?_
    rintro v L ⟨hv, rfl⟩
    exact ⟨_, ⟨hv, rfl⟩, back ⟨some ((S i).it.b, (S i).it.e), c⟩⟩
  | some p =>
    obtain ⟨m, x⟩ := p
    obtain ⟨hm, hx⟩ := hq m x rfl
    refine (c1_some EL t0 hE s D ZC S ok mb xb cb i hi c hpm m x hm hx).mono ?_
    rintro v L (⟨h1, hv, rfl⟩ | ⟨h1, h2, hv, rfl⟩ | ⟨h1, h2, hv, rfl⟩)
    · refine ⟨_, ⟨?_, rfl⟩, ?_⟩
      · show v = .bool (stepE ⟨some (m, x), c⟩ _ _).2
        simp only [stepE, if_pos h1]; exact hv
      · have e : (stepE ⟨some (m, x), c⟩ (S i).it.b (S i).it.e).1 = ⟨some (m, x), false⟩ := by simp only [stepE, if_pos h1]
        rw [e]; exact back ⟨some (m, x), false⟩
    · refine ⟨_, ⟨?_, rfl⟩, ?_⟩
      · show v = .bool (stepE ⟨some (m, x), c⟩ _ _).2
        simp only [stepE, if_neg h1, if_pos h2]; exact hv
      · have e : (stepE ⟨some (m, x), c⟩ (S i).it.b (S i).it.e).1 = ⟨some (m, (S i).it.e), c⟩ := by simp only [stepE, if_neg h1, if_pos h2]
        rw [e]; exact back ⟨some (m, (S i).it.e), c⟩
    · refine ⟨_, ⟨?_, rfl⟩, ?_⟩
      · show v = .bool (stepE ⟨some (m, x), c⟩ _ _).2
        simp only [stepE, if_neg h1, if_neg h2]; exact hv
      · have e : (stepE ⟨some (m, x), c⟩ (S i).it.b (S i).it.e).1 = ⟨some (m, x), c⟩ := by simp only [stepE, if_neg h1, if_neg h2]
        rw [e]; exact back ⟨some (m, x), c⟩
theorem vfold_inv {σ : Type} {step : σ → Nat → σ × Bool} {φ : σ → Prop} (h : ∀ q i, φ q → φ (step q i).1) : ∀ (l : List Nat) (q : σ), φ q → φ (vfold step l q).1
  | [], q, hq => hq
  | i :: l, q, hq => by
    unfold vfold
    split
    · exact vfold_inv h l _ (h q i hq)
    · exact h q i hq
def contV (q : CS) (ib ie : Ky) : Bool := match q.o with
  | none => false
  | some (m, x) => q.c && (decide (0 ≤ kcmp x.k ie) && decide (kcmp m.k ib ≤ 0))
def contQ (S : St) (D : List Nat) (ib ie : Ky) (t : T) : CS := (vfold (stepC S D) (vl ib ie t) ⟨none, true⟩).1
set_option maxRecDepth 100000 in
set_option maxHeartbeats 2000000 in
theorem contains_does (EL : List En) (t0 : TypeId) (hE : ∀ e ∈ EL, e.t = t0) (s : Nat) (D : List Nat) (ZC : List Value) (tb root : Nat) (cnt : Int) (S : St) (ok : Ok s EL D S) (hroot : Is s D root) (T0 : T) (hT : RM s S T0 root s) (hTD : ∀ j ∈ T0.ids, j ∈ D) (hpm : NilOk Try.prog t0 "Compare") (ib ie : En) (hib : ib ∈ EL) (hie : ie ∈ EL) : Does Try.prog 134 [.pointer (some ⟨tb, 0, none⟩), .agg #[.iface ib.t (ib.u), .iface ie.t (ie.u)]] [Blk tb [.pointer (some ⟨root, 0, none⟩), .int .i64 (cnt), .pointer (some ⟨s, 0, none⟩)] 180, Ens EL, Sto S D, Blk s ZC 177] (fun v L => v = .bool (contV (contQ S D ib.k ie.k T0) ib.k ie.k) ∧ L = [Blk tb [.pointer (some ⟨root, 0, none⟩), .int .i64 (cnt), .pointer (some ⟨s, 0, none⟩)] 180, Ens EL, Sto S D, Blk s ZC 177]) := by
  refine Does.enter 31 Try.func134 rfl rfl rfl fun W F => ?_
  show WPc _ _ _ _ _ [(0, .pointer (some ⟨tb, 0, none⟩)), (1, .agg #[.iface ib.t (ib.u), .iface ie.t (ie.u)])] (Blk tb [.pointer (some ⟨root, 0, none⟩), .int .i64 (cnt), .pointer (some ⟨s, 0, none⟩)] 180 :: Ens EL :: Sto S D :: Blk s ZC 177 :: F)
  refine WPc.seq ?_
  refine WPc.region ?_
  refine WP.eff rfl rfl rfl (Eff.box (C := [.iface ib.t (ib.u), .iface ie.t (ie.u)]) rfl rfl rfl) ?_
  rintro _ _ ⟨b1, rfl, rfl⟩
  refine WP.val rfl rfl rfl (Val.assign rfl rfl) ?_
  refine WP.nil ?_
  refine Out.next ?_
  refine WPc.seq ?_
  refine WPc.region ?_
  refine WP.eff rfl rfl rfl (Eff.alloc rfl Ty.z170) ?_
  rintro _ _ ⟨b2, rfl, rfl⟩
  refine WP.eff rfl rfl rfl (Eff.alloc rfl Ty.z170) ?_
  rintro _ _ ⟨b3, rfl, rfl⟩
  refine WP.nil ?_
  refine Out.next ?_
  refine WPc.seq ?_
  refine WPc.region ?_
  refine WP.eff rfl rfl rfl (Eff.alloc rfl Ty.z4) ?_
  rintro _ _ ⟨b4, rfl, rfl⟩
  refine WP.eff0 rfl rfl (Eff.store rfl Ty.sc4 rfl rfl rfl (by simp) st0) ?_
  rintro _ _ rfl
  refine WP.nil ?_
  refine Out.next ?_
  refine WPc.seq ?_
  refine WPc.region ?_
  refine WP.val rfl rfl rfl (Val.move rfl rfl) ?_
  refine WP.val rfl rfl rfl (Val.loadAgg (cs := [.iface ib.t (ib.u), .iface ie.t (ie.u)]) rfl Ty.ag172 rfl rfl (fun w h => h.range 3 rfl rfl)) ?_
  refine WP.val rfl rfl rfl (Val.mkFunc rfl rfl rfl) ?_
  refine WP.perm pl2 ?_
  refine WP.perm pl2 ?_
  refine WP.conv (fun w h => cs_mk (mb := b3) (xb := b2) (cb := b4) ⟨none, true⟩ h) ?_
  show WP _ _ _ _ _ _ _ (CSP b3 b2 b4 ⟨none, true⟩ :: Blk b1 [.iface ib.t (ib.u), .iface ie.t (ie.u)] 172 :: Blk tb [.pointer (some ⟨root, 0, none⟩), .int .i64 (cnt), .pointer (some ⟨s, 0, none⟩)] 180 :: Ens EL :: Sto S D :: Blk s ZC 177 :: F)
  refine WP.perm pl5 ?_
  refine WP.perm pl5 ?_
  refine WP.perm pl5 ?_
  refine WP.perm pl5 ?_
  refine WP.eff rfl rfl rfl (Eff.call rfl rfl Try.call144 (Visit_does EL t0 hE s D ZC tb root cnt S ok hroot T0 hT hTD ib ie hib hie CS (CSP b3 b2 b4) (stepC S D) (preC EL) (hpreC ok) 145 [.pointer (some ⟨b3, 0, none⟩), .pointer (some ⟨b2, 0, none⟩), .pointer (some ⟨b4, 0, none⟩)] Try.call145 (c1_does EL t0 hE s D ZC S ok b3 b2 b4 hpm) ⟨none, true⟩ (fun m x h => by cases h))) ?_
  rintro _ _ ⟨_, rfl, rfl⟩
  show WP _ _ _ _ _ _ _ (Blk tb [.pointer (some ⟨root, 0, none⟩), .int .i64 (cnt), .pointer (some ⟨s, 0, none⟩)] 180 :: Ens EL :: Sto S D :: Blk s ZC 177 :: CSP b3 b2 b4 (vfold (stepC S D) (vl ib.k ie.k T0) ⟨none, true⟩).1 :: Blk b1 [.iface ib.t (ib.u), .iface ie.t (ie.u)] 172 :: F)
  refine WP.nil ?_
  refine Out.next ?_
  refine WPc.seq ?_
  have hqq : preC EL 0 (contQ S D ib.k ie.k T0) := vfold_inv (φ := preC EL 0) (fun q i h => (hpreC ok).step (m := 0) h) _ _ (fun m x h => by cases h)
  obtain ⟨Q, hQ⟩ : ∃ Q, Q = contQ S D ib.k ie.k T0 := ⟨_, rfl⟩
  have hQ2 : (vfold (stepC S D) (vl ib.k ie.k T0) ⟨none, true⟩).1 = Q := hQ.symm
  rw [hQ2]
  rw [← hQ] at hqq ⊢
  refine WPc.perm pl4 ?_
  refine WPc.conv (fun w h => cs_open h) ?_
  obtain ⟨oo, c⟩ := Q
  rcases oo with _ | pp
  · skip
    show WPc _ _ _ _ _ _ (Blk b3 [.nilIface] 170 :: Blk b2 [.nilIface] 170 :: Blk b4 [.bool (c)] 4 :: Blk tb [.pointer (some ⟨root, 0, none⟩), .int .i64 (cnt), .pointer (some ⟨s, 0, none⟩)] 180 :: Ens EL :: Sto S D :: Blk s ZC 177 :: Blk b1 [.iface ib.t (ib.u), .iface ie.t (ie.u)] 172 :: F)
    refine WPc.region ?_
    refine WP.val rfl rfl rfl (Val.load rfl Ty.sc4 rfl (fun w h => h.cell 2 rfl rfl)) ?_
    refine WP.val rfl rfl rfl (Val.move rfl rfl) ?_
    refine WP.splitB 13 rfl (fun h1 => ?_) (fun h1 => ?_)
    · skip
      refine WP.valG rfl rfl rfl rfl rfl rfl rfl (Val.load rfl Ty.sc170 rfl (fun w h => h.cell 0 rfl rfl)) ?_
      refine WP.valG rfl rfl rfl rfl rfl rfl rfl (Val.nilIn rfl Ty.if170 rfl) ?_
      refine WP.val rfl rfl rfl (Val.pickT rfl rfl rfl) ?_
      refine WP.val rfl rfl rfl (Val.move rfl rfl) ?_
      refine WP.skip rfl rfl rfl rfl rfl rfl rfl ?_
      refine WP.skip rfl rfl rfl rfl rfl rfl rfl ?_
      refine WP.skip rfl rfl rfl rfl rfl rfl rfl ?_
      refine WP.skip rfl rfl rfl rfl rfl rfl rfl ?_
      refine WP.skip rfl rfl rfl rfl rfl rfl rfl ?_
      refine WP.val rfl rfl rfl (Val.pickF rfl rfl rfl) ?_
      refine WP.val rfl rfl rfl (Val.move rfl rfl) ?_
      refine WP.skip rfl rfl rfl rfl rfl rfl rfl ?_
      refine WP.skip rfl rfl rfl rfl rfl rfl rfl ?_
      refine WP.skip rfl rfl rfl rfl rfl rfl rfl ?_
      refine WP.skip rfl rfl rfl rfl rfl rfl rfl ?_
      refine WP.skip rfl rfl rfl rfl rfl rfl rfl ?_
      refine WP.val rfl rfl rfl (Val.pickF rfl rfl rfl) ?_
      refine WP.val rfl rfl rfl (Val.assign rfl rfl) ?_
      refine WP.nil ?_
      refine Out.next ?_
      refine WPc.ret ?_
      refine Out.drop ?_
      refine Out.drop ?_
      refine Out.drop ?_
      refine Out.perm pl4 ?_
      refine Out.drop ?_
      exact Out.ret1 (L' := _) Try.results134 rfl ⟨congrArg Value.bool (by first | (simp_all [contV]; done) | (simp_all [contV]; omega)), rfl⟩ (fun _ h => h)
    · skip
      refine WP.skip rfl rfl rfl rfl rfl rfl rfl ?_
      refine WP.skip rfl rfl rfl rfl rfl rfl rfl ?_
      refine WP.val rfl rfl rfl (Val.pickF rfl rfl rfl) ?_
      refine WP.val rfl rfl rfl (Val.move rfl rfl) ?_
      refine WP.skip rfl rfl rfl rfl rfl rfl rfl ?_
      refine WP.skip rfl rfl rfl rfl rfl rfl rfl ?_
      refine WP.skip rfl rfl rfl rfl rfl rfl rfl ?_
      refine WP.skip rfl rfl rfl rfl rfl rfl rfl ?_
      refine WP.skip rfl rfl rfl rfl rfl rfl rfl ?_
      refine WP.val rfl rfl rfl (Val.pickF rfl rfl rfl) ?_
      refine WP.val rfl rfl rfl (Val.move rfl rfl) ?_
      refine WP.skip rfl rfl rfl rfl rfl rfl rfl ?_
      refine WP.skip rfl rfl rfl rfl rfl rfl rfl ?_
      refine WP.skip rfl rfl rfl rfl rfl rfl rfl ?_
      refine WP.skip rfl rfl rfl rfl rfl rfl rfl ?_
      refine WP.skip rfl rfl rfl rfl rfl rfl rfl ?_
      refine WP.val rfl rfl rfl (Val.pickF rfl rfl rfl) ?_
      refine WP.val rfl rfl rfl (Val.assign rfl rfl) ?_
      refine WP.nil ?_
      refine Out.next ?_
      refine WPc.ret ?_
      refine Out.drop ?_
      refine Out.drop ?_
      refine Out.drop ?_
      refine Out.perm pl4 ?_
      refine Out.drop ?_
      exact Out.ret1 (L' := _) Try.results134 rfl ⟨congrArg Value.bool (by first | (simp_all [contV]; done) | (simp_all [contV]; omega)), rfl⟩ (fun _ h => h)
  · skip
    obtain ⟨m, x⟩ := pp
    have hmm := hqq m x rfl
    show WPc _ _ _ _ _ _ (Blk b3 [.iface m.t (m.u)] 170 :: Blk b2 [.iface x.t (x.u)] 170 :: Blk b4 [.bool (c)] 4 :: Blk tb [.pointer (some ⟨root, 0, none⟩), .int .i64 (cnt), .pointer (some ⟨s, 0, none⟩)] 180 :: Ens EL :: Sto S D :: Blk s ZC 177 :: Blk b1 [.iface ib.t (ib.u), .iface ie.t (ie.u)] 172 :: F)
    refine WPc.region ?_
    refine WP.val rfl rfl rfl (Val.load rfl Ty.sc4 rfl (fun w h => h.cell 2 rfl rfl)) ?_
    refine WP.val rfl rfl rfl (Val.move rfl rfl) ?_
    refine WP.splitB 13 rfl (fun h2 => ?_) (fun h2 => ?_)
    · skip
      refine WP.valG rfl rfl rfl rfl rfl rfl rfl (Val.load rfl Ty.sc170 rfl (fun w h => h.cell 0 rfl rfl)) ?_
      refine WP.valG rfl rfl rfl rfl rfl rfl rfl (Val.someIn rfl Ty.if170 rfl) ?_
      refine WP.val rfl rfl rfl (Val.pickT rfl rfl rfl) ?_
      refine WP.val rfl rfl rfl (Val.move rfl rfl) ?_
      refine WP.valG rfl rfl rfl rfl rfl rfl rfl (Val.load rfl Ty.sc170 rfl (fun w h => h.cell 1 rfl rfl)) ?_
      refine WP.valG rfl rfl rfl rfl rfl rfl rfl (Val.fieldAddr (j := 1) rfl Ty.fo172_1 rfl rfl) ?_
      refine WP.valG rfl rfl rfl rfl rfl rfl rfl (Val.load rfl Ty.sc170 rfl (fun w h => h.cell 7 rfl rfl)) ?_
      refine WP.perm pl4 ?_
      refine WP.effG rfl rfl rfl rfl rfl rfl rfl (Eff.cmp (a := x) (b := ie) rfl rfl rfl hmm.2 hie ((hE _ hmm.2).trans (hE _ hie).symm)) ?_
      rintro _ _ ⟨rfl, rfl⟩
      refine WP.valG rfl rfl rfl rfl rfl rfl rfl (Val.geq rfl rfl rfl) ?_
      refine WP.val rfl rfl rfl (Val.pickT rfl rfl rfl) ?_
      refine WP.val rfl rfl rfl (Val.move rfl rfl) ?_
      refine WP.split 24 rfl (fun h3 => ?_) (fun h3 => ?_)
      · skip
        have h3 : ((0 : Int) ≤ (kcmp x.k ie.k)) := h3
        refine WP.valG rfl rfl rfl rfl rfl rfl rfl (Val.load rfl Ty.sc170 rfl (fun w h => h.cell 1 rfl rfl)) ?_
        refine WP.valG rfl rfl rfl rfl rfl rfl rfl (Val.fieldAddr (j := 0) rfl Ty.fo172_0 rfl rfl) ?_
        refine WP.valG rfl rfl rfl rfl rfl rfl rfl (Val.load rfl Ty.sc170 rfl (fun w h => h.cell 7 rfl rfl)) ?_
        refine WP.effG rfl rfl rfl rfl rfl rfl rfl (Eff.cmp (a := m) (b := ib) rfl rfl rfl hmm.1 hib ((hE _ hmm.1).trans (hE _ hib).symm)) ?_
        rintro _ _ ⟨rfl, rfl⟩
        refine WP.valG rfl rfl rfl rfl rfl rfl rfl (Val.leq rfl rfl rfl) ?_
        refine WP.val rfl rfl rfl (Val.pickT rfl rfl rfl) ?_
        refine WP.val rfl rfl rfl (Val.assign rfl rfl) ?_
        refine WP.nil ?_
        refine Out.next ?_
        refine WPc.ret ?_
        refine Out.perm pl1 ?_
        refine Out.drop ?_
        refine Out.perm pl1 ?_
        refine Out.drop ?_
        refine Out.perm pl1 ?_
        refine Out.drop ?_
        refine Out.perm pl4 ?_
        refine Out.drop ?_
        refine Out.perm pl3 ?_
        refine Out.perm pl3 ?_
        refine Out.perm pl2 ?_
        refine Out.perm pl3 ?_
        exact Out.ret1 (L' := _) Try.results134 rfl ⟨congrArg Value.bool (by first | (simp_all [contV]; done) | (simp_all [contV]; omega)), rfl⟩ (fun _ h => h)
      · skip
        have h3 : ¬ ((0 : Int) ≤ (kcmp x.k ie.k)) := h3
        refine WP.skip rfl rfl rfl rfl rfl rfl rfl ?_
        refine WP.skip rfl rfl rfl rfl rfl rfl rfl ?_
        refine WP.skip rfl rfl rfl rfl rfl rfl rfl ?_
        refine WP.skip rfl rfl rfl rfl rfl rfl rfl ?_
        refine WP.skip rfl rfl rfl rfl rfl rfl rfl ?_
        refine WP.val rfl rfl rfl (Val.pickF rfl rfl rfl) ?_
        refine WP.val rfl rfl rfl (Val.assign rfl rfl) ?_
        refine WP.nil ?_
        refine Out.next ?_
        refine WPc.ret ?_
        refine Out.perm pl1 ?_
        refine Out.drop ?_
        refine Out.perm pl1 ?_
        refine Out.drop ?_
        refine Out.perm pl1 ?_
        refine Out.drop ?_
        refine Out.perm pl4 ?_
        refine Out.drop ?_
        refine Out.perm pl3 ?_
        refine Out.perm pl3 ?_
        refine Out.perm pl2 ?_
        refine Out.perm pl3 ?_
        exact Out.ret1 (L' := _) Try.results134 rfl ⟨congrArg Value.bool (by first | (simp_all [contV]; done) | (simp_all [contV]; omega)), rfl⟩ (fun _ h => h)
    · skip
      refine WP.skip rfl rfl rfl rfl rfl rfl rfl ?_
      refine WP.skip rfl rfl rfl rfl rfl rfl rfl ?_
      refine WP.val rfl rfl rfl (Val.pickF rfl rfl rfl) ?_
      refine WP.val rfl rfl rfl (Val.move rfl rfl) ?_
      refine WP.skip rfl rfl rfl rfl rfl rfl rfl ?_
      refine WP.skip rfl rfl rfl rfl rfl rfl rfl ?_
      refine WP.skip rfl rfl rfl rfl rfl rfl rfl ?_
      refine WP.skip rfl rfl rfl rfl rfl rfl rfl ?_
      refine WP.skip rfl rfl rfl rfl rfl rfl rfl ?_
      refine WP.val rfl rfl rfl (Val.pickF rfl rfl rfl) ?_
      refine WP.val rfl rfl rfl (Val.move rfl rfl) ?_
      refine WP.skip rfl rfl rfl rfl rfl rfl rfl ?_
      refine WP.skip rfl rfl rfl rfl rfl rfl rfl ?_
      refine WP.skip rfl rfl rfl rfl rfl rfl rfl ?_
      refine WP.skip rfl rfl rfl rfl rfl rfl rfl ?_
      refine WP.skip rfl rfl rfl rfl rfl rfl rfl ?_
      refine WP.val rfl rfl rfl (Val.pickF rfl rfl rfl) ?_
      refine WP.val rfl rfl rfl (Val.assign rfl rfl) ?_
      refine WP.nil ?_
      refine Out.next ?_
      refine WPc.ret ?_
      refine Out.drop ?_
      refine Out.drop ?_
      refine Out.drop ?_
      refine Out.perm pl4 ?_
      refine Out.drop ?_
      exact Out.ret1 (L' := _) Try.results134 rfl ⟨congrArg Value.bool (by first | (simp_all [contV]; done) | (simp_all [contV]; omega)), rfl⟩ (fun _ h => h)

end Go.Proofs.Ytbomnihiapjmpaa.Ab

namespace Go.Proofs.Ytbomnihiapjmpaa.TP
open Go.RowKit Go.Proofs.Ytbomnihiapjmpaa Go.Proofs.Ytbomnihiapjmpaa.Sl Go.Proofs.Ytbomnihiapjmpaa.TrP Go.Proofs.Ytbomnihiapjmpaa.Tb Go.Proofs.Ytbomnihiapjmpaa.Tc Go.Proofs.Ytbomnihiapjmpaa.Td Go.Proofs.Ytbomnihiapjmpaa.Tk Go.Proofs.Ytbomnihiapjmpaa.Tr Go.Proofs.Ytbomnihiapjmpaa.Ts Go.Proofs.Ytbomnihiapjmpaa.Tt Go.Proofs.Ytbomnihiapjmpaa.Tv Go.Proofs.Ytbomnihiapjmpaa.Tx Go.Proofs.Ytbomnihiapjmpaa.TA Go.Proofs.Ytbomnihiapjmpaa.TB Go.Proofs.Ytbomnihiapjmpaa.TC Go.Proofs.Ytbomnihiapjmpaa.TD
set_option linter.unusedVariables false
set_option linter.unusedSimpArgs false
set_option linter.unusedSectionVars false

theorem klt_max {a b c : Ky} : klt a (kmax b c) ↔ klt a b ∨ klt a c := by
  unfold kmax
  split
  · rename_i h; exact ⟨.inr, fun h' => h'.elim (fun h' => klt_trans h' h) id⟩
  · rename_i h; exact ⟨.inl, fun h' => h'.elim id (fun h' => klt_of_lt_of_le h' h)⟩
theorem klt_kmo {a b : Ky} {o : Option Ky} : klt a (kmo b o) ↔ klt a b ∨ lets a o = true := by
  cases o with
  | none => simp [kmo, lets]
  | some c => simp only [kmo, lets, decide_eq_true_eq]; exact klt_max
theorem lets_iff {ib : Ky} : ∀ {t : T}, lets ib t.mx = true ↔ ∃ y ∈ t.ino, klt ib y.e.k
  | .leaf => by simp [T.mx, lets, T.ino]
  | .node i l x c r => by
    show decide (klt ib (kmo (kmo x.e.k l.mx) r.mx)) = true ↔ ∃ y ∈ l.ino ++ x :: r.ino, _
    rw [decide_eq_true_eq, klt_kmo, klt_kmo, lets_iff, lets_iff]
    constructor
    · rintro ((h | ⟨y, hy, h⟩) | ⟨y, hy, h⟩)
      · exact ⟨x, by simp, h⟩
      · exact ⟨y, by simp [hy], h⟩
      · exact ⟨y, by simp [hy], h⟩
    · rintro ⟨y, hy, h⟩
      rcases List.mem_append.1 hy with hy | hy
      · exact .inl (.inr ⟨y, hy, h⟩)
      · rcases List.mem_cons.1 hy with rfl | hy
        · exact .inl (.inl h)
        · exact .inr ⟨y, hy, h⟩
theorem icmp_iff {ib ie xb xe : Ky} (hp : klt ib ie) : icmp ib ie xb xe = 0 ↔ klt xb ie ∧ klt ib xe := by
  unfold icmp
  constructor
  · intro h
    by_cases h1 : klt ib xb ∧ ¬ klt xb ie
    · rw [if_pos h1] at h; cases h
    · rw [if_neg h1] at h
      by_cases h2 : ¬ klt ib xe
      · rw [if_pos h2] at h; cases h
      · refine ⟨?_, Decidable.byContradiction h2⟩
        by_cases h3 : klt ib xb
        · exact Decidable.byContradiction fun h4 => h1 ⟨h3, h4⟩
        · exact klt_of_le_of_lt h3 hp
  · rintro ⟨h1, h2⟩
    rw [if_neg (fun h => h.2 h1), if_neg (fun h => h h2)]
theorem le_begin {x y : It} (h : leq x y) : ¬ klt y.b.k x.b.k := fun h2 => h (.inl h2)
theorem isect_iff {ib ie : Ky} (hp : klt ib ie) : ∀ {t : T}, Srt t.ino → (isect ib ie t = true ↔ ∃ y ∈ t.ino, klt y.b.k ie ∧ klt ib y.e.k)
  | .leaf, _ => by simp [isect, T.ino]
  | .node i l x c r, hs => by
    have hs' : Srt (l.ino ++ x :: r.ino) := hs
    have hsl := (List.pairwise_append.1 hs').1
    have hsr := (List.pairwise_cons.1 (List.pairwise_append.1 hs').2.1).2
    show _ ↔ ∃ y ∈ l.ino ++ x :: r.ino, _
    by_cases h0 : icmp ib ie x.b.k x.e.k = 0
    · rw [isect_y h0]
      exact ⟨fun _ => ⟨x, by simp, (icmp_iff hp).1 h0⟩, fun _ => rfl⟩
    · have hx : ¬ (klt x.b.k ie ∧ klt ib x.e.k) := fun h => h0 ((icmp_iff hp).2 h)
      by_cases h2 : lets ib l.mx = true
      · rw [isect_l h0 h2, isect_iff hp hsl]
        constructor
        · rintro ⟨y, hy, h⟩; exact ⟨y, List.mem_append_left _ hy, h⟩
        · rintro ⟨y, hy, h⟩
          rcases List.mem_append.1 hy with hy | hy
          · exact ⟨y, hy, h⟩
          · obtain ⟨z, hz, hz2⟩ := lets_iff.1 h2
            have hle := le_begin ((List.pairwise_append.1 hs').2.2 z hz y hy)
            exact ⟨z, hz, klt_of_le_of_lt hle h.1, hz2⟩
      · have h3 : lets ib l.mx = false := by simpa using h2
        rw [isect_r h0 h3, isect_iff hp hsr]
        constructor
        · rintro ⟨y, hy, h⟩; exact ⟨y, List.mem_append_right _ (List.mem_cons_of_mem _ hy), h⟩
        · rintro ⟨y, hy, h⟩
          rcases List.mem_append.1 hy with hy | hy
          · exact absurd (lets_iff.2 ⟨y, hy, h.2⟩) h2
          · rcases List.mem_cons.1 hy with rfl | hy
            · exact absurd h hx
            · exact ⟨y, hy, h⟩
end Go.Proofs.Ytbomnihiapjmpaa.TP

namespace Go.Proofs.Ytbomnihiapjmpaa.Ac
open Go.RowKit Go.Proofs.Ytbomnihiapjmpaa Go.Proofs.Ytbomnihiapjmpaa.Sl Go.Proofs.Ytbomnihiapjmpaa.TrP Go.Proofs.Ytbomnihiapjmpaa.Tb Go.Proofs.Ytbomnihiapjmpaa.Tc Go.Proofs.Ytbomnihiapjmpaa.Td Go.Proofs.Ytbomnihiapjmpaa.Tk Go.Proofs.Ytbomnihiapjmpaa.Tl Go.Proofs.Ytbomnihiapjmpaa.TP Go.Proofs.Ytbomnihiapjmpaa.Aa Go.Proofs.Ytbomnihiapjmpaa.Ab
set_option linter.unusedVariables false
set_option linter.unusedSimpArgs false
set_option linter.unusedSectionVars false

/-- those that have something in common with the interval from ib to ie -/
def hits (ib ie : Ky) (l : List It) : List It := l.filter fun y => decide (klt y.b.k ie ∧ klt ib y.e.k)
theorem hits_app (ib ie : Ky) (l m : List It) : hits ib ie (l ++ m) = hits ib ie l ++ hits ib ie m := List.filter_append ..
theorem hits_yes {ib ie : Ky} {x : It} {l : List It} (h : klt x.b.k ie ∧ klt ib x.e.k) : hits ib ie (x :: l) = x :: hits ib ie l := List.filter_cons_of_pos (by simpa using h)
theorem hits_no {ib ie : Ky} {x : It} {l : List It} (h : ¬ (klt x.b.k ie ∧ klt ib x.e.k)) : hits ib ie (x :: l) = hits ib ie l := List.filter_cons_of_neg (by simpa using h)
theorem hits_nil {ib ie : Ky} {l : List It} (h : ∀ y ∈ l, ¬ (klt y.b.k ie ∧ klt ib y.e.k)) : hits ib ie l = [] := List.filter_eq_nil_iff.2 fun y hy => by simpa using h y hy
theorem mx_ge {t : T} {m : Ky} (h : t.mx = some m) : ∀ y ∈ t.ino, ¬ klt m y.e.k := fun y hy h2 => by
  have := lets_iff.2 ⟨y, hy, h2⟩
  rw [h] at this
  exact klt_irrefl _ (by simpa [lets] using this)
theorem vl_items {s : Nat} {S : St} {ib ie : Ky} (hp : klt ib ie) : ∀ {t : T} {q p : Nat}, RM s S t q p → Srt t.ino → (∀ y ∈ t.ino, klt y.b.k y.e.k) → (vl ib ie t).map (fun i => (S i).it) = hits ib ie t.ino
  | .leaf, _, _, _, _, _ => rfl
  | .node i l x c r, q, p, h, hs, hpr => by
    obtain ⟨-, -, hit, -, -, -, hl, hr⟩ := h
    have hs' : Srt (l.ino ++ x :: r.ino) := hs
    have hsl := (List.pairwise_append.1 hs').1
    have hsr := (List.pairwise_cons.1 (List.pairwise_append.1 hs').2.1).2
    have hxr := (List.pairwise_cons.1 (List.pairwise_append.1 hs').2.1).1
    have hpr' : ∀ y ∈ l.ino ++ x :: r.ino, klt y.b.k y.e.k := hpr
    have hpx : klt x.b.k x.e.k := hpr' x (by simp)
    have ihl := vl_items hp hl hsl (fun y hy => hpr' y (by simp [hy]))
    have ihr := vl_items hp hr hsr (fun y hy => hpr' y (by simp [hy]))
    show _ = hits ib ie (l.ino ++ x :: r.ino)
    rw [hits_app]
    unfold vl
    by_cases h1 : icmp ib ie x.b.k x.e.k < 0
    · rw [if_pos h1, ihl]
      have h2 : ¬ klt x.b.k ie := fun h => by
        unfold icmp at h1
        rw [if_neg (fun h' => h'.2 h)] at h1
        split at h1 <;> omega
      rw [hits_nil (l := x :: r.ino), List.append_nil]
      rintro y hy ⟨h3, -⟩
      rcases List.mem_cons.1 hy with rfl | hy
      · exact h2 h3
      · exact h2 (klt_of_le_of_lt (le_begin (hxr y hy)) h3)
    · rw [if_neg h1]
      by_cases h2 : 0 < icmp ib ie x.b.k x.e.k
      · rw [if_pos h2]
        have h3 : ¬ (klt x.b.k ie ∧ klt ib x.e.k) := fun h => by rw [(icmp_iff hp).2 h] at h2; omega
        rw [hits_no h3]
        have h4 : ¬ klt ib x.e.k := fun h => by
          unfold icmp at h2
          by_cases h5 : klt ib x.b.k ∧ ¬ klt x.b.k ie
          · rw [if_pos h5] at h2; omega
          · rw [if_neg h5, if_neg (fun h' => h' h)] at h2; omega
        have hmx : (T.node i l x c r).mx = some (kmo (kmo x.e.k l.mx) r.mx) := rfl
        have hge := mx_ge hmx
        have hxM : klt x.b.k (kmo (kmo x.e.k l.mx) r.mx) := klt_of_lt_of_le hpx (hge x (by show x ∈ l.ino ++ x :: r.ino; simp))
        by_cases h5 : icmp x.b.k (kmo (kmo x.e.k l.mx) r.mx) ib ie = 0
        · rw [if_pos h5, List.map_append, ihl, ihr]
        · rw [if_neg h5]
          have h6 : ¬ (klt ib (kmo (kmo x.e.k l.mx) r.mx) ∧ klt x.b.k ie) := fun h => h5 ((icmp_iff hxM).2 h)
          have hxie : klt x.b.k ie := klt_of_lt_of_le hpx (fun h => h4 (klt_trans hp h))
          have h7 : ¬ klt ib (kmo (kmo x.e.k l.mx) r.mx) := fun h => h6 ⟨h, hxie⟩
          have h8 : ∀ y ∈ l.ino ++ x :: r.ino, ¬ (klt y.b.k ie ∧ klt ib y.e.k) := fun y hy h => h7 (klt_of_lt_of_le h.2 (hge y hy))
          rw [hits_nil (fun y hy => h8 y (by simp [hy])), hits_nil (fun y hy => h8 y (by simp [hy]))]
          rfl
      · rw [if_neg h2, List.map_append, List.map_cons, ihl, ihr, hit]
        have h0 : icmp ib ie x.b.k x.e.k = 0 := by omega
        rw [hits_yes ((icmp_iff hp).1 h0)]
theorem vl_ids {ib ie : Ky} : ∀ {t : T} {j : Nat}, j ∈ vl ib ie t → j ∈ t.ids
  | .leaf, j, h => h
  | .node i l x c r, j, h => by
    unfold vl at h
    simp only [T.ids, List.mem_cons, List.mem_append]
    split at h
    · exact .inr (.inl (vl_ids h))
    · split at h
      · split at h
        · rcases List.mem_append.1 h with h | h
          · exact .inr (.inl (vl_ids h))
          · exact .inr (.inr (vl_ids h))
        · cases h
      · rcases List.mem_append.1 h with h | h
        · exact .inr (.inl (vl_ids h))
        · rcases List.mem_cons.1 h with h | h
          · exact .inl h
          · exact .inr (.inr (vl_ids h))
/-- Contains' steps, item by item -/
def cf : CS → List It → CS
  | q, [] => q
  | q, y :: l => if (stepE q y.b y.e).2 then cf (stepE q y.b y.e).1 l else (stepE q y.b y.e).1
theorem cf_vfold {S : St} {D : List Nat} : ∀ (l : List Nat) (q : CS), (∀ j ∈ l, j ∈ D) → (vfold (stepC S D) l q).1 = cf q (l.map fun i => (S i).it)
  | [], q, _ => rfl
  | i :: l, q, h => by
    have hi : stepC S D q i = stepE q (S i).it.b (S i).it.e := by unfold stepC; rw [if_pos (h i List.mem_cons_self)]
    unfold vfold
    rw [hi]
    show _ = if (stepE q (S i).it.b (S i).it.e).2 then cf (stepE q (S i).it.b (S i).it.e).1 (l.map fun i => (S i).it) else (stepE q (S i).it.b (S i).it.e).1
    split
    · exact cf_vfold l _ (fun j hj => h j (List.mem_cons_of_mem _ hj))
    · rfl
/-! the points -/
def Pt (p : Ky) : Prop := p.n = 0 ∧ p.t = 0
def top : Ky := ⟨0, 1, []⟩
def Vk (p : Ky) : Prop := p = top ∨ Pt p
def inI (p b e : Ky) : Prop := ¬ klt p b ∧ klt p e
/-- each point of the interval from ib to ie is in one of some intervals -/
def CovI (ib ie : Ky) (l : List It) : Prop := ∀ p, Pt p → inI p ib ie → ∃ y ∈ l, inI p y.b.k y.e.k
theorem top_max {p : Ky} (h : Vk p) : ¬ klt top p := by
  rcases h with rfl | ⟨h1, h2⟩
  · exact klt_irrefl _
  · rintro (h | ⟨-, h | ⟨h, -⟩⟩)
    · rw [h1] at h; exact absurd h (by decide)
    · rw [h2] at h; exact absurd h (by decide)
    · rw [h2] at h; exact absurd h (by decide)
theorem pt_lt {p q : Ky} (hp : Vk p) (hq : Vk q) (h : klt p q) : Pt p := by
  rcases hp with rfl | hp
  · exact absurd h (top_max hq)
  · exact hp
/-- what a walk from (m, x) on ends with -/
theorem cf_law : ∀ (l : List It) (m x : En), (∀ y ∈ l, Vk y.b.k ∧ Vk y.e.k) → Vk x.k → Srt l →
    ((cf ⟨some (m, x), true⟩ l).c = true → ∃ x', (cf ⟨some (m, x), true⟩ l).o = some (m, x') ∧ Vk x'.k ∧ ¬ klt x'.k x.k ∧ (∀ p, Pt p → ¬ klt p x.k → klt p x'.k → ∃ y ∈ l, inI p y.b.k y.e.k) ∧ (∀ y ∈ l, ¬ klt x'.k y.e.k) ∧ (x' = x ∨ ∃ y ∈ l, x' = y.e)) ∧
    ((cf ⟨some (m, x), true⟩ l).c = false → ∃ x', Pt x'.k ∧ ¬ klt x'.k x.k ∧ (x' = x ∨ ∃ y ∈ l, x' = y.e) ∧ (∃ y ∈ l, klt x'.k y.b.k) ∧ ∀ y ∈ l, ¬ inI x'.k y.b.k y.e.k)
  | [], m, x, hv, hx, hs => ⟨fun _ => ⟨x, rfl, hx, klt_irrefl _, (fun p _ h1 h2 => absurd h2 h1), (fun y hy => (List.not_mem_nil hy).elim), .inl rfl⟩, (fun h => Bool.noConfusion h)⟩
  | y :: l, m, x, hv, hx, hs => by
    obtain ⟨hvb, hve⟩ := hv y List.mem_cons_self
    have hs2 := List.pairwise_cons.1 hs
    unfold cf
    by_cases h1 : kcmp x.k y.b.k < 0
    · have e : stepE ⟨some (m, x), true⟩ y.b y.e = (⟨some (m, x), false⟩, false) := by simp only [stepE, if_pos h1]
      rw [e]
      simp only [Bool.false_eq_true, if_false]
      refine ⟨(fun h => h.elim), fun _ => ⟨x, pt_lt hx hvb (kcmp_lt.1 h1), klt_irrefl _, .inl rfl, ⟨y, List.mem_cons_self, kcmp_lt.1 h1⟩, ?_⟩⟩
      rintro z hz ⟨h3, -⟩
      rcases List.mem_cons.1 hz with rfl | hz
      · exact h3 (kcmp_lt.1 h1)
      · exact h3 (klt_of_lt_of_le (kcmp_lt.1 h1) (le_begin (hs2.1 z hz)))
    · have hb : ¬ klt x.k y.b.k := fun h => h1 (kcmp_lt.2 h)
      by_cases h2 : 0 < kcmp y.e.k x.k
      · have e : stepE ⟨some (m, x), true⟩ y.b y.e = (⟨some (m, y.e), true⟩, true) := by simp only [stepE, if_neg h1, if_pos h2]
        rw [e]
        simp only [if_true]
        have hlt : klt x.k y.e.k := kcmp_gt.1 h2
        obtain ⟨ih1, ih2⟩ := cf_law l m y.e (fun z hz => hv z (List.mem_cons_of_mem _ hz)) hve hs2.2
        refine ⟨fun h => ?_, fun h => ?_⟩
        · obtain ⟨x', g1, g2, g3, g4, g5, g6⟩ := ih1 h
          refine ⟨x', g1, g2, kle_trans (klt_asymm hlt) g3, fun p hp hpx hpx' => ?_, ?_, ?_⟩
          · by_cases hpe : klt p y.e.k
            · exact ⟨y, List.mem_cons_self, kle_trans hb hpx, hpe⟩
            · obtain ⟨z, hz, hz2⟩ := g4 p hp hpe hpx'
              exact ⟨z, List.mem_cons_of_mem _ hz, hz2⟩
          · intro z hz
            rcases List.mem_cons.1 hz with rfl | hz
            · exact g3
            · exact g5 z hz
          · rcases g6 with rfl | ⟨z, hz, rfl⟩
            · exact .inr ⟨y, List.mem_cons_self, rfl⟩
            · exact .inr ⟨z, List.mem_cons_of_mem _ hz, rfl⟩
        · obtain ⟨x', g1, g2, g3, ⟨z, hz, g4⟩, g5⟩ := ih2 h
          refine ⟨x', g1, kle_trans (klt_asymm hlt) g2, ?_, ⟨z, List.mem_cons_of_mem _ hz, g4⟩, ?_⟩
          · rcases g3 with rfl | ⟨z, hz, rfl⟩
            · exact .inr ⟨y, List.mem_cons_self, rfl⟩
            · exact .inr ⟨z, List.mem_cons_of_mem _ hz, rfl⟩
          · intro z hz hin
            rcases List.mem_cons.1 hz with rfl | hz
            · exact g2 hin.2
            · exact g5 z hz hin
      · have e : stepE ⟨some (m, x), true⟩ y.b y.e = (⟨some (m, x), true⟩, true) := by simp only [stepE, if_neg h1, if_neg h2]
        rw [e]
        simp only [if_true]
        have hle : ¬ klt x.k y.e.k := fun h => h2 (kcmp_gt.2 h)
        obtain ⟨ih1, ih2⟩ := cf_law l m x (fun z hz => hv z (List.mem_cons_of_mem _ hz)) hx hs2.2
        refine ⟨fun h => ?_, fun h => ?_⟩
        · obtain ⟨x', g1, g2, g3, g4, g5, g6⟩ := ih1 h
          refine ⟨x', g1, g2, g3, fun p hp hpx hpx' => ?_, ?_, ?_⟩
          · obtain ⟨z, hz, hz2⟩ := g4 p hp hpx hpx'
            exact ⟨z, List.mem_cons_of_mem _ hz, hz2⟩
          · intro z hz
            rcases List.mem_cons.1 hz with rfl | hz
            · exact kle_trans hle g3
            · exact g5 z hz
          · rcases g6 with rfl | ⟨z, hz, rfl⟩
            · exact .inl rfl
            · exact .inr ⟨z, List.mem_cons_of_mem _ hz, rfl⟩
        · obtain ⟨x', g1, g2, g3, ⟨z, hz, g4⟩, g5⟩ := ih2 h
          refine ⟨x', g1, g2, ?_, ⟨z, List.mem_cons_of_mem _ hz, g4⟩, ?_⟩
          · rcases g3 with rfl | ⟨z, hz, rfl⟩
            · exact .inl rfl
            · exact .inr ⟨z, List.mem_cons_of_mem _ hz, rfl⟩
          · intro z hz hin
            rcases List.mem_cons.1 hz with rfl | hz
            · exact absurd hin.2 (kle_trans hle g2)
            · exact g5 z hz hin
theorem cov_hits {ib ie : Ky} {l : List It} : CovI ib ie l ↔ CovI ib ie (hits ib ie l) := by
  constructor
  · intro h p hp hin
    obtain ⟨y, hy, h2⟩ := h p hp hin
    exact ⟨y, List.mem_filter.2 ⟨hy, decide_eq_true ⟨klt_of_le_of_lt h2.1 hin.2, klt_of_le_of_lt hin.1 h2.2⟩⟩, h2⟩
  · intro h p hp hin
    obtain ⟨y, hy, h2⟩ := h p hp hin
    exact ⟨y, (List.mem_filter.1 hy).1, h2⟩
theorem hits_srt {ib ie : Ky} {l : List It} (h : Srt l) : Srt (hits ib ie l) := List.Pairwise.filter _ h
/-- Contains tells whether each point is in one -/
theorem cont_law {ib ie : Ky} {l : List It} (hib : Pt ib) (hie : Vk ie) (hp : klt ib ie) (hs : Srt l) (hv : ∀ y ∈ l, Pt y.b.k ∧ Vk y.e.k) : contV (cf ⟨none, true⟩ (hits ib ie l)) ib ie = true ↔ CovI ib ie l := by
  rw [cov_hits]
  have hs2 := hits_srt (ib := ib) (ie := ie) hs
  have hv2 : ∀ y ∈ hits ib ie l, Pt y.b.k ∧ Vk y.e.k := fun y hy => hv y (List.mem_filter.1 hy).1
  have hm : ∀ y ∈ hits ib ie l, klt y.b.k ie ∧ klt ib y.e.k := fun y hy => by simpa using (List.mem_filter.1 hy).2
  revert hs2 hv2 hm
  generalize hits ib ie l = m
  intro hs2 hv2 hm
  cases m with
  | nil =>
    constructor
    · intro h; exact absurd h (by simp [cf, contV])
    · intro h
      obtain ⟨y, hy, -⟩ := h ib hib ⟨klt_irrefl _, hp⟩
      cases hy
  | cons a m =>
    have hs3 := List.pairwise_cons.1 hs2
    have e : cf ⟨none, true⟩ (a :: m) = cf ⟨some (a.b, a.e), true⟩ m := rfl
    rw [e]
    obtain ⟨hab, hae⟩ := hv2 a List.mem_cons_self
    obtain ⟨g1, g2⟩ := cf_law m a.b a.e (fun z hz => ⟨.inr (hv2 z (List.mem_cons_of_mem _ hz)).1, (hv2 z (List.mem_cons_of_mem _ hz)).2⟩) hae hs3.2
    cases hc : (cf ⟨some (a.b, a.e), true⟩ m).c with
    | false =>
      obtain ⟨x', p1, p2, p3, ⟨z, hz, p4⟩, p5⟩ := g2 hc
      constructor
      · intro h
        unfold contV at h
        rw [hc] at h
        split at h <;> simp at h
      · intro h
        have hib2 : klt ib x'.k := by
          rcases p3 with rfl | ⟨y, hy, rfl⟩
          · exact (hm a List.mem_cons_self).2
          · exact (hm y (List.mem_cons_of_mem _ hy)).2
        obtain ⟨y, hy, hy2⟩ := h x'.k p1 ⟨klt_asymm hib2, klt_trans p4 (hm z (List.mem_cons_of_mem _ hz)).1⟩
        rcases List.mem_cons.1 hy with rfl | hy
        · exact absurd hy2.2 p2
        · exact absurd hy2 (p5 y hy)
    | true =>
      obtain ⟨x', q1, q2, q3, q4, q5, q6⟩ := g1 hc
      have hV : contV (cf ⟨some (a.b, a.e), true⟩ m) ib ie = true ↔ ¬ klt x'.k ie ∧ ¬ klt ib a.b.k := by
        unfold contV
        rw [q1, hc]
        simp only [Bool.true_and, Bool.and_eq_true, decide_eq_true_eq]
        constructor
        · rintro ⟨h1, h2⟩
          exact ⟨fun h => by have := kcmp_lt.2 h; omega, fun h => by have := kcmp_gt.2 h; omega⟩
        · rintro ⟨h1, h2⟩
          refine ⟨?_, ?_⟩
          · rcases Int.lt_or_le (kcmp x'.k ie) 0 with h | h
            · exact absurd (kcmp_lt.1 h) h1
            · exact h
          · rcases Int.lt_or_le 0 (kcmp a.b.k ib) with h | h
            · exact absurd (kcmp_gt.1 h) h2
            · exact h
      rw [hV]
      constructor
      · rintro ⟨h1, h2⟩ p hpp hin
        by_cases hpa : klt p a.e.k
        · exact ⟨a, List.mem_cons_self, kle_trans h2 hin.1, hpa⟩
        · obtain ⟨z, hz, hz2⟩ := q4 p hpp hpa (klt_of_lt_of_le hin.2 h1)
          exact ⟨z, List.mem_cons_of_mem _ hz, hz2⟩
      · intro h
        refine ⟨fun hlt => ?_, fun hlt => ?_⟩
        · have hib2 : klt ib x'.k := by
            rcases q6 with rfl | ⟨y, hy, rfl⟩
            · exact (hm a List.mem_cons_self).2
            · exact (hm y (List.mem_cons_of_mem _ hy)).2
          obtain ⟨y, hy, hy2⟩ := h x'.k (pt_lt q2 hie hlt) ⟨klt_asymm hib2, hlt⟩
          rcases List.mem_cons.1 hy with rfl | hy
          · exact q3 hy2.2
          · exact q5 y hy hy2.2
        · obtain ⟨y, hy, hy2⟩ := h ib hib ⟨klt_irrefl _, hp⟩
          rcases List.mem_cons.1 hy with rfl | hy
          · exact hy2.1 hlt
          · exact hy2.1 (klt_of_lt_of_le hlt (le_begin (hs3.1 y hy)))
end Go.Proofs.Ytbomnihiapjmpaa.Ac

namespace Go.Proofs.Ytbomnihiapjmpaa.Ad
open Go.RowKit Go.Proofs.Ytbomnihiapjmpaa Go.Proofs.Ytbomnihiapjmpaa.Sl Go.Proofs.Ytbomnihiapjmpaa.TrP Go.Proofs.Ytbomnihiapjmpaa.Tb Go.Proofs.Ytbomnihiapjmpaa.Tc Go.Proofs.Ytbomnihiapjmpaa.Td Go.Proofs.Ytbomnihiapjmpaa.Te Go.Proofs.Ytbomnihiapjmpaa.Tk Go.Proofs.Ytbomnihiapjmpaa.Tl Go.Proofs.Ytbomnihiapjmpaa.Tm Go.Proofs.Ytbomnihiapjmpaa.Tj Go.Proofs.Ytbomnihiapjmpaa.Tn Go.Proofs.Ytbomnihiapjmpaa.Tp Go.Proofs.Ytbomnihiapjmpaa.Tq Go.Proofs.Ytbomnihiapjmpaa.Tr Go.Proofs.Ytbomnihiapjmpaa.Tx Go.Proofs.Ytbomnihiapjmpaa.TC Go.Proofs.Ytbomnihiapjmpaa.TD Go.Proofs.Ytbomnihiapjmpaa.TP Go.Proofs.Ytbomnihiapjmpaa.Aa Go.Proofs.Ytbomnihiapjmpaa.Ab Go.Proofs.Ytbomnihiapjmpaa.Ac
set_option linter.unusedVariables false
set_option linter.unusedSimpArgs false
set_option linter.unusedSectionVars false


/-- a tree in memory, whatever its values -/
structure Rep0 (t0 : TypeId) (q : TQ) (t : T) : Prop where
  z : Z q.s q.root q.S [] t q.root
  rd : t.red = false
  ok : Ok q.s q.EL q.D q.S
  rt : Is q.s q.D q.root
  hE : ∀ e ∈ q.EL, e.t = t0
  ids : ∀ j ∈ t.ids, j ∈ q.D
  cnt : q.cnt = t.ino.length
  srt : Srt t.ino
theorem rep0_new (t0 : TypeId) (tb s : Nat) (S : St) : Rep0 t0 ⟨tb, s, s, 0, [], [], S⟩ .leaf :=
  ⟨⟨rfl, rfl, by simp [T.ids, cids]⟩, rfl, ⟨fun {i} h => (List.not_mem_nil h).elim, fun {i} h => (List.not_mem_nil h).elim, fun {i} h => (List.not_mem_nil h).elim, fun {i} h => (List.not_mem_nil h).elim, fun {i} h => (List.not_mem_nil h).elim, fun {i} h => (List.not_mem_nil h).elim⟩, .inl rfl, (fun e h => by cases h), (fun j h => by cases h), rfl, List.Pairwise.nil⟩
theorem ok_two {s : Nat} {EL : List En} {D : List Nat} {S : St} (ok : Ok s EL D S) (eb ee : En) : Ok s (eb :: ee :: EL) D S := Ok.mono ok (fun e he => List.mem_cons_of_mem _ (List.mem_cons_of_mem _ he))
theorem hE_two {EL : List En} {t0 : TypeId} {eb ee : En} (hE : ∀ e ∈ EL, e.t = t0) (hb : eb.t = t0) (he : ee.t = t0) : ∀ e ∈ eb :: ee :: EL, e.t = t0 := fun e h => by
  rcases List.mem_cons.1 h with rfl | h
  · exact hb
  · rcases List.mem_cons.1 h with rfl | h
    · exact he
    · exact hE e h
theorem rep0_two {t0 : TypeId} {q : TQ} {t : T} (hq : Rep0 t0 q t) {eb ee : En} (hb : eb.t = t0) (he : ee.t = t0) : Rep0 t0 ⟨q.tb, q.s, q.root, q.cnt, eb :: ee :: q.EL, q.D, q.S⟩ t :=
  ⟨hq.z, hq.rd, ok_two hq.ok _ _, hq.rt, hE_two hq.hE hb he, hq.ids, hq.cnt, hq.srt⟩
theorem tm_two {W w : World} {L : List HProp} {q : TQ} {eb ee : En} (h : Sat W (Enp eb :: Enp ee :: TM q :: L) w) : Sat W (Enp eb :: Enp ee :: TM ⟨q.tb, q.s, q.root, q.cnt, eb :: ee :: q.EL, q.D, q.S⟩ :: L) w := by
  have h1 : Sat W (Enp eb :: Enp eb :: Enp ee :: TM q :: L) w := Sat.dup Enp.pers h
  have h2 : Sat W (Enp ee :: Enp ee :: Enp eb :: Enp eb :: TM q :: L) w := Sat.dup Enp.pers (h1.perm pl2)
  have h3 := tm_open (h2.perm pl4)
  -- B, E, S, Z, ee, ee, eb, eb
  have h5 := ens_add (((h3.perm pl1).perm pl4).perm pl6)
  exact ((tm_mk (h5.perm pl1)).perm pl1).perm pl2
/-- an interval is put in -/
theorem ins0_does (t0 : TypeId) (tb : Nat) (q : TQ) (t : T) (hq : Rep0 t0 q t) (htb : q.tb = tb) (hc : t.ino.length < 1000000) (eb ee : En) (hb : eb.t = t0) (he : ee.t = t0) (v : TypeId × Value) :
    Does Try.prog 138 [.pointer (some ⟨tb, 0, none⟩), .agg #[.iface eb.t eb.u, .iface ee.t ee.u], .iface v.1 v.2] [Enp eb, Enp ee, TM q]
      (fun _ L => ∃ (q' : TQ) (z : Nat), Rep0 t0 q' (insT z ⟨eb, ee, v.1, v.2⟩ t) ∧ q'.tb = tb ∧ L = [Enp eb, Enp ee, TM q']) := by
  subst htb
  have hq2 := rep0_two hq hb he
  have hio : ∀ z, z ∉ q.D → z ≠ q.s → InsOk q.s (t.depth + 2) t.depth q.D q.S q.root eb ee v z ∧ _ := fun z hz1 hz2 =>
    ins_spec (n := t.depth + 2) hq2.z hq2.rd hq2.ok hq2.rt List.mem_cons_self (List.mem_cons_of_mem _ List.mem_cons_self) hz2 (fun h => hz1 (hq.ids _ h)) hq.ids (Nat.le_refl _) (by omega)
  have h := insert_does (eb :: ee :: q.EL) t0 hq2.hE q.s q.D ZZ q.tb q.root q.cnt ⟨by have := hq.cnt; omega, by have := hq.cnt; omega⟩ q.S hq2.ok hq.rt (t.depth + 2) t.depth eb ee List.mem_cons_self (List.mem_cons_of_mem _ List.mem_cons_self) v (fun z a b => (hio z a b).1)
  refine Does.conv (M := [Enp eb, Enp ee, _, _, _, _]) (fun W w F h => ?_) ((Does.frame (Enp eb) (Does.frame (Enp ee) h)).mono ?_)
  · have h1 := tm_open ((tm_two h).perm pl2)
    exact (h1.perm pl5).perm pl5
  · rintro r L ⟨M, ⟨M2, ⟨z, hz1, hz2, rfl⟩, rfl⟩, rfl⟩
    obtain ⟨g1, g2⟩ := hio z hz1 hz2
    refine ⟨_, ⟨⟨q.tb, q.s, (insF q.s (t.depth + 2) t.depth q.S q.root eb ee v z).2, q.cnt + 1, eb :: ee :: q.EL, z :: q.D, setC (insF q.s (t.depth + 2) t.depth q.S q.root eb ee v z).1 (insF q.s (t.depth + 2) t.depth q.S q.root eb ee v z).2 0⟩, z, ⟨g2, insT_red, insF_ok hq2.ok hq.rt List.mem_cons_self (List.mem_cons_of_mem _ List.mem_cons_self) g1, .inr g1.last, hq2.hE, ?_, ?_, ?_⟩, rfl, rfl⟩, fun W w F h => ?_⟩
    · intro j hj
      rcases insT_ids hj with rfl | hj
      · exact List.mem_cons_self
      · exact List.mem_cons_of_mem _ (hq.ids _ hj)
    · rw [insT_len hq.srt, hq.cnt]; rfl
    · rw [insT_ino hq.srt]; exact putI_srt hq.srt
    · exact ((tm_mk ((((h.perm pl5).perm pl5).perm pl5).perm pl5)).perm pl2).perm pl2

end Go.Proofs.Ytbomnihiapjmpaa.Ad

namespace Go.Proofs.Ytbomnihiapjmpaa.Sl
set_option linter.unusedVariables false
section
variable {P : Program} {W : World} {ops : Array Oper} {Q : Exit → Act → World → Prop} {n : Nat} {l : List (Nat × Value)} {L : List HProp}
variable [Dfs]
/-- three are ready, or four: each may be the first -/
theorem WPD.pick3 {S : World → Prop} {fuel : Nat} {listed : Array Bool} (i j k : Nat) (hr : Region.ready .any ops listed = [i, j, k]) (h1 : WPO P W ops Q S fuel listed n l L i) (h2 : WPO P W ops Q S fuel listed n l L j) (h3 : WPO P W ops Q S fuel listed n l L k) : WPD P W ops Q S (fuel + 1) listed n l L := by
  intro a w hf hs
  refine wpF_all hr (by simp) fun q hq => ?_
  rcases List.mem_cons.1 hq with rfl | hq
  · exact h1 a w hf hs
  · rcases List.mem_cons.1 hq with rfl | hq
    · exact h2 a w hf hs
    · obtain rfl : q = k := by simpa using hq
      exact h3 a w hf hs
theorem WPD.pick4 {S : World → Prop} {fuel : Nat} {listed : Array Bool} (i j k m : Nat) (hr : Region.ready .any ops listed = [i, j, k, m]) (h1 : WPO P W ops Q S fuel listed n l L i) (h2 : WPO P W ops Q S fuel listed n l L j) (h3 : WPO P W ops Q S fuel listed n l L k) (h4 : WPO P W ops Q S fuel listed n l L m) : WPD P W ops Q S (fuel + 1) listed n l L := by
  intro a w hf hs
  refine wpF_all hr (by simp) fun q hq => ?_
  rcases List.mem_cons.1 hq with rfl | hq
  · exact h1 a w hf hs
  · rcases List.mem_cons.1 hq with rfl | hq
    · exact h2 a w hf hs
    · rcases List.mem_cons.1 hq with rfl | hq
      · exact h3 a w hf hs
      · obtain rfl : q = m := by simpa using hq
        exact h4 a w hf hs
end
end Go.Proofs.Ytbomnihiapjmpaa.Sl

namespace Go.Proofs.Ytbomnihiapjmpaa.Ae
open Go.RowKit Go.Proofs.Ytbomnihiapjmpaa Go.Proofs.Ytbomnihiapjmpaa.Sl Go.Proofs.Ytbomnihiapjmpaa.TrP Go.Proofs.Ytbomnihiapjmpaa.Tb Go.Proofs.Ytbomnihiapjmpaa.Tc Go.Proofs.Ytbomnihiapjmpaa.Td Go.Proofs.Ytbomnihiapjmpaa.Te Go.Proofs.Ytbomnihiapjmpaa.Tk Go.Proofs.Ytbomnihiapjmpaa.Tl Go.Proofs.Ytbomnihiapjmpaa.Tm Go.Proofs.Ytbomnihiapjmpaa.Tj Go.Proofs.Ytbomnihiapjmpaa.Tn Go.Proofs.Ytbomnihiapjmpaa.Tp Go.Proofs.Ytbomnihiapjmpaa.Tq Go.Proofs.Ytbomnihiapjmpaa.Tr Go.Proofs.Ytbomnihiapjmpaa.Tx Go.Proofs.Ytbomnihiapjmpaa.TC Go.Proofs.Ytbomnihiapjmpaa.TD Go.Proofs.Ytbomnihiapjmpaa.TP Go.Proofs.Ytbomnihiapjmpaa.Aa Go.Proofs.Ytbomnihiapjmpaa.Ab Go.Proofs.Ytbomnihiapjmpaa.Ac Go.Proofs.Ytbomnihiapjmpaa.Ad
set_option linter.unusedVariables false
set_option linter.unusedSimpArgs false
set_option linter.unusedSectionVars false


theorem wrap3 {z : Int} (h : 0 ≤ z ∧ z ≤ 2) : IntKind.wrap .i32 z = z := by
  have h3 : z = 0 ∨ z = 1 ∨ z = 2 := by omega
  rcases h3 with rfl | rfl | rfl <;> decide
/-- a permission -/
structure Pm where
  k : Int
  key : ByteArray
  fin : ByteArray
def Pm.cells (p : Pm) : List Value := [.int .i64 p.k, .string p.key, .string p.fin]
theorem Pm.len (p : Pm) : (Pm.cells p).length = 3 := rfl
/-- a permission as it stands in memory -/
structure PmR where
  p : Pm
  b : Nat
  kb : Nat
  fb : Nat
  ck : Nat
  cf : Nat
  sk : List Value
  sf : List Value
def PmR.kv (r : PmR) : Value := .slice (some ⟨r.kb, 0, none⟩) r.p.key.size r.ck
def PmR.fv (r : PmR) : Value := .slice (some ⟨r.fb, 0, none⟩) r.p.fin.size r.cf
def PmP (r : PmR) : HProp := Sep [Pure (r.p.key.size ≤ r.ck ∧ r.p.fin.size ≤ r.cf), Blk r.b [.int .i32 r.p.k, r.kv, r.fv] 160, Blk r.kb (byteCells r.p.key ++ r.sk) 5, Blk r.fb (byteCells r.p.fin ++ r.sf) 5]
theorem pm_mk {W w : World} {L : List HProp} (r : PmR) (h1 : r.p.key.size ≤ r.ck) (h2 : r.p.fin.size ≤ r.cf) (h : Sat W (Blk r.b [.int .i32 r.p.k, r.kv, r.fv] 160 :: Blk r.kb (byteCells r.p.key ++ r.sk) 5 :: Blk r.fb (byteCells r.p.fin ++ r.sf) 5 :: L) w) : Sat W (PmP r :: L) w := Sat.sep_mk (M := [_, _, _, _]) (Sat.pure_mk ⟨h1, h2⟩ h)
theorem enp_nil {W w : World} {L : List HProp} (h : Sat W L w) : Sat W (Enp ⟨top, 132, .slice none 0 0⟩ :: L) w := Sat.ex_mk (EV.b []) (Sat.sep_mk (M := [_, _]) (Sat.pure_mk ⟨rfl, rfl⟩ (Sat.bytsNil h)))
set_option maxRecDepth 100000 in
set_option maxHeartbeats 2000000 in
theorem order_does (z : Int) (hz : 0 ≤ z ∧ z ≤ 2) : Does Try.prog 83 [.int .i64 (z)] [] (fun v L => v = .int .i32 z ∧ L = []) := by
  refine Does.enter 11 Try.func83 rfl rfl rfl fun W F => ?_
  show WPc _ _ _ _ _ [(0, .int .i64 (z))] (F)
  refine WPc.seq ?_
  refine WPc.region ?_
  refine WP.val rfl rfl rfl (Val.assign rfl rfl) ?_
  refine WP.nil ?_
  refine Out.next ?_
  refine WPc.seq ?_
  refine WPc.seq ?_
  refine WPc.region ?_
  refine WP.val rfl rfl rfl (Val.move rfl rfl) ?_
  refine WP.val rfl rfl rfl (Val.lss rfl rfl rfl) ?_
  refine WP.val rfl rfl rfl (Val.move rfl rfl) ?_
  refine WP.split 5 rfl (fun h1 => ?_) (fun h1 => ?_)
  · skip
    have h1 : (z < (-2147483648 : Int)) := h1
    exfalso; omega
  · skip
    have h1 : ¬ (z < (-2147483648 : Int)) := h1
    refine WP.valG rfl rfl rfl rfl rfl rfl rfl (Val.move rfl rfl) ?_
    refine WP.valG rfl rfl rfl rfl rfl rfl rfl (Val.gtr rfl rfl rfl) ?_
    refine WP.val rfl rfl rfl (Val.pickF rfl rfl rfl) ?_
    refine WP.nil ?_
    refine Out.next ?_
    refine WPc.ifP rfl (fun h2 => ?_) (fun h2 => ?_)
    · skip
      have h2 : ((2147483647 : Int) < z) := h2
      exfalso; omega
    · skip
      have h2 : ¬ ((2147483647 : Int) < z) := h2
      refine WPc.skip ?_
      refine Out.next ?_
      refine WPc.seq ?_
      refine WPc.region ?_
      refine WP.val rfl rfl rfl (Val.move rfl rfl) ?_
      refine WP.val rfl rfl rfl (Val.conv (z := IntKind.wrap .i32 z) rfl Ty.ik21 Ty.un3 rfl rfl) ?_
      refine WP.val rfl rfl rfl (Val.assign rfl rfl) ?_
      refine WP.nil ?_
      refine Out.next ?_
      refine WPc.ret ?_
      exact Out.ret1 (L' := []) Try.results83 rfl ⟨congrArg (Value.int .i32) (wrap3 hz), rfl⟩ (fun w h => h)
set_option maxRecDepth 100000 in
set_option maxHeartbeats 2000000 in
theorem permIn_does (p : Pm) (hk : 0 ≤ p.k ∧ p.k ≤ 2) : Does Try.prog 58 [.agg #[.int .i64 (p.k), .string p.key, .string p.fin]] [] (fun v L => ∃ r : PmR, r.p = p ∧ v = .pointer (some ⟨r.b, 0, none⟩) ∧ L = [PmP r]) := by
  refine Does.enter 14 Try.func58 rfl rfl rfl fun W F => ?_
  show WPc _ _ _ _ _ [(0, .agg #[.int .i64 (p.k), .string p.key, .string p.fin])] (F)
  refine WPc.seq ?_
  refine WPc.region ?_
  refine WP.eff rfl rfl rfl (Eff.box (C := [.int .i64 (p.k), .string p.key, .string p.fin]) rfl rfl rfl) ?_
  rintro _ F ⟨b1, rfl, rfl⟩
  refine WP.val rfl rfl rfl (Val.assign rfl rfl) ?_
  refine WP.nil ?_
  refine Out.next ?_
  refine WPc.seq ?_
  refine WPD.start (Sat W [Blk b1 [.int .i64 (p.k), .string p.key, .string p.fin] 45]) Ty.mixed ?_
  refine WPD.takeM 0 rfl rfl rfl rfl (by kernel_rfl) (by kernel_rfl) (by kernel_rfl) (by kernel_rfl) (fun _ _ _ h => h) (fun w h => (h).dropEnd (L := [_])) (Val.fieldAddr (j := 0) rfl Ty.fo45_0 rfl rfl) ?_
  refine WPD.take 1 rfl rfl rfl rfl (by kernel_rfl) (by kernel_rfl) (by kernel_rfl) (by kernel_rfl) (fun _ _ _ h => h) (by kernel_rfl) (fun w h => (h).dropEnd (L := [_])) (Val.load rfl Ty.sc3 rfl (fun w h => h.cell 0 rfl rfl)) ?_
  refine WPD.takeM 3 rfl rfl rfl rfl (by kernel_rfl) (by kernel_rfl) (by kernel_rfl) (by kernel_rfl) (fun _ _ _ h => h) (fun w h => (h).dropEnd (L := [_])) (Val.fieldAddr (j := 1) rfl Ty.fo45_1 rfl rfl) ?_
  refine WPD.take 4 rfl rfl rfl rfl (by kernel_rfl) (by kernel_rfl) (by kernel_rfl) (by kernel_rfl) (fun _ _ _ h => h) (by kernel_rfl) (fun w h => (h).dropEnd (L := [_])) (Val.load rfl Ty.sc9 rfl (fun w h => h.cell 0 rfl rfl)) ?_
  refine WPD.takeM 6 rfl rfl rfl rfl (by kernel_rfl) (by kernel_rfl) (by kernel_rfl) (by kernel_rfl) (fun _ _ _ h => h) (fun w h => (h).dropEnd (L := [_])) (Val.fieldAddr (j := 2) rfl Ty.fo45_2 rfl rfl) ?_
  refine WPD.take 7 rfl rfl rfl rfl (by kernel_rfl) (by kernel_rfl) (by kernel_rfl) (by kernel_rfl) (fun _ _ _ h => h) (by kernel_rfl) (fun w h => (h).dropEnd (L := [_])) (Val.load rfl Ty.sc9 rfl (fun w h => h.cell 0 rfl rfl)) ?_
  refine WPD.pick3 2 5 8 (by kernel_rfl) ?_ ?_ ?_
  · skip
    refine WPO.step rfl rfl rfl rfl (Eff.call rfl rfl Try.call83 (order_does p.k hk)) ?_
    rintro _ _ ⟨_, ⟨rfl, rfl⟩, rfl⟩
    refine ⟨(fun w h => (h).dropEnd (L := [_])), ?_⟩
    show WPD _ _ _ _ _ _ _ _ _ (Blk b1 [.int .i64 (p.k), .string p.key, .string p.fin] 45 :: F)
    refine WPD.pick2 5 8 (by kernel_rfl) ?_ ?_
    · skip
      refine WPO.step rfl rfl rfl rfl (Eff.bytes rfl Ty.st9 Ty.by110 rfl) ?_
      rintro _ _ ⟨b2, capb2, spb2, rfl, hcb2, hsb2, rfl⟩
      refine ⟨(fun w h => ((h.perm pl1)).dropEnd (L := [_])), ?_⟩
      refine WPD.step 8 (by kernel_rfl) rfl rfl rfl rfl (Eff.bytes rfl Ty.st9 Ty.by110 rfl) ?_
      rintro _ _ ⟨b3, capb3, spb3, rfl, hcb3, hsb3, rfl⟩
      refine ⟨(fun w h => ((h.perm pl2)).dropEnd (L := [_])), ?_⟩
      refine WPD.takeM 9 rfl rfl rfl rfl (by kernel_rfl) (by kernel_rfl) (by kernel_rfl) (by kernel_rfl) (fun _ _ _ h => h) (fun w h => ((h.perm pl2)).dropEnd (L := [_])) (Val.mk (cs := [.int .i32 (p.k), .slice (some ⟨b2, 0, none⟩) ((p.key).size) capb2, .slice (some ⟨b3, 0, none⟩) ((p.fin).size) capb3]) rfl rfl (fun _ => by kernel_rfl)) ?_
      refine WPD.stepC 10 (by kernel_rfl) rfl rfl rfl rfl (by kernel_rfl) (Eff.box (C := [.int .i32 (p.k), .slice (some ⟨b2, 0, none⟩) ((p.key).size) capb2, .slice (some ⟨b3, 0, none⟩) ((p.fin).size) capb3]) rfl rfl rfl) ?_
      rintro _ _ ⟨b4, rfl, rfl⟩
      refine ⟨(Sat W (Blk b4 [.int .i32 (p.k), .slice (some ⟨b2, 0, none⟩) ((p.key).size) capb2, .slice (some ⟨b3, 0, none⟩) ((p.fin).size) capb3] 160 :: Blk b3 (byteCells p.fin ++ spb3) 5 :: Blk b2 (byteCells p.key ++ spb2) 5 :: Blk b1 [.int .i64 (p.k), .string p.key, .string p.fin] 45 :: F)), (fun _ h => h), ?_⟩
      refine WPD.takeM 11 rfl rfl rfl rfl (by kernel_rfl) (by kernel_rfl) (by kernel_rfl) (by kernel_rfl) (fun _ _ _ h => h) (fun _ h => h) (Val.assign rfl rfl) ?_
      refine WPD.done (by kernel_rfl) ?_
      refine Out.next ?_
      refine WPc.ret ?_
      refine Out.perm pl3 ?_
      refine Out.drop ?_
      refine Out.perm pl1 ?_
      refine Out.perm pl2 ?_
      refine Out.perm pl2 ?_
      exact Out.ret1 (L' := [PmP ⟨p, b4, b2, b3, capb2, capb3, spb2, spb3⟩]) Try.results58 rfl ⟨⟨p, b4, b2, b3, capb2, capb3, spb2, spb3⟩, rfl, rfl, rfl⟩ (fun w h => pm_mk ⟨p, b4, b2, b3, capb2, capb3, spb2, spb3⟩ hcb2 hcb3 h)
    · skip
      refine WPO.step rfl rfl rfl rfl (Eff.bytes rfl Ty.st9 Ty.by110 rfl) ?_
      rintro _ _ ⟨b5, capb5, spb5, rfl, hcb5, hsb5, rfl⟩
      refine ⟨(fun w h => ((h.perm pl1)).dropEnd (L := [_])), ?_⟩
      refine WPD.step 5 (by kernel_rfl) rfl rfl rfl rfl (Eff.bytes rfl Ty.st9 Ty.by110 rfl) ?_
      rintro _ _ ⟨b6, capb6, spb6, rfl, hcb6, hsb6, rfl⟩
      refine ⟨(fun w h => ((h.perm pl2)).dropEnd (L := [_])), ?_⟩
      refine WPD.takeM 9 rfl rfl rfl rfl (by kernel_rfl) (by kernel_rfl) (by kernel_rfl) (by kernel_rfl) (fun _ _ _ h => h) (fun w h => ((h.perm pl2)).dropEnd (L := [_])) (Val.mk (cs := [.int .i32 (p.k), .slice (some ⟨b6, 0, none⟩) ((p.key).size) capb6, .slice (some ⟨b5, 0, none⟩) ((p.fin).size) capb5]) rfl rfl (fun _ => by kernel_rfl)) ?_
      refine WPD.stepC 10 (by kernel_rfl) rfl rfl rfl rfl (by kernel_rfl) (Eff.box (C := [.int .i32 (p.k), .slice (some ⟨b6, 0, none⟩) ((p.key).size) capb6, .slice (some ⟨b5, 0, none⟩) ((p.fin).size) capb5]) rfl rfl rfl) ?_
      rintro _ _ ⟨b7, rfl, rfl⟩
      refine ⟨(Sat W (Blk b7 [.int .i32 (p.k), .slice (some ⟨b6, 0, none⟩) ((p.key).size) capb6, .slice (some ⟨b5, 0, none⟩) ((p.fin).size) capb5] 160 :: Blk b6 (byteCells p.key ++ spb6) 5 :: Blk b5 (byteCells p.fin ++ spb5) 5 :: Blk b1 [.int .i64 (p.k), .string p.key, .string p.fin] 45 :: F)), (fun _ h => h), ?_⟩
      refine WPD.takeM 11 rfl rfl rfl rfl (by kernel_rfl) (by kernel_rfl) (by kernel_rfl) (by kernel_rfl) (fun _ _ _ h => h) (fun _ h => h) (Val.assign rfl rfl) ?_
      refine WPD.done (by kernel_rfl) ?_
      refine Out.next ?_
      refine WPc.ret ?_
      refine Out.perm pl3 ?_
      refine Out.drop ?_
      exact Out.ret1 (L' := [PmP ⟨p, b7, b6, b5, capb6, capb5, spb6, spb5⟩]) Try.results58 rfl ⟨⟨p, b7, b6, b5, capb6, capb5, spb6, spb5⟩, rfl, rfl, rfl⟩ (fun w h => pm_mk ⟨p, b7, b6, b5, capb6, capb5, spb6, spb5⟩ hcb6 hcb5 h)
  · skip
    refine WPO.step rfl rfl rfl rfl (Eff.bytes rfl Ty.st9 Ty.by110 rfl) ?_
    rintro _ _ ⟨b8, capb8, spb8, rfl, hcb8, hsb8, rfl⟩
    refine ⟨(fun w h => ((h.perm pl1)).dropEnd (L := [_])), ?_⟩
    refine WPD.pick2 2 8 (by kernel_rfl) ?_ ?_
    · skip
      refine WPO.step rfl rfl rfl rfl (Eff.call rfl rfl Try.call83 (order_does p.k hk)) ?_
      rintro _ _ ⟨_, ⟨rfl, rfl⟩, rfl⟩
      refine ⟨(fun w h => ((h.perm pl1)).dropEnd (L := [_])), ?_⟩
      show WPD _ _ _ _ _ _ _ _ _ (Blk b8 (byteCells p.key ++ spb8) 5 :: Blk b1 [.int .i64 (p.k), .string p.key, .string p.fin] 45 :: F)
      refine WPD.step 8 (by kernel_rfl) rfl rfl rfl rfl (Eff.bytes rfl Ty.st9 Ty.by110 rfl) ?_
      rintro _ _ ⟨b9, capb9, spb9, rfl, hcb9, hsb9, rfl⟩
      refine ⟨(fun w h => ((h.perm pl2)).dropEnd (L := [_])), ?_⟩
      refine WPD.takeM 9 rfl rfl rfl rfl (by kernel_rfl) (by kernel_rfl) (by kernel_rfl) (by kernel_rfl) (fun _ _ _ h => h) (fun w h => ((h.perm pl2)).dropEnd (L := [_])) (Val.mk (cs := [.int .i32 (p.k), .slice (some ⟨b8, 0, none⟩) ((p.key).size) capb8, .slice (some ⟨b9, 0, none⟩) ((p.fin).size) capb9]) rfl rfl (fun _ => by kernel_rfl)) ?_
      refine WPD.stepC 10 (by kernel_rfl) rfl rfl rfl rfl (by kernel_rfl) (Eff.box (C := [.int .i32 (p.k), .slice (some ⟨b8, 0, none⟩) ((p.key).size) capb8, .slice (some ⟨b9, 0, none⟩) ((p.fin).size) capb9]) rfl rfl rfl) ?_
      rintro _ _ ⟨b10, rfl, rfl⟩
      refine ⟨(Sat W (Blk b10 [.int .i32 (p.k), .slice (some ⟨b8, 0, none⟩) ((p.key).size) capb8, .slice (some ⟨b9, 0, none⟩) ((p.fin).size) capb9] 160 :: Blk b9 (byteCells p.fin ++ spb9) 5 :: Blk b8 (byteCells p.key ++ spb8) 5 :: Blk b1 [.int .i64 (p.k), .string p.key, .string p.fin] 45 :: F)), (fun _ h => h), ?_⟩
      refine WPD.takeM 11 rfl rfl rfl rfl (by kernel_rfl) (by kernel_rfl) (by kernel_rfl) (by kernel_rfl) (fun _ _ _ h => h) (fun _ h => h) (Val.assign rfl rfl) ?_
      refine WPD.done (by kernel_rfl) ?_
      refine Out.next ?_
      refine WPc.ret ?_
      refine Out.perm pl3 ?_
      refine Out.drop ?_
      refine Out.perm pl1 ?_
      refine Out.perm pl2 ?_
      refine Out.perm pl2 ?_
      exact Out.ret1 (L' := [PmP ⟨p, b10, b8, b9, capb8, capb9, spb8, spb9⟩]) Try.results58 rfl ⟨⟨p, b10, b8, b9, capb8, capb9, spb8, spb9⟩, rfl, rfl, rfl⟩ (fun w h => pm_mk ⟨p, b10, b8, b9, capb8, capb9, spb8, spb9⟩ hcb8 hcb9 h)
    · skip
      refine WPO.step rfl rfl rfl rfl (Eff.bytes rfl Ty.st9 Ty.by110 rfl) ?_
      rintro _ _ ⟨b11, capb11, spb11, rfl, hcb11, hsb11, rfl⟩
      refine ⟨(fun w h => ((h.perm pl2)).dropEnd (L := [_])), ?_⟩
      refine WPD.step 2 (by kernel_rfl) rfl rfl rfl rfl (Eff.call rfl rfl Try.call83 (order_does p.k hk)) ?_
      rintro _ _ ⟨_, ⟨rfl, rfl⟩, rfl⟩
      refine ⟨(fun w h => ((h.perm pl2)).dropEnd (L := [_])), ?_⟩
      show WPD _ _ _ _ _ _ _ _ _ (Blk b11 (byteCells p.fin ++ spb11) 5 :: Blk b8 (byteCells p.key ++ spb8) 5 :: Blk b1 [.int .i64 (p.k), .string p.key, .string p.fin] 45 :: F)
      refine WPD.takeM 9 rfl rfl rfl rfl (by kernel_rfl) (by kernel_rfl) (by kernel_rfl) (by kernel_rfl) (fun _ _ _ h => h) (fun w h => ((h.perm pl2)).dropEnd (L := [_])) (Val.mk (cs := [.int .i32 (p.k), .slice (some ⟨b8, 0, none⟩) ((p.key).size) capb8, .slice (some ⟨b11, 0, none⟩) ((p.fin).size) capb11]) rfl rfl (fun _ => by kernel_rfl)) ?_
      refine WPD.stepC 10 (by kernel_rfl) rfl rfl rfl rfl (by kernel_rfl) (Eff.box (C := [.int .i32 (p.k), .slice (some ⟨b8, 0, none⟩) ((p.key).size) capb8, .slice (some ⟨b11, 0, none⟩) ((p.fin).size) capb11]) rfl rfl rfl) ?_
      rintro _ _ ⟨b12, rfl, rfl⟩
      refine ⟨(Sat W (Blk b12 [.int .i32 (p.k), .slice (some ⟨b8, 0, none⟩) ((p.key).size) capb8, .slice (some ⟨b11, 0, none⟩) ((p.fin).size) capb11] 160 :: Blk b11 (byteCells p.fin ++ spb11) 5 :: Blk b8 (byteCells p.key ++ spb8) 5 :: Blk b1 [.int .i64 (p.k), .string p.key, .string p.fin] 45 :: F)), (fun _ h => h), ?_⟩
      refine WPD.takeM 11 rfl rfl rfl rfl (by kernel_rfl) (by kernel_rfl) (by kernel_rfl) (by kernel_rfl) (fun _ _ _ h => h) (fun _ h => h) (Val.assign rfl rfl) ?_
      refine WPD.done (by kernel_rfl) ?_
      refine Out.next ?_
      refine WPc.ret ?_
      refine Out.perm pl3 ?_
      refine Out.drop ?_
      refine Out.perm pl1 ?_
      refine Out.perm pl2 ?_
      refine Out.perm pl2 ?_
      exact Out.ret1 (L' := [PmP ⟨p, b12, b8, b11, capb8, capb11, spb8, spb11⟩]) Try.results58 rfl ⟨⟨p, b12, b8, b11, capb8, capb11, spb8, spb11⟩, rfl, rfl, rfl⟩ (fun w h => pm_mk ⟨p, b12, b8, b11, capb8, capb11, spb8, spb11⟩ hcb8 hcb11 h)
  · skip
    refine WPO.step rfl rfl rfl rfl (Eff.bytes rfl Ty.st9 Ty.by110 rfl) ?_
    rintro _ _ ⟨b13, capb13, spb13, rfl, hcb13, hsb13, rfl⟩
    refine ⟨(fun w h => ((h.perm pl1)).dropEnd (L := [_])), ?_⟩
    refine WPD.pick2 2 5 (by kernel_rfl) ?_ ?_
    · skip
      refine WPO.step rfl rfl rfl rfl (Eff.call rfl rfl Try.call83 (order_does p.k hk)) ?_
      rintro _ _ ⟨_, ⟨rfl, rfl⟩, rfl⟩
      refine ⟨(fun w h => ((h.perm pl1)).dropEnd (L := [_])), ?_⟩
      show WPD _ _ _ _ _ _ _ _ _ (Blk b13 (byteCells p.fin ++ spb13) 5 :: Blk b1 [.int .i64 (p.k), .string p.key, .string p.fin] 45 :: F)
      refine WPD.step 5 (by kernel_rfl) rfl rfl rfl rfl (Eff.bytes rfl Ty.st9 Ty.by110 rfl) ?_
      rintro _ _ ⟨b14, capb14, spb14, rfl, hcb14, hsb14, rfl⟩
      refine ⟨(fun w h => ((h.perm pl2)).dropEnd (L := [_])), ?_⟩
      refine WPD.takeM 9 rfl rfl rfl rfl (by kernel_rfl) (by kernel_rfl) (by kernel_rfl) (by kernel_rfl) (fun _ _ _ h => h) (fun w h => ((h.perm pl2)).dropEnd (L := [_])) (Val.mk (cs := [.int .i32 (p.k), .slice (some ⟨b14, 0, none⟩) ((p.key).size) capb14, .slice (some ⟨b13, 0, none⟩) ((p.fin).size) capb13]) rfl rfl (fun _ => by kernel_rfl)) ?_
      refine WPD.stepC 10 (by kernel_rfl) rfl rfl rfl rfl (by kernel_rfl) (Eff.box (C := [.int .i32 (p.k), .slice (some ⟨b14, 0, none⟩) ((p.key).size) capb14, .slice (some ⟨b13, 0, none⟩) ((p.fin).size) capb13]) rfl rfl rfl) ?_
      rintro _ _ ⟨b15, rfl, rfl⟩
      refine ⟨(Sat W (Blk b15 [.int .i32 (p.k), .slice (some ⟨b14, 0, none⟩) ((p.key).size) capb14, .slice (some ⟨b13, 0, none⟩) ((p.fin).size) capb13] 160 :: Blk b14 (byteCells p.key ++ spb14) 5 :: Blk b13 (byteCells p.fin ++ spb13) 5 :: Blk b1 [.int .i64 (p.k), .string p.key, .string p.fin] 45 :: F)), (fun _ h => h), ?_⟩
      refine WPD.takeM 11 rfl rfl rfl rfl (by kernel_rfl) (by kernel_rfl) (by kernel_rfl) (by kernel_rfl) (fun _ _ _ h => h) (fun _ h => h) (Val.assign rfl rfl) ?_
      refine WPD.done (by kernel_rfl) ?_
      refine Out.next ?_
      refine WPc.ret ?_
      refine Out.perm pl3 ?_
      refine Out.drop ?_
      exact Out.ret1 (L' := [PmP ⟨p, b15, b14, b13, capb14, capb13, spb14, spb13⟩]) Try.results58 rfl ⟨⟨p, b15, b14, b13, capb14, capb13, spb14, spb13⟩, rfl, rfl, rfl⟩ (fun w h => pm_mk ⟨p, b15, b14, b13, capb14, capb13, spb14, spb13⟩ hcb14 hcb13 h)
    · skip
      refine WPO.step rfl rfl rfl rfl (Eff.bytes rfl Ty.st9 Ty.by110 rfl) ?_
      rintro _ _ ⟨b16, capb16, spb16, rfl, hcb16, hsb16, rfl⟩
      refine ⟨(fun w h => ((h.perm pl2)).dropEnd (L := [_])), ?_⟩
      refine WPD.step 2 (by kernel_rfl) rfl rfl rfl rfl (Eff.call rfl rfl Try.call83 (order_does p.k hk)) ?_
      rintro _ _ ⟨_, ⟨rfl, rfl⟩, rfl⟩
      refine ⟨(fun w h => ((h.perm pl2)).dropEnd (L := [_])), ?_⟩
      show WPD _ _ _ _ _ _ _ _ _ (Blk b16 (byteCells p.key ++ spb16) 5 :: Blk b13 (byteCells p.fin ++ spb13) 5 :: Blk b1 [.int .i64 (p.k), .string p.key, .string p.fin] 45 :: F)
      refine WPD.takeM 9 rfl rfl rfl rfl (by kernel_rfl) (by kernel_rfl) (by kernel_rfl) (by kernel_rfl) (fun _ _ _ h => h) (fun w h => ((h.perm pl2)).dropEnd (L := [_])) (Val.mk (cs := [.int .i32 (p.k), .slice (some ⟨b16, 0, none⟩) ((p.key).size) capb16, .slice (some ⟨b13, 0, none⟩) ((p.fin).size) capb13]) rfl rfl (fun _ => by kernel_rfl)) ?_
      refine WPD.stepC 10 (by kernel_rfl) rfl rfl rfl rfl (by kernel_rfl) (Eff.box (C := [.int .i32 (p.k), .slice (some ⟨b16, 0, none⟩) ((p.key).size) capb16, .slice (some ⟨b13, 0, none⟩) ((p.fin).size) capb13]) rfl rfl rfl) ?_
      rintro _ _ ⟨b17, rfl, rfl⟩
      refine ⟨(Sat W (Blk b17 [.int .i32 (p.k), .slice (some ⟨b16, 0, none⟩) ((p.key).size) capb16, .slice (some ⟨b13, 0, none⟩) ((p.fin).size) capb13] 160 :: Blk b16 (byteCells p.key ++ spb16) 5 :: Blk b13 (byteCells p.fin ++ spb13) 5 :: Blk b1 [.int .i64 (p.k), .string p.key, .string p.fin] 45 :: F)), (fun _ h => h), ?_⟩
      refine WPD.takeM 11 rfl rfl rfl rfl (by kernel_rfl) (by kernel_rfl) (by kernel_rfl) (by kernel_rfl) (fun _ _ _ h => h) (fun _ h => h) (Val.assign rfl rfl) ?_
      refine WPD.done (by kernel_rfl) ?_
      refine Out.next ?_
      refine WPc.ret ?_
      refine Out.perm pl3 ?_
      refine Out.drop ?_
      exact Out.ret1 (L' := [PmP ⟨p, b17, b16, b13, capb16, capb13, spb16, spb13⟩]) Try.results58 rfl ⟨⟨p, b17, b16, b13, capb16, capb13, spb16, spb13⟩, rfl, rfl, rfl⟩ (fun w h => pm_mk ⟨p, b17, b16, b13, capb16, capb13, spb16, spb13⟩ hcb16 hcb13 h)

end Go.Proofs.Ytbomnihiapjmpaa.Ae

namespace Go.Proofs.Ytbomnihiapjmpaa.Sl
open Go.RowKit Go.Lib
set_option linter.unusedSectionVars false
set_option linter.unusedVariables false
set_option linter.unusedSimpArgs false
section
variable [Dfs]
variable {P : Program} {W : World} {n : Nat} {l : List (Nat × Value)} {L : List HProp} {o : Oper} {Q : Exit → Act → World → Prop}
/-- a literal's row, of which it is known that it is new -/
theorem Eff.mkSliceO {t e : TypeId} {m : Nat} {ps : List (Nat × Operand)} {vs : List (Nat × Value)} {C : List Value} (ho : o.op = .buildSlice t m ps.toArray) (hv : evps l ps = some vs)
    (hb : ∀ w, (Instr.buildSlice t m vs.toArray).run P w = .ok (.slice (some ⟨w.heap.size, 0, none⟩) m m) (w.alloc (.cells C.toArray e))) : Eff P W Q n l L o (fun u M => ∃ b, u = .slice (some ⟨b, 0, none⟩) m m ∧ M = Obk b (.cells C.toArray e (0, 0)) :: L) := fun a w hf hs K hK => by
  have e1 : (ps.toArray.map fun x => match x with | (i, y) => (i, a.eval y)) = vs.toArray := by
    have := hf.evps hv
    rw [← this, List.map_toArray]
  unfold Oper.wp
  simp only [execOp, ho, e1, Sem.run_bind, hb w]
  exact hK _ _ _ ⟨w.heap.size, rfl, rfl⟩ (hs.alloc (.cells C.toArray e))
/-- bytes of a literal, turned into their own type: the row keeps a mark behind its end -/
theorem Eff.convRow {t e : TypeId} {x : Operand} {b m c : Nat} {C : List Value} (ho : o.op = .convert t t x) (ht : isBytes P t = some e) (hx : ev l x = some (.slice (some ⟨b, 0, none⟩) m c)) :
    Eff P W Q n l (Obk b (.cells C.toArray e (0, 0)) :: L) o (fun u M => u = .slice (some ⟨b, 0, none⟩) m c ∧ M = Blk b C e :: L) := fun a w hf hs K hK => by
  obtain ⟨h1, h2⟩ := isBytes_of ht
  have hb := hs.head.obk
  have hsh : w.shape? b = some (e, C.length) := by
    unfold World.shape?
    rw [hb]
    simp
  have hr : (convert t t (.slice (some ⟨b, 0, none⟩) m c)).run P w = .ok (.slice (some ⟨b, 0, none⟩) m c) (w.freeze ⟨b, C.length, none⟩ 1) := by
    simp [convert, run_underlying h1 w, run_underlying h2 w, markStringish, hsh]
  unfold Oper.wp
  simp only [execOp, ho, hf.ev hx, Sem.run_bind, hr]
  refine hK _ _ _ ⟨rfl, rfl⟩ ?_
  have h3 := hs.write (w.freeze ⟨b, C.length, none⟩ 1) (o' := .cells C.toArray e (C.length, C.length + 1)) (by simp [World.freeze]) (by simp [World.freeze]) (by simp [World.freeze]) (by simp [World.freeze]) (by
    simp only [World.freeze]
    rw [if_neg (by simp)]
    simp [Array.getElem?_modify, hb]) (fun k hk => by
    simp only [World.freeze]
    rw [if_neg (by simp)]
    simp only [Array.getElem?_modify]
    rw [if_neg (fun e => hk e.symm)])
  exact h3.imp fun _ _ _ ⟨k1, k2⟩ => ⟨k1, _, k2, .inr ⟨isBytes_5 ht, fun i hi => by show ¬ (C.length ≤ i ∧ i < C.length + 1); omega⟩⟩
end
end Go.Proofs.Ytbomnihiapjmpaa.Sl

namespace Go.Proofs.Ytbomnihiapjmpaa.Sl
open Go.RowKit
set_option linter.unusedVariables false
/-- a row that stays as it is, opened ahead of a call -/
theorem Does.seq {P : Program} {f : FuncId} {args : List Value} {v : Value} {n : Nat} {xs : List Value} {L : List HProp} {R : Value → List HProp → Prop} (hn : 0 < n)
    (h : ∀ (b c : Nat) (sp : List Value) (T : TypeId), v = .slice (some ⟨b, 0, none⟩) n c → n ≤ c → Does P f args (Ro (Blk b (xs ++ sp) T) :: Seq v n xs :: L) R) : Does P f args (Seq v n xs :: L) R := by
  intro W F w hs
  obtain ⟨q, hq⟩ := Sat.seqOpen hn hs
  obtain ⟨h1, h2⟩ := hq.pure
  exact h q.1 q.2.1 q.2.2.1 q.2.2.2 h1 h2 W F w hq.drop
/-- nil, or a row -/
theorem Does.seqC {P : Program} {f : FuncId} {args : List Value} {v : Value} {n : Nat} {xs : List Value} {L : List HProp} {R : Value → List HProp → Prop}
    (h0 : v = .slice none 0 0 → n = 0 → Does P f args (Seq v n xs :: L) R)
    (h : ∀ (b c : Nat) (sp : List Value) (T : TypeId), v = .slice (some ⟨b, 0, none⟩) n c → n ≤ c → Does P f args (Ro (Blk b (xs ++ sp) T) :: Seq v n xs :: L) R) : Does P f args (Seq v n xs :: L) R := by
  intro W F w hs
  obtain ⟨q, hq⟩ := (Sat.dup (A := Seq v n xs) Seq.pers hs).ex
  cases q with
  | none => exact h0 hq.pure.1 hq.pure.2.1 W F w hs
  | some q =>
    obtain ⟨b, c, sp, T⟩ := q
    exact h b c sp T hq.sep.pure.1 hq.sep.pure.2 W F w hq.sep.drop
theorem Sat.seqNil {W w : World} {L : List HProp} (h : Sat W L w) : Sat W (Seq (.slice none 0 0) 0 [] :: L) w := Sat.ex_mk none (Sat.pure_mk ⟨rfl, rfl, rfl⟩ h)
theorem Sat.seqDup {W w : World} {v : Value} {n : Nat} {xs : List Value} {L : List HProp} (h : Sat W (Seq v n xs :: L) w) : Sat W (Seq v n xs :: Seq v n xs :: L) w := Sat.dup Seq.pers h
section
variable {P : Program} {W : World} {n : Nat} {l : List (Nat × Value)} {L : List HProp}
theorem results_cct {fn : Func} {t u s : Tmp} {ty ty' : TypeId} {x : Value} {b k b' k' : Nat} {cs cs' : List Value} (hr : fn.results = #[.cell u ty, .cell t ty', .tmp s]) (hu : Sl.look l u = some (.pointer (some ⟨b, 0, none⟩))) (hv : Sl.look l t = some (.pointer (some ⟨b', 0, none⟩))) (hx : Sl.look l s = some x) (ht : aggS P ty = some k) (hk : cs.length = k)
    (hc : ∀ w, Sat W L w → w.rangeAt b 0 cs) (ht' : aggS P ty' = some k') (hk' : cs'.length = k')
    (hc' : ∀ w, Sat W L w → w.rangeAt b' 0 cs') : ∀ a w, Fr n a l → Sat W L w → (results fn a.tmps).run P w = .ok (.tuple #[.agg cs.toArray, .agg cs'.toArray, x]) w := fun a w hf hs => by
  obtain ⟨d, h1, h2, h3⟩ := aggS_row ht
  obtain ⟨d', h1', h2', h3'⟩ := aggS_row ht'
  have := run_loadVar_mid (P := P) w b 0 ty cs d (hc w hs) h1 h2 (by rw [h3, hk])
  have this' := run_loadVar_mid (P := P) w b' 0 ty' cs' d' (hc' w hs) h1' h2' (by rw [h3', hk'])
  have e := hf.at_ u _ hu
  have e2 := hf.at_ t _ hv
  have e3 := hf.at_ s _ hx
  rw [Array.getD_eq_getD_getElem?] at e e2 e3
  simp [results, hr, e, e2, e3, asAddr, this, this']
end
end Go.Proofs.Ytbomnihiapjmpaa.Sl

namespace Go.Proofs.Ytbomnihiapjmpaa.Af
open Go.RowKit Go.Proofs.Ytbomnihiapjmpaa Go.Proofs.Ytbomnihiapjmpaa.Sl Go.Proofs.Ytbomnihiapjmpaa.TrP Go.Proofs.Ytbomnihiapjmpaa.Tb Go.Proofs.Ytbomnihiapjmpaa.Tc Go.Proofs.Ytbomnihiapjmpaa.Td Go.Proofs.Ytbomnihiapjmpaa.Te Go.Proofs.Ytbomnihiapjmpaa.Tk Go.Proofs.Ytbomnihiapjmpaa.Tl Go.Proofs.Ytbomnihiapjmpaa.Tm Go.Proofs.Ytbomnihiapjmpaa.Tj Go.Proofs.Ytbomnihiapjmpaa.Tn Go.Proofs.Ytbomnihiapjmpaa.Tp Go.Proofs.Ytbomnihiapjmpaa.Tq Go.Proofs.Ytbomnihiapjmpaa.Tr Go.Proofs.Ytbomnihiapjmpaa.Tx Go.Proofs.Ytbomnihiapjmpaa.TC Go.Proofs.Ytbomnihiapjmpaa.TD Go.Proofs.Ytbomnihiapjmpaa.TP Go.Proofs.Ytbomnihiapjmpaa.Aa Go.Proofs.Ytbomnihiapjmpaa.Ab Go.Proofs.Ytbomnihiapjmpaa.Ac Go.Proofs.Ytbomnihiapjmpaa.Ad Go.Proofs.Ytbomnihiapjmpaa.Ae
set_option linter.unusedVariables false
set_option linter.unusedSimpArgs false
set_option linter.unusedSectionVars false

set_option maxRecDepth 100000 in
set_option maxHeartbeats 2000000 in
theorem user_does (a0 : Option Addr) (m0 c0 : Nat) (n0 : ByteArray) : Does Try.prog 131 [.agg #[.slice a0 m0 c0], .string n0] [] (fun v L => ∃ b rb kb : Nat, v = .pointer (some ⟨b, 0, none⟩) ∧ L = [Blk b [.slice (some ⟨kb, 0, none⟩) 1 1, .slice none 0 0, .slice (some ⟨rb, 0, none⟩) 1 1, .pointer none] 244, Blk rb [.string ⟨#[114]⟩] 9]) := by
  refine Does.enter 10 Try.func131 rfl rfl rfl fun W F => ?_
  show WPc _ _ _ _ _ [(0, .agg #[.slice a0 m0 c0]), (1, .string n0)] (F)
  refine WPc.seq ?_
  refine WPc.region ?_
  refine WP.eff rfl rfl rfl (Eff.box (C := [.slice a0 m0 c0]) rfl rfl rfl) ?_
  rintro _ F ⟨b1, rfl, rfl⟩
  refine WP.val rfl rfl rfl (Val.assign rfl rfl) ?_
  refine WP.nil ?_
  refine Out.next ?_
  refine WPc.seq ?_
  refine WPc.region ?_
  refine WP.eff rfl rfl rfl (Eff.mkSliceO (e := 5) (C := [.int .u8 117]) rfl rfl (fun _ => by kernel_rfl)) ?_
  rintro _ _ ⟨kb, rfl, rfl⟩
  refine WP.eff rfl rfl rfl (Eff.convRow rfl Ty.by110 rfl) ?_
  rintro _ _ ⟨rfl, rfl⟩
  refine WP.eff rfl rfl rfl (Eff.mkSlice (C := [.string (⟨#[114]⟩)]) rfl Ty.sl30 rfl (fun _ => by kernel_rfl)) ?_
  rintro _ _ ⟨b2, rfl, rfl⟩
  refine WP.val rfl rfl rfl (Val.mk (cs := [.slice (some ⟨kb, 0, none⟩) 1 1, .slice none 0 0, .slice (some ⟨b2, 0, none⟩) 1 1, .pointer none]) rfl rfl (fun _ => by kernel_rfl)) ?_
  refine WP.eff rfl rfl rfl (Eff.box (C := [.slice (some ⟨kb, 0, none⟩) 1 1, .slice none 0 0, .slice (some ⟨b2, 0, none⟩) 1 1, .pointer none]) rfl rfl rfl) ?_
  rintro _ _ ⟨b3, rfl, rfl⟩
  refine WP.val rfl rfl rfl (Val.assign rfl rfl) ?_
  refine WP.nil ?_
  refine Out.next ?_
  refine WPc.ret ?_
  refine Out.perm pl2 ?_
  refine Out.drop ?_
  refine Out.perm pl2 ?_
  refine Out.drop ?_
  exact Out.ret1 (L' := _) Try.results131 rfl ⟨_, _, _, rfl, rfl⟩ (fun _ h => h)
set_option maxRecDepth 100000 in
set_option maxHeartbeats 2000000 in
theorem role_does (a0 : Option Addr) (m0 c0 : Nat) (n0 : ByteArray) : Does Try.prog 130 [.agg #[.slice a0 m0 c0], .string n0] [] (fun v L => ∃ b kb : Nat, v = .pointer (some ⟨b, 0, none⟩) ∧ L = [Blk b [.slice (some ⟨kb, 0, none⟩) 1 1, .slice a0 m0 c0] 248]) := by
  refine Does.enter 11 Try.func130 rfl rfl rfl fun W F => ?_
  show WPc _ _ _ _ _ [(0, .agg #[.slice a0 m0 c0]), (1, .string n0)] (F)
  refine WPc.seq ?_
  refine WPc.region ?_
  refine WP.eff rfl rfl rfl (Eff.box (C := [.slice a0 m0 c0]) rfl rfl rfl) ?_
  rintro _ F ⟨b1, rfl, rfl⟩
  refine WP.val rfl rfl rfl (Val.assign rfl rfl) ?_
  refine WP.nil ?_
  refine Out.next ?_
  refine WPc.seq ?_
  refine WPc.region ?_
  refine WP.eff rfl rfl rfl (Eff.mkSliceO (e := 5) (C := [.int .u8 114]) rfl rfl (fun _ => by kernel_rfl)) ?_
  rintro _ _ ⟨kb, rfl, rfl⟩
  refine WP.eff rfl rfl rfl (Eff.convRow rfl Ty.by110 rfl) ?_
  rintro _ _ ⟨rfl, rfl⟩
  refine WP.val rfl rfl rfl (Val.fieldAddr (j := 0) rfl Ty.fo164_0 rfl rfl) ?_
  refine WP.val rfl rfl rfl (Val.load rfl Ty.sc106 rfl (fun w h => h.cell 1 rfl rfl)) ?_
  refine WP.val rfl rfl rfl (Val.mk (cs := [.slice (some ⟨kb, 0, none⟩) 1 1, .slice a0 m0 c0]) rfl rfl (fun _ => by kernel_rfl)) ?_
  refine WP.eff rfl rfl rfl (Eff.box (C := [.slice (some ⟨kb, 0, none⟩) 1 1, .slice a0 m0 c0]) rfl rfl rfl) ?_
  rintro _ _ ⟨b2, rfl, rfl⟩
  refine WP.val rfl rfl rfl (Val.assign rfl rfl) ?_
  refine WP.nil ?_
  refine Out.next ?_
  refine WPc.ret ?_
  refine Out.perm pl1 ?_
  refine Out.drop ?_
  refine Out.perm pl1 ?_
  refine Out.drop ?_
  exact Out.ret1 (L' := _) Try.results130 rfl ⟨_, _, rfl, rfl⟩ (fun _ h => h)

def ptr1 (r : PmR) : List Value := [.pointer (some ⟨r.b, 0, none⟩)]
theorem ptr1.len (r : PmR) : (ptr1 r).length = 1 := rfl
/-- only the byte 0 -/
def opn (x : ByteArray) : Bool := decide (x.toList = [0])
/-- where a permission's range ends -/
def qE (key fin : ByteArray) : Ky := if fin.size = 0 then ka (key ++ (⟨#[0]⟩ : ByteArray)) else if opn fin = true then top else ka fin
/-- does a permission let it be read (0), or written (1)? -/
def alw (kd : Int) (p : Pm) : Prop := p.k = kd ∨ p.k = 2
instance (kd : Int) (p : Pm) : Decidable (alw kd p) := by unfold alw; exact inferInstance
/-- a tree has the ranges of just those permissions that are for it -/
structure Mem (kd : Int) (ps : List PmR) (t : T) : Prop where
  iff : ∀ b e, (∃ y ∈ t.ino, y.b.k = b ∧ y.e.k = e) ↔ ∃ r ∈ ps, alw kd r.p ∧ ka r.p.key = b ∧ qE r.p.key r.p.fin = e
  len : t.ino.length ≤ ps.length
theorem mem_nil (kd : Int) : Mem kd [] .leaf := ⟨fun b e => ⟨(fun ⟨y, hy, _⟩ => (List.not_mem_nil hy).elim), (fun ⟨y, hy, _⟩ => (List.not_mem_nil hy).elim)⟩, Nat.le_refl _⟩
theorem mem_yes {kd : Int} {ps : List PmR} {t : T} {r : PmR} {eb ee : En} {v : TypeId × Value} {z : Nat} (h : Mem kd ps t) (hs : Srt t.ino) (ha : alw kd r.p) (hb : eb.k = ka r.p.key) (he : ee.k = qE r.p.key r.p.fin) : Mem kd (ps ++ [r]) (insT z ⟨eb, ee, v.1, v.2⟩ t) := by
  refine ⟨fun b e => ?_, by rw [insT_len hs, List.length_append]; exact Nat.succ_le_succ h.len⟩
  rw [insT_ino hs]
  constructor
  · rintro ⟨y, hy, h1, h2⟩
    rcases putI_mem.1 hy with rfl | hy
    · exact ⟨r, by simp, ha, by rw [← h1]; exact hb.symm, by rw [← h2]; exact he.symm⟩
    · obtain ⟨q, hq, h3⟩ := (h.iff b e).1 ⟨y, hy, h1, h2⟩
      exact ⟨q, List.mem_append_left _ hq, h3⟩
  · rintro ⟨q, hq, h1, h2, h3⟩
    rcases List.mem_append.1 hq with hq | hq
    · obtain ⟨y, hy, h4⟩ := (h.iff b e).2 ⟨q, hq, h1, h2, h3⟩
      exact ⟨y, putI_mem.2 (.inr hy), h4⟩
    · obtain rfl := List.mem_singleton.1 hq
      exact ⟨_, putI_mem.2 (.inl rfl), hb.trans h2, he.trans h3⟩
theorem mem_no {kd : Int} {ps : List PmR} {t : T} {r : PmR} (h : Mem kd ps t) (ha : ¬ alw kd r.p) : Mem kd (ps ++ [r]) t := by
  refine ⟨fun b e => ?_, by rw [List.length_append]; exact Nat.le_trans h.len (Nat.le_add_right _ _)⟩
  rw [h.iff]
  constructor
  · rintro ⟨q, hq, h1⟩; exact ⟨q, List.mem_append_left _ hq, h1⟩
  · rintro ⟨q, hq, h1⟩
    rcases List.mem_append.1 hq with hq | hq
    · exact ⟨q, hq, h1⟩
    · obtain rfl := List.mem_singleton.1 hq
      exact absurd h1.1 ha
theorem byte0 {x : ByteArray} {sp : List Value} (h : x.size = 1) : ∃ c : UInt8, x.toList = [c] ∧ (byteCells x ++ sp)[0]? = some (.int .u8 ((c.toNat : Nat) : Int)) := by
  have h1 : x.data.toList.length = 1 := by rw [Array.length_toList]; exact h
  match hd : x.data.toList, h1 with
  | [c], _ =>
    refine ⟨c, by rw [ByteArray.toList_eq, hd], ?_⟩
    unfold byteCells
    rw [hd]; rfl
theorem pm_open {W w : World} {L : List HProp} {r : PmR} (h : Sat W (PmP r :: L) w) : Sat W (Pure (r.p.key.size ≤ r.ck ∧ r.p.fin.size ≤ r.cf) :: Blk r.b [.int .i32 r.p.k, r.kv, r.fv] 160 :: Blk r.kb (byteCells r.p.key ++ r.sk) 5 :: Blk r.fb (byteCells r.p.fin ++ r.sf) 5 :: L) w := Sat.sep (M := [_, _, _, _]) h
theorem qE_pt {key fin : ByteArray} (h : fin.size = 0) : qE key fin = ka (key ++ (⟨#[0]⟩ : ByteArray)) := if_pos h
theorem qE_open {key fin : ByteArray} (h : fin.size = 1) {c : UInt8} (hc : fin.toList = [c]) (h0 : ((c.toNat : Nat) : Int) = 0) : qE key fin = top := by
  unfold qE opn
  have : c = 0 := UInt8.toNat_inj.1 (by have : c.toNat = 0 := by omega
                                        rw [this]; rfl)
  rw [if_neg (by omega), hc, this]; rfl
theorem qE_1 {key fin : ByteArray} (h : fin.size = 1) {c : UInt8} (hc : fin.toList = [c]) (h0 : ¬ ((c.toNat : Nat) : Int) = 0) : qE key fin = ka fin := by
  unfold qE opn
  rw [if_neg (by omega), if_neg]
  rw [hc, decide_eq_true_eq]
  intro h1
  injection h1 with h1
  rw [h1] at h0; exact h0 rfl
theorem qE_n {key fin : ByteArray} (h : ¬ fin.size = 1) (h0 : ¬ fin.size = 0) : qE key fin = ka fin := by
  unfold qE opn
  rw [if_neg h0, if_neg]
  rw [decide_eq_true_eq]
  intro h1
  have h2 := congrArg List.length h1
  rw [ByteArray.toList_eq, Array.length_toList] at h2
  exact h h2

end Go.Proofs.Ytbomnihiapjmpaa.Af

namespace Go.Proofs.Ytbomnihiapjmpaa.Ag
open Go.RowKit Go.Proofs.Ytbomnihiapjmpaa Go.Proofs.Ytbomnihiapjmpaa.Sl Go.Proofs.Ytbomnihiapjmpaa.TrP Go.Proofs.Ytbomnihiapjmpaa.Tb Go.Proofs.Ytbomnihiapjmpaa.Tc Go.Proofs.Ytbomnihiapjmpaa.Td Go.Proofs.Ytbomnihiapjmpaa.Te Go.Proofs.Ytbomnihiapjmpaa.Tk Go.Proofs.Ytbomnihiapjmpaa.Tl Go.Proofs.Ytbomnihiapjmpaa.Tm Go.Proofs.Ytbomnihiapjmpaa.Tj Go.Proofs.Ytbomnihiapjmpaa.Tn Go.Proofs.Ytbomnihiapjmpaa.Tp Go.Proofs.Ytbomnihiapjmpaa.Tq Go.Proofs.Ytbomnihiapjmpaa.Tr Go.Proofs.Ytbomnihiapjmpaa.Tx Go.Proofs.Ytbomnihiapjmpaa.TC Go.Proofs.Ytbomnihiapjmpaa.TD Go.Proofs.Ytbomnihiapjmpaa.TP Go.Proofs.Ytbomnihiapjmpaa.Aa Go.Proofs.Ytbomnihiapjmpaa.Ab Go.Proofs.Ytbomnihiapjmpaa.Ac Go.Proofs.Ytbomnihiapjmpaa.Ad Go.Proofs.Ytbomnihiapjmpaa.Ae Go.Proofs.Ytbomnihiapjmpaa.Af
set_option linter.unusedVariables false
set_option linter.unusedSimpArgs false
set_option linter.unusedSectionVars false


theorem ptr_at {l : List PmR} {sp : List Value} {j : Nat} {r : PmR} (h : l[j]? = some r) : (flatOf ptr1 l ++ sp)[j]? = some (.pointer (some ⟨r.b, 0, none⟩)) := by
 have hlt := (List.getElem?_eq_some_iff.1 h).1
 have h2 := flatOf_at ptr1.len l j 0 r h (by omega)
 rw [Nat.mul_one, Nat.add_zero] at h2
 rw [List.getElem?_append_left (by rw [flatOf_length ptr1.len]; omega), h2]
 rfl
theorem drop_cons {α : Type} {l : List α} {j : Nat} {x : α} (h : l[j]? = some x) : l.drop j = x :: l.drop (j + 1) := by
 obtain ⟨hlt, e⟩ := List.getElem?_eq_some_iff.1 h
 rw [← e]; exact List.drop_eq_getElem_cons hlt
theorem take_more {α : Type} {l : List α} {i : Nat} {x : α} (h : l[i]? = some x) : l.take (i + 1) = l.take i ++ [x] := by rw [List.take_add_one, h]; rfl
theorem enp_0 {W w : World} {L : List HProp} {b : Nat} (x : ByteArray) (h : Sat W (Blk b (byteCells x ++ [Value.int .u8 0]) 5 :: L) w) : Sat W (Enp ⟨ka (x ++ (⟨#[0]⟩ : ByteArray)), 132, .slice (some ⟨b, 0, none⟩) (x.size + 1) (x.size + 1)⟩ :: L) w := by
 rw [bc0_app, ← List.append_nil (byteCells _)] at h
 have e : (x ++ (⟨#[0]⟩ : ByteArray)).size = x.size + 1 := by rw [ByteArray.size_append]; rfl
 have := enp_b (c := x.size + 1) (x ++ (⟨#[0]⟩ : ByteArray)) (Nat.le_of_eq e) h
 rw [e] at this
 exact this
set_option maxRecDepth 100000 in
set_option maxHeartbeats 2000000 in
theorem merged_nil (n0 : ByteArray) : Does Try.prog 90 [.iface 164 (.agg #[.slice none 0 0]), .string n0] [Seq (.slice none 0 0) 0 ((flatOf ptr1 ([] : List PmR))), Kds PmP ([] : List PmR)] (fun v L => ∃ (b : Nat) (q1 q2 : TQ) (t1 t2 : T), v = .pointer (some ⟨b, 0, none⟩) ∧ Rep0 132 q1 t1 ∧ Rep0 132 q2 t2 ∧ Mem 0 ([] : List PmR) t1 ∧ Mem 1 ([] : List PmR) t2 ∧ L = [Blk b [.iface 178 (.pointer (some ⟨q1.tb, 0, none⟩)), .iface 178 (.pointer (some ⟨q2.tb, 0, none⟩))] 252, TM q1, TM q2]) := by
 refine Does.enter 117 Try.func90 rfl rfl rfl fun W F => ?_
 show WPc _ _ _ _ _ [(0, .iface 164 (.agg #[.slice none 0 0])), (1, .string n0)] (Seq (.slice none 0 0) 0 ((flatOf ptr1 ([] : List PmR))) :: Kds PmP ([] : List PmR) :: F)
 refine WPc.sr ?_
 refine WP.val rfl rfl rfl (Val.assign rfl rfl) ?_
 refine WP.nx ?_
 refine WPc.sr ?_
 refine WP.val rfl rfl rfl (Val.move rfl rfl) ?_
 refine WP.val rfl rfl rfl (Val.move rfl rfl) ?_
 refine WP.eff rfl rfl rfl (Eff.invoke (f := 131) rfl rfl rfl (fun _ => by kernel_rfl) Try.call131 (user_does none 0 0 n0)) ?_
 rintro _ _ ⟨_, ⟨ub, urb, ukb, rfl, rfl⟩, rfl⟩
 show WP _ _ _ _ _ _ _ (Blk ub [.slice (some ⟨ukb, 0, none⟩) 1 1, .slice none 0 0, .slice (some ⟨urb, 0, none⟩) 1 1, .pointer none] 244 :: Blk urb [.string (⟨#[114]⟩)] 9 :: _)
 refine WP.val rfl rfl rfl (Val.assign rfl rfl) ?_
 refine WP.nx ?_
 refine WPc.seq ?_
 refine WPc.sr ?_
 refine WP.val rfl rfl rfl (Val.move rfl rfl) ?_
 refine WP.val rfl rfl rfl (Val.nilP rfl Ty.ip240 rfl rfl) ?_
 refine WP.nx ?_
 refine WPc.condF rfl rfl ?_
 refine WPc.skip ?_
 refine Out.next ?_
 refine WPc.sr ?_
 refine WP.eff rfl rfl rfl (Eff.call rfl rfl Try.call65 (new_does)) ?_
 rintro _ _ ⟨_, ⟨tb1, s1, rfl, rfl⟩, rfl⟩
 show WP _ _ _ _ _ _ _ (Blk tb1 [.pointer (some ⟨s1, 0, none⟩), .int .i64 (0), .pointer (some ⟨s1, 0, none⟩)] 180 :: Blk s1 ZZ 177 :: _)
 refine WP.perm pl1 ?_
 refine WP.perm pl1 ?_
 refine WP.conv (fun w h => tm_new (S := S0) h) ?_
 show WP _ _ _ _ _ _ _ (TM ⟨tb1, s1, s1, 0, [], [], S0⟩ :: _)
 refine WP.val rfl rfl rfl (Val.assign rfl rfl) ?_
 refine WP.nx ?_
 refine WPc.sr ?_
 refine WP.eff rfl rfl rfl (Eff.call rfl rfl Try.call65 (new_does)) ?_
 rintro _ _ ⟨_, ⟨tb2, s2, rfl, rfl⟩, rfl⟩
 show WP _ _ _ _ _ _ _ (Blk tb2 [.pointer (some ⟨s2, 0, none⟩), .int .i64 (0), .pointer (some ⟨s2, 0, none⟩)] 180 :: Blk s2 ZZ 177 :: _)
 refine WP.perm pl1 ?_
 refine WP.perm pl1 ?_
 refine WP.conv (fun w h => tm_new (S := S0) h) ?_
 show WP _ _ _ _ _ _ _ (TM ⟨tb2, s2, s2, 0, [], [], S0⟩ :: _)
 refine WP.val rfl rfl rfl (Val.assign rfl rfl) ?_
 refine WP.nx ?_
 refine WPc.seq ?_
 refine WPc.sr ?_
 refine WP.val rfl rfl rfl (Val.move rfl rfl) ?_
 refine WP.val rfl rfl rfl (Val.nilCheck rfl rfl) ?_
 refine WP.val rfl rfl rfl (Val.fieldAddr (j := 2) rfl Ty.fo244_2 rfl rfl) ?_
 refine WP.val rfl rfl rfl (Val.load rfl Ty.sc30 rfl (fun w h => h.cell 2 rfl rfl)) ?_
 refine WP.val rfl rfl rfl (Val.len rfl Ty.sl30 rfl) ?_
 refine WP.val rfl rfl rfl (Val.move rfl rfl) ?_
 refine WP.nx ?_
 refine WPc.block ?_
 refine WPc.perm pl3 ?_
 refine WPc.perm pl3 ?_
 refine WPc.perm pl2 ?_
 refine WPc.perm pl3 ?_
 refine WPc.perm pl5 ?_
 refine WPc.perm pl5 ?_
 refine WPc.loop (ι := Nat × Nat × TQ × TQ × T × T) (fun ⟨i, j, q1, q2, t1, t2⟩ => (i ≤ 1 ∧ (i = 0 → j = 0) ∧ (i = 1 → j = 0)) ∧ Rep0 132 q1 t1 ∧ Rep0 132 q2 t2 ∧ Mem 0 (([] : List PmR).take j) t1 ∧ Mem 1 (([] : List PmR).take j) t2 ∧ q1.tb = tb1 ∧ q2.tb = tb2) (fun ⟨i, j, q1, q2, t1, t2⟩ => [(0, .iface 164 (.agg #[.slice none 0 0])), (1, .string n0), (4, .pointer none), (5, .pointer (some ⟨ub, 0, none⟩)), (6, .iface 178 (.pointer (some ⟨tb1, 0, none⟩))), (7, .iface 178 (.pointer (some ⟨tb2, 0, none⟩))), (25, .slice (some ⟨urb, 0, none⟩) 1 1), (26, .int .i64 1), (27, .int .i64 (((i : Nat) : Int)))]) (fun ⟨i, j, q1, q2, t1, t2⟩ => Seq (.slice none 0 0) 0 ((flatOf ptr1 ([] : List PmR))) :: Kds PmP (([] : List PmR).drop j) :: TM q1 :: TM q2 :: Blk ub [.slice (some ⟨ukb, 0, none⟩) 1 1, .slice none 0 0, .slice (some ⟨urb, 0, none⟩) 1 1, .pointer none] 244 :: Blk urb [.string (⟨#[114]⟩)] 9 :: F) (fun ⟨i, j, q1, q2, t1, t2⟩ => 1 - i) (0, 0, ⟨tb1, s1, s1, 0, [], [], S0⟩, ⟨tb2, s2, s2, 0, [], [], S0⟩, .leaf, .leaf) ⟨⟨Nat.zero_le _, fun _ => rfl, fun h => by cases h⟩, rep0_new _ _ _ _, rep0_new _ _ _ _, mem_nil 0, mem_nil 1, rfl, rfl⟩ ((Sub.cons rfl (Sub.cons rfl (Sub.cons rfl (Sub.cons rfl (Sub.cons rfl (Sub.cons rfl (Sub.cons rfl (Sub.cons rfl (Sub.cons rfl Sub.nil)))))))))) (fun _ h => h) ?_
 rintro ⟨i, j, q1, q2, t1, t2⟩ ⟨hij, hR1, hR2, hM1, hM2, htb1, htb2⟩
 show WPc _ _ _ _ _ [(0, _), (1, _), (4, .pointer none), (5, .pointer (some ⟨ub, 0, none⟩)), (6, .iface 178 (.pointer (some ⟨tb1, 0, none⟩))), (7, .iface 178 (.pointer (some ⟨tb2, 0, none⟩))), (25, .slice (some ⟨urb, 0, none⟩) 1 1), (26, .int .i64 1), (27, .int .i64 (((i : Nat) : Int)))] (_ :: Kds PmP (([] : List PmR).drop j) :: TM q1 :: TM q2 :: _)
 obtain ⟨hi, hij0, hij1⟩ : i ≤ 1 ∧ (i = 0 → j = 0) ∧ (i = 1 → j = 0) := hij
 replace hR1 : Rep0 132 q1 t1 := hR1
 replace hR2 : Rep0 132 q2 t2 := hR2
 replace hM1 : Mem 0 (([] : List PmR).take j) t1 := hM1
 replace hM2 : Mem 1 (([] : List PmR).take j) t2 := hM2
 replace htb1 : q1.tb = tb1 := htb1
 replace htb2 : q2.tb = tb2 := htb2
 have hl1 := hM1.len
 have hl2 := hM2.len
 rw [List.length_take] at hl1 hl2
 refine WPc.sr ?_
 refine WP.val rfl rfl rfl (Val.lss rfl rfl rfl) ?_
 refine WP.nx ?_
 refine WPc.seq ?_
 refine WPc.ifP rfl (fun h1 => ?_) (fun h1 => ?_)
 ·
  have h1 : (((i : Nat) : Int) < (1 : Int)) := h1
  refine WPc.skip ?_
  refine Out.next ?_
  refine WPc.seq ?_
  refine WPc.block ?_
  refine WPc.seq ?_
  have hi0 : i = 0 := by omega
  refine WPc.region ?_
  refine WP.val rfl rfl rfl (Val.indexAddr (j := i) (q := i) rfl Ty.sl30 rfl rfl (by omega) (by omega) (by omega)) ?_
  refine WP.val rfl rfl rfl (Val.load (v := .string (⟨#[114]⟩)) rfl Ty.sc9 rfl (fun w h => h.cell 5 rfl (by rw [hi0]; rfl))) ?_
  refine WP.val rfl rfl rfl (Val.assign rfl rfl) ?_
  refine WP.nx ?_
  refine WPc.sr ?_
  refine WP.val rfl rfl rfl (Val.move rfl rfl) ?_
  refine WP.val rfl rfl rfl (Val.move rfl rfl) ?_
  refine WP.eff rfl rfl rfl (Eff.invoke (f := 130) rfl rfl rfl (fun _ => by kernel_rfl) Try.call130 (role_does none 0 0 (⟨#[114]⟩))) ?_
  rintro _ _ ⟨_, ⟨ob, okb, rfl, rfl⟩, rfl⟩
  show WP _ _ _ _ _ _ _ (Blk ob [.slice (some ⟨okb, 0, none⟩) 1 1, .slice none 0 0] 248 :: _)
  refine WP.val rfl rfl rfl (Val.assign rfl rfl) ?_
  refine WP.nx ?_
  refine WPc.seq ?_
  refine WPc.sr ?_
  refine WP.val rfl rfl rfl (Val.move rfl rfl) ?_
  refine WP.val rfl rfl rfl (Val.nilP rfl Ty.ip245 rfl rfl) ?_
  refine WP.nx ?_
  refine WPc.condF rfl rfl ?_
  refine WPc.skip ?_
  refine Out.next ?_
  refine WPc.sr ?_
  refine WP.val rfl rfl rfl (Val.move rfl rfl) ?_
  refine WP.val rfl rfl rfl (Val.nilCheck rfl rfl) ?_
  refine WP.val rfl rfl rfl (Val.fieldAddr (j := 1) rfl Ty.fo248_1 rfl rfl) ?_
  refine WP.val rfl rfl rfl (Val.load rfl Ty.sc106 rfl (fun w h => h.cell 0 rfl rfl)) ?_
  refine WP.val rfl rfl rfl (Val.len rfl Ty.sl106 rfl) ?_
  refine WP.val rfl rfl rfl (Val.move rfl rfl) ?_
  refine WP.nx ?_
  refine WPc.block ?_
  clear hl1 hl2
  iterate 6 (refine WPc.perm pl6 ?_)
  refine WPc.loop (ι := Nat × TQ × TQ × T × T) (fun ⟨j, q1, q2, t1, t2⟩ => j ≤ 0 ∧ Rep0 132 q1 t1 ∧ Rep0 132 q2 t2 ∧ Mem 0 (([] : List PmR).take j) t1 ∧ Mem 1 (([] : List PmR).take j) t2 ∧ q1.tb = tb1 ∧ q2.tb = tb2) (fun ⟨j, q1, q2, t1, t2⟩ => [(0, .iface 164 (.agg #[.slice none 0 0])), (1, .string n0), (4, .pointer none), (5, .pointer (some ⟨ub, 0, none⟩)), (6, .iface 178 (.pointer (some ⟨tb1, 0, none⟩))), (7, .iface 178 (.pointer (some ⟨tb2, 0, none⟩))), (25, .slice (some ⟨urb, 0, none⟩) 1 1), (26, .int .i64 1), (27, .int .i64 (((i : Nat) : Int))), (39, .slice none 0 0), (40, .int .i64 0), (41, .int .i64 (((j : Nat) : Int)))]) (fun ⟨j, q1, q2, t1, t2⟩ => Seq (.slice none 0 0) 0 ((flatOf ptr1 ([] : List PmR))) :: Kds PmP (([] : List PmR).drop j) :: TM q1 :: TM q2 :: Blk ub [.slice (some ⟨ukb, 0, none⟩) 1 1, .slice none 0 0, .slice (some ⟨urb, 0, none⟩) 1 1, .pointer none] 244 :: Blk urb [.string (⟨#[114]⟩)] 9 :: Blk ob [.slice (some ⟨okb, 0, none⟩) 1 1, .slice none 0 0] 248 :: F) (fun ⟨j, q1, q2, t1, t2⟩ => 0 - j) (j, q1, q2, t1, t2) ⟨by omega, hR1, hR2, hM1, hM2, htb1, htb2⟩ ((Sub.cons rfl (Sub.cons rfl (Sub.cons rfl (Sub.cons rfl (Sub.cons rfl (Sub.cons rfl (Sub.cons rfl (Sub.cons rfl (Sub.cons rfl (Sub.cons rfl (Sub.cons rfl (Sub.cons (by rw [hij0 hi0]; rfl) Sub.nil))))))))))))) (fun _ h => h) ?_
  rintro ⟨j, q1, q2, t1, t2⟩ ⟨hj, hR1, hR2, hM1, hM2, htb1, htb2⟩
  show WPc _ _ _ _ _ [(0, _), (1, _), (4, _), (5, _), (6, _), (7, _), (25, _), (26, _), (27, _), (39, .slice none 0 0), (40, .int .i64 0), (41, .int .i64 (((j : Nat) : Int)))] _
  replace hj : j ≤ 0 := hj
  replace hR1 : Rep0 132 q1 t1 := hR1
  replace hR2 : Rep0 132 q2 t2 := hR2
  replace hM1 : Mem 0 (([] : List PmR).take j) t1 := hM1
  replace hM2 : Mem 1 (([] : List PmR).take j) t2 := hM2
  replace htb1 : q1.tb = tb1 := htb1
  replace htb2 : q2.tb = tb2 := htb2
  have hl1 := hM1.len
  have hl2 := hM2.len
  rw [List.length_take] at hl1 hl2
  refine WPc.sr ?_
  refine WP.val rfl rfl rfl (Val.lss rfl rfl rfl) ?_
  refine WP.nx ?_
  refine WPc.seq ?_
  refine WPc.ifP rfl (fun h2 => ?_) (fun h2 => ?_)
  ·
   have h2 : (((j : Nat) : Int) < (0 : Int)) := h2
   exfalso; omega
  ·
   have h2 : ¬ (((j : Nat) : Int) < (0 : Int)) := h2
   refine WPc.exit ?_
   refine Out.then_exit ?_
   refine Out.then_exit ?_
   refine Out.block_exit ?_
   refine Out.block ?_
   refine Out.next ?_
   refine WPc.region ?_
   refine WP.val rfl rfl rfl (Val.add (z := ((i + 1 : Nat) : Int)) rfl rfl rfl ((w64 (by omega) (by omega)).trans (by omega))) ?_
   refine WP.val rfl rfl rfl (Val.move rfl rfl) ?_
   refine WP.nil ?_
   refine Out.perm pl6 ?_
   refine Out.drop ?_
   refine Out.again (i + 1, j, q1, q2, t1, t2) ?_ ?_ ?_ ?_
   ·
    exact ⟨⟨by show i + 1 ≤ 1; omega, (fun h => absurd h (Nat.succ_ne_zero i)), fun _ => (by first | omega | (show j = 0; omega))⟩, hR1, hR2, hM1, hM2, htb1, htb2⟩
   ·
    (first | omega | (dsimp only; omega))
   ·
    exact (Sub.cons rfl (Sub.cons rfl (Sub.cons rfl (Sub.cons rfl (Sub.cons rfl (Sub.cons rfl (Sub.cons rfl (Sub.cons rfl (Sub.cons rfl Sub.nil)))))))))
   ·
    exact (fun _ h => h)
 ·
  have h1 : ¬ (((i : Nat) : Int) < (1 : Int)) := h1
  refine WPc.exit ?_
  refine Out.then_exit ?_
  refine Out.then_exit ?_
  refine Out.block_exit ?_
  refine Out.next ?_
  refine WPc.sr ?_
  refine WP.val rfl rfl rfl (Val.move rfl rfl) ?_
  refine WP.val rfl rfl rfl (Val.move rfl rfl) ?_
  refine WP.val rfl rfl rfl (Val.mk (cs := [.iface 178 (.pointer (some ⟨tb1, 0, none⟩)), .iface 178 (.pointer (some ⟨tb2, 0, none⟩))]) rfl rfl (fun _ => by kernel_rfl)) ?_
  refine WP.eff rfl rfl rfl (Eff.box (C := [.iface 178 (.pointer (some ⟨tb1, 0, none⟩)), .iface 178 (.pointer (some ⟨tb2, 0, none⟩))]) rfl rfl rfl) ?_
  rintro _ _ ⟨b1, rfl, rfl⟩
  refine WP.val rfl rfl rfl (Val.assign rfl rfl) ?_
  refine WP.nx ?_
  refine WPc.ret ?_
  have hjn : j = 0 := hij1 (by omega)
  have htk : ([] : List PmR).take j = ([] : List PmR) := List.take_of_length_le (by first | omega | exact Nat.zero_le _)
  rw [htk] at hM1 hM2
  subst htb1 htb2
  refine Out.perm pl1 ?_
  refine Out.drop ?_
  refine Out.perm pl1 ?_
  refine Out.drop ?_
  refine Out.perm pl3 ?_
  refine Out.drop ?_
  refine Out.perm pl3 ?_
  refine Out.drop ?_
  exact Out.ret1 (L' := _) Try.results90 rfl ⟨_, q1, q2, t1, t2, rfl, hR1, hR2, hM1, hM2, rfl⟩ (fun _ h => h)

set_option maxRecDepth 100000 in
set_option maxHeartbeats 2000000 in
theorem merged_row (n0 : ByteArray) (l : List PmR) (hl : l.length ≤ 1000) (hok : ∀ r ∈ l, (0 ≤ r.p.k ∧ r.p.k ≤ 2) ∧ r.p.key.size ≤ 1000 ∧ r.p.fin.size ≤ 1000) (g cg : Nat) (sg : List Value) (Tg : TypeId) (hcg : l.length ≤ cg) : Does Try.prog 90 [.iface 164 (.agg #[.slice (some ⟨g, 0, none⟩) l.length cg]), .string n0] [Ro (Blk g (flatOf ptr1 l ++ sg) Tg), Seq (.slice (some ⟨g, 0, none⟩) l.length cg) l.length ((flatOf ptr1 l)), Kds PmP l] (fun v L => ∃ (b : Nat) (q1 q2 : TQ) (t1 t2 : T), v = .pointer (some ⟨b, 0, none⟩) ∧ Rep0 132 q1 t1 ∧ Rep0 132 q2 t2 ∧ Mem 0 l t1 ∧ Mem 1 l t2 ∧ L = [Blk b [.iface 178 (.pointer (some ⟨q1.tb, 0, none⟩)), .iface 178 (.pointer (some ⟨q2.tb, 0, none⟩))] 252, TM q1, TM q2]) := by
 refine Does.enter 117 Try.func90 rfl rfl rfl fun W F => ?_
 show WPc _ _ _ _ _ [(0, .iface 164 (.agg #[.slice (some ⟨g, 0, none⟩) l.length cg])), (1, .string n0)] (Ro (Blk g (flatOf ptr1 l ++ sg) Tg) :: Seq (.slice (some ⟨g, 0, none⟩) l.length cg) l.length ((flatOf ptr1 l)) :: Kds PmP l :: F)
 refine WPc.sr ?_
 refine WP.val rfl rfl rfl (Val.assign rfl rfl) ?_
 refine WP.nx ?_
 refine WPc.sr ?_
 refine WP.val rfl rfl rfl (Val.move rfl rfl) ?_
 refine WP.val rfl rfl rfl (Val.move rfl rfl) ?_
 refine WP.eff rfl rfl rfl (Eff.invoke (f := 131) rfl rfl rfl (fun _ => by kernel_rfl) Try.call131 (user_does (some ⟨g, 0, none⟩) l.length cg n0)) ?_
 rintro _ _ ⟨_, ⟨ub, urb, ukb, rfl, rfl⟩, rfl⟩
 show WP _ _ _ _ _ _ _ (Blk ub [.slice (some ⟨ukb, 0, none⟩) 1 1, .slice none 0 0, .slice (some ⟨urb, 0, none⟩) 1 1, .pointer none] 244 :: Blk urb [.string (⟨#[114]⟩)] 9 :: _)
 refine WP.val rfl rfl rfl (Val.assign rfl rfl) ?_
 refine WP.nx ?_
 refine WPc.seq ?_
 refine WPc.sr ?_
 refine WP.val rfl rfl rfl (Val.move rfl rfl) ?_
 refine WP.val rfl rfl rfl (Val.nilP rfl Ty.ip240 rfl rfl) ?_
 refine WP.nx ?_
 refine WPc.condF rfl rfl ?_
 refine WPc.skip ?_
 refine Out.next ?_
 refine WPc.sr ?_
 refine WP.eff rfl rfl rfl (Eff.call rfl rfl Try.call65 (new_does)) ?_
 rintro _ _ ⟨_, ⟨tb1, s1, rfl, rfl⟩, rfl⟩
 show WP _ _ _ _ _ _ _ (Blk tb1 [.pointer (some ⟨s1, 0, none⟩), .int .i64 (0), .pointer (some ⟨s1, 0, none⟩)] 180 :: Blk s1 ZZ 177 :: _)
 refine WP.perm pl1 ?_
 refine WP.perm pl1 ?_
 refine WP.conv (fun w h => tm_new (S := S0) h) ?_
 show WP _ _ _ _ _ _ _ (TM ⟨tb1, s1, s1, 0, [], [], S0⟩ :: _)
 refine WP.val rfl rfl rfl (Val.assign rfl rfl) ?_
 refine WP.nx ?_
 refine WPc.sr ?_
 refine WP.eff rfl rfl rfl (Eff.call rfl rfl Try.call65 (new_does)) ?_
 rintro _ _ ⟨_, ⟨tb2, s2, rfl, rfl⟩, rfl⟩
 show WP _ _ _ _ _ _ _ (Blk tb2 [.pointer (some ⟨s2, 0, none⟩), .int .i64 (0), .pointer (some ⟨s2, 0, none⟩)] 180 :: Blk s2 ZZ 177 :: _)
 refine WP.perm pl1 ?_
 refine WP.perm pl1 ?_
 refine WP.conv (fun w h => tm_new (S := S0) h) ?_
 show WP _ _ _ _ _ _ _ (TM ⟨tb2, s2, s2, 0, [], [], S0⟩ :: _)
 refine WP.val rfl rfl rfl (Val.assign rfl rfl) ?_
 refine WP.nx ?_
 refine WPc.seq ?_
 refine WPc.sr ?_
 refine WP.val rfl rfl rfl (Val.move rfl rfl) ?_
 refine WP.val rfl rfl rfl (Val.nilCheck rfl rfl) ?_
 refine WP.val rfl rfl rfl (Val.fieldAddr (j := 2) rfl Ty.fo244_2 rfl rfl) ?_
 refine WP.val rfl rfl rfl (Val.load rfl Ty.sc30 rfl (fun w h => h.cell 2 rfl rfl)) ?_
 refine WP.val rfl rfl rfl (Val.len rfl Ty.sl30 rfl) ?_
 refine WP.val rfl rfl rfl (Val.move rfl rfl) ?_
 refine WP.nx ?_
 refine WPc.block ?_
 refine WPc.perm pl3 ?_
 refine WPc.perm pl3 ?_
 refine WPc.perm pl4 ?_
 refine WPc.perm pl3 ?_
 refine WPc.perm pl4 ?_
 refine WPc.perm pl6 ?_
 refine WPc.perm pl6 ?_
 refine WPc.loop (ι := Nat × Nat × TQ × TQ × T × T) (fun ⟨i, j, q1, q2, t1, t2⟩ => (i ≤ 1 ∧ (i = 0 → j = 0) ∧ (i = 1 → j = l.length)) ∧ Rep0 132 q1 t1 ∧ Rep0 132 q2 t2 ∧ Mem 0 (l.take j) t1 ∧ Mem 1 (l.take j) t2 ∧ q1.tb = tb1 ∧ q2.tb = tb2) (fun ⟨i, j, q1, q2, t1, t2⟩ => [(0, .iface 164 (.agg #[.slice (some ⟨g, 0, none⟩) l.length cg])), (1, .string n0), (4, .pointer none), (5, .pointer (some ⟨ub, 0, none⟩)), (6, .iface 178 (.pointer (some ⟨tb1, 0, none⟩))), (7, .iface 178 (.pointer (some ⟨tb2, 0, none⟩))), (25, .slice (some ⟨urb, 0, none⟩) 1 1), (26, .int .i64 1), (27, .int .i64 (((i : Nat) : Int)))]) (fun ⟨i, j, q1, q2, t1, t2⟩ => Seq (.slice (some ⟨g, 0, none⟩) l.length cg) l.length ((flatOf ptr1 l)) :: Kds PmP (l.drop j) :: TM q1 :: TM q2 :: Ro (Blk g (flatOf ptr1 l ++ sg) Tg) :: Blk ub [.slice (some ⟨ukb, 0, none⟩) 1 1, .slice none 0 0, .slice (some ⟨urb, 0, none⟩) 1 1, .pointer none] 244 :: Blk urb [.string (⟨#[114]⟩)] 9 :: F) (fun ⟨i, j, q1, q2, t1, t2⟩ => 1 - i) (0, 0, ⟨tb1, s1, s1, 0, [], [], S0⟩, ⟨tb2, s2, s2, 0, [], [], S0⟩, .leaf, .leaf) ⟨⟨Nat.zero_le _, fun _ => rfl, fun h => by cases h⟩, rep0_new _ _ _ _, rep0_new _ _ _ _, mem_nil 0, mem_nil 1, rfl, rfl⟩ ((Sub.cons rfl (Sub.cons rfl (Sub.cons rfl (Sub.cons rfl (Sub.cons rfl (Sub.cons rfl (Sub.cons rfl (Sub.cons rfl (Sub.cons rfl Sub.nil)))))))))) (fun _ h => h) ?_
 rintro ⟨i, j, q1, q2, t1, t2⟩ ⟨hij, hR1, hR2, hM1, hM2, htb1, htb2⟩
 show WPc _ _ _ _ _ [(0, _), (1, _), (4, .pointer none), (5, .pointer (some ⟨ub, 0, none⟩)), (6, .iface 178 (.pointer (some ⟨tb1, 0, none⟩))), (7, .iface 178 (.pointer (some ⟨tb2, 0, none⟩))), (25, .slice (some ⟨urb, 0, none⟩) 1 1), (26, .int .i64 1), (27, .int .i64 (((i : Nat) : Int)))] (_ :: Kds PmP (l.drop j) :: TM q1 :: TM q2 :: _)
 obtain ⟨hi, hij0, hij1⟩ : i ≤ 1 ∧ (i = 0 → j = 0) ∧ (i = 1 → j = l.length) := hij
 replace hR1 : Rep0 132 q1 t1 := hR1
 replace hR2 : Rep0 132 q2 t2 := hR2
 replace hM1 : Mem 0 (l.take j) t1 := hM1
 replace hM2 : Mem 1 (l.take j) t2 := hM2
 replace htb1 : q1.tb = tb1 := htb1
 replace htb2 : q2.tb = tb2 := htb2
 have hl1 := hM1.len
 have hl2 := hM2.len
 rw [List.length_take] at hl1 hl2
 refine WPc.sr ?_
 refine WP.val rfl rfl rfl (Val.lss rfl rfl rfl) ?_
 refine WP.nx ?_
 refine WPc.seq ?_
 refine WPc.ifP rfl (fun h1 => ?_) (fun h1 => ?_)
 ·
  have h1 : (((i : Nat) : Int) < (1 : Int)) := h1
  refine WPc.skip ?_
  refine Out.next ?_
  refine WPc.seq ?_
  refine WPc.block ?_
  refine WPc.seq ?_
  have hi0 : i = 0 := by omega
  refine WPc.region ?_
  refine WP.val rfl rfl rfl (Val.indexAddr (j := i) (q := i) rfl Ty.sl30 rfl rfl (by omega) (by omega) (by omega)) ?_
  refine WP.val rfl rfl rfl (Val.load (v := .string (⟨#[114]⟩)) rfl Ty.sc9 rfl (fun w h => h.cell 6 rfl (by rw [hi0]; rfl))) ?_
  refine WP.val rfl rfl rfl (Val.assign rfl rfl) ?_
  refine WP.nx ?_
  refine WPc.sr ?_
  refine WP.val rfl rfl rfl (Val.move rfl rfl) ?_
  refine WP.val rfl rfl rfl (Val.move rfl rfl) ?_
  refine WP.eff rfl rfl rfl (Eff.invoke (f := 130) rfl rfl rfl (fun _ => by kernel_rfl) Try.call130 (role_does (some ⟨g, 0, none⟩) l.length cg (⟨#[114]⟩))) ?_
  rintro _ _ ⟨_, ⟨ob, okb, rfl, rfl⟩, rfl⟩
  show WP _ _ _ _ _ _ _ (Blk ob [.slice (some ⟨okb, 0, none⟩) 1 1, .slice (some ⟨g, 0, none⟩) l.length cg] 248 :: _)
  refine WP.val rfl rfl rfl (Val.assign rfl rfl) ?_
  refine WP.nx ?_
  refine WPc.seq ?_
  refine WPc.sr ?_
  refine WP.val rfl rfl rfl (Val.move rfl rfl) ?_
  refine WP.val rfl rfl rfl (Val.nilP rfl Ty.ip245 rfl rfl) ?_
  refine WP.nx ?_
  refine WPc.condF rfl rfl ?_
  refine WPc.skip ?_
  refine Out.next ?_
  refine WPc.sr ?_
  refine WP.val rfl rfl rfl (Val.move rfl rfl) ?_
  refine WP.val rfl rfl rfl (Val.nilCheck rfl rfl) ?_
  refine WP.val rfl rfl rfl (Val.fieldAddr (j := 1) rfl Ty.fo248_1 rfl rfl) ?_
  refine WP.val rfl rfl rfl (Val.load rfl Ty.sc106 rfl (fun w h => h.cell 0 rfl rfl)) ?_
  refine WP.val rfl rfl rfl (Val.len rfl Ty.sl106 rfl) ?_
  refine WP.val rfl rfl rfl (Val.move rfl rfl) ?_
  refine WP.nx ?_
  refine WPc.block ?_
  clear hl1 hl2
  iterate 7 (refine WPc.perm pl7 ?_)
  refine WPc.loop (ι := Nat × TQ × TQ × T × T) (fun ⟨j, q1, q2, t1, t2⟩ => j ≤ l.length ∧ Rep0 132 q1 t1 ∧ Rep0 132 q2 t2 ∧ Mem 0 (l.take j) t1 ∧ Mem 1 (l.take j) t2 ∧ q1.tb = tb1 ∧ q2.tb = tb2) (fun ⟨j, q1, q2, t1, t2⟩ => [(0, .iface 164 (.agg #[.slice (some ⟨g, 0, none⟩) l.length cg])), (1, .string n0), (4, .pointer none), (5, .pointer (some ⟨ub, 0, none⟩)), (6, .iface 178 (.pointer (some ⟨tb1, 0, none⟩))), (7, .iface 178 (.pointer (some ⟨tb2, 0, none⟩))), (25, .slice (some ⟨urb, 0, none⟩) 1 1), (26, .int .i64 1), (27, .int .i64 (((i : Nat) : Int))), (39, .slice (some ⟨g, 0, none⟩) l.length cg), (40, .int .i64 (((l.length : Nat) : Int))), (41, .int .i64 (((j : Nat) : Int)))]) (fun ⟨j, q1, q2, t1, t2⟩ => Seq (.slice (some ⟨g, 0, none⟩) l.length cg) l.length ((flatOf ptr1 l)) :: Kds PmP (l.drop j) :: TM q1 :: TM q2 :: Ro (Blk g (flatOf ptr1 l ++ sg) Tg) :: Blk ub [.slice (some ⟨ukb, 0, none⟩) 1 1, .slice none 0 0, .slice (some ⟨urb, 0, none⟩) 1 1, .pointer none] 244 :: Blk urb [.string (⟨#[114]⟩)] 9 :: Blk ob [.slice (some ⟨okb, 0, none⟩) 1 1, .slice (some ⟨g, 0, none⟩) l.length cg] 248 :: F) (fun ⟨j, q1, q2, t1, t2⟩ => l.length - j) (j, q1, q2, t1, t2) ⟨by omega, hR1, hR2, hM1, hM2, htb1, htb2⟩ ((Sub.cons rfl (Sub.cons rfl (Sub.cons rfl (Sub.cons rfl (Sub.cons rfl (Sub.cons rfl (Sub.cons rfl (Sub.cons rfl (Sub.cons rfl (Sub.cons rfl (Sub.cons rfl (Sub.cons (by rw [hij0 hi0]; rfl) Sub.nil))))))))))))) (fun _ h => h) ?_
  rintro ⟨j, q1, q2, t1, t2⟩ ⟨hj, hR1, hR2, hM1, hM2, htb1, htb2⟩
  show WPc _ _ _ _ _ [(0, _), (1, _), (4, _), (5, _), (6, _), (7, _), (25, _), (26, _), (27, _), (39, .slice (some ⟨g, 0, none⟩) l.length cg), (40, .int .i64 (((l.length : Nat) : Int))), (41, .int .i64 (((j : Nat) : Int)))] _
  replace hj : j ≤ l.length := hj
  replace hR1 : Rep0 132 q1 t1 := hR1
  replace hR2 : Rep0 132 q2 t2 := hR2
  replace hM1 : Mem 0 (l.take j) t1 := hM1
  replace hM2 : Mem 1 (l.take j) t2 := hM2
  replace htb1 : q1.tb = tb1 := htb1
  replace htb2 : q2.tb = tb2 := htb2
  have hl1 := hM1.len
  have hl2 := hM2.len
  rw [List.length_take] at hl1 hl2
  refine WPc.sr ?_
  refine WP.val rfl rfl rfl (Val.lss rfl rfl rfl) ?_
  refine WP.nx ?_
  refine WPc.seq ?_
  refine WPc.ifP rfl (fun h2 => ?_) (fun h2 => ?_)
  ·
   have h2 : (((j : Nat) : Int) < ((l.length : Nat) : Int)) := h2
   refine WPc.skip ?_
   refine Out.next ?_
   refine WPc.seq ?_
   refine WPc.block ?_
   refine WPc.seq ?_
   have hjl : j < l.length := by omega
   obtain ⟨r, hx⟩ : ∃ r, l[j]? = some r := ⟨_, List.getElem?_eq_getElem hjl⟩
   obtain ⟨⟨hk0, hk2⟩, hks, hfs⟩ := hok r (List.mem_of_getElem? hx)
   have hdr := drop_cons hx
   refine WPc.perm pl1 ?_
   refine WPc.conv (fun w h => pm_open (Sat.kCons (by rw [hdr] at h; exact h))) ?_
   refine WPc.pure (fun hpz => ?_)
   obtain ⟨hck, hcf⟩ := hpz
   show WPc _ _ _ _ _ _ (Blk r.b [.int .i32 (r.p.k), .slice (some ⟨r.kb, 0, none⟩) r.p.key.size r.ck, .slice (some ⟨r.fb, 0, none⟩) r.p.fin.size r.cf] 160 :: Blk r.kb (byteCells r.p.key ++ r.sk) 5 :: Blk r.fb (byteCells r.p.fin ++ r.sf) 5 :: Kds PmP (l.drop (j + 1)) :: _)
   refine WPc.region ?_
   refine WP.val rfl rfl rfl (Val.indexAddr (j := j) (q := j) rfl Ty.sl106 rfl rfl (by omega) (by omega) (by omega)) ?_
   refine WP.val rfl rfl rfl (Val.load (v := .pointer (some ⟨r.b, 0, none⟩)) rfl Ty.sc107 rfl (fun w h => h.cellRo 7 rfl (ptr_at hx))) ?_
   refine WP.val rfl rfl rfl (Val.assign rfl rfl) ?_
   refine WP.nx ?_
   refine WPc.sr ?_
   refine WP.eff rfl rfl rfl (Eff.alloc rfl Ty.z172) ?_
   rintro _ _ ⟨b1, rfl, rfl⟩
   refine WP.nx ?_
   refine WPc.sr ?_
   refine WP.val rfl rfl rfl (Val.assign rfl rfl) ?_
   refine WP.nx ?_
   refine WPc.seq ?_
   refine WPc.sr ?_
   refine WP.val rfl rfl rfl (Val.move rfl rfl) ?_
   refine WP.val rfl rfl rfl (Val.nilCheck rfl rfl) ?_
   refine WP.val rfl rfl rfl (Val.fieldAddr (j := 2) rfl Ty.fo160_2 rfl rfl) ?_
   refine WP.val rfl rfl rfl (Val.load rfl Ty.sc110 rfl (fun w h => h.cell 1 rfl rfl)) ?_
   refine WP.val rfl rfl rfl (Val.len rfl Ty.sl110 rfl) ?_
   refine WP.val rfl rfl rfl (Val.neq rfl rfl rfl) ?_
   refine WP.val rfl rfl rfl (Val.move rfl rfl) ?_
   refine WP.split 51 rfl (fun h3 => ?_) (fun h3 => ?_)
   ·
    have h3 : (((r.p.fin.size : Nat) : Int) ≠ (1 : Int)) := h3
    iterate 7 (refine WP.skip rfl rfl rfl rfl rfl rfl rfl ?_)
    refine WP.val rfl rfl rfl (Val.pickT rfl rfl rfl) ?_
    refine WP.nx ?_
    refine WPc.condT rfl rfl ?_
    refine WPc.region ?_
    refine WP.val rfl rfl rfl (Val.move rfl rfl) ?_
    refine WP.val rfl rfl rfl (Val.nilCheck rfl rfl) ?_
    refine WP.val rfl rfl rfl (Val.fieldAddr (j := 2) rfl Ty.fo160_2 rfl rfl) ?_
    refine WP.val rfl rfl rfl (Val.load rfl Ty.sc110 rfl (fun w h => h.cell 1 rfl rfl)) ?_
    refine WP.val rfl rfl rfl (Val.assign rfl rfl) ?_
    refine WP.nx ?_
    refine WPc.seq ?_
    refine WPc.sr ?_
    refine WP.val rfl rfl rfl (Val.move rfl rfl) ?_
    refine WP.val rfl rfl rfl (Val.nilCheck rfl rfl) ?_
    refine WP.val rfl rfl rfl (Val.fieldAddr (j := 2) rfl Ty.fo160_2 rfl rfl) ?_
    refine WP.val rfl rfl rfl (Val.load rfl Ty.sc110 rfl (fun w h => h.cell 1 rfl rfl)) ?_
    refine WP.val rfl rfl rfl (Val.len rfl Ty.sl110 rfl) ?_
    refine WP.val rfl rfl rfl (Val.neq rfl rfl rfl) ?_
    refine WP.nx ?_
    refine WPc.ifP rfl (fun h4 => ?_) (fun h4 => ?_)
    ·
     have h4 : (((r.p.fin.size : Nat) : Int) ≠ (0 : Int)) := h4
     refine WPc.region ?_
     refine WP.val rfl rfl rfl (Val.move rfl rfl) ?_
     refine WP.val rfl rfl rfl (Val.nilCheck rfl rfl) ?_
     refine WP.val rfl rfl rfl (Val.fieldAddr (j := 1) rfl Ty.fo160_1 rfl rfl) ?_
     refine WP.val rfl rfl rfl (Val.load rfl Ty.sc110 rfl (fun w h => h.cell 1 rfl rfl)) ?_
     refine WP.val rfl rfl rfl (Val.move rfl rfl) ?_
     refine WP.eff rfl rfl rfl (Eff.call rfl rfl Try.call104 (bai_does (.slice (some ⟨r.kb, 0, none⟩) r.p.key.size r.ck) (.slice (some ⟨r.fb, 0, none⟩) r.p.fin.size r.cf))) ?_
     rintro _ _ ⟨_, ⟨rfl, rfl⟩, rfl⟩
     show WP _ _ _ _ _ _ _ (Blk b1 [.nilIface, .nilIface] 172 :: _)
     refine WP.eff0 rfl rfl (Eff.storeAgg (cs := [.iface 132 (.slice (some ⟨r.kb, 0, none⟩) r.p.key.size r.ck), .iface 132 (.slice (some ⟨r.fb, 0, none⟩) r.p.fin.size r.cf)]) (C' := [.iface 132 (.slice (some ⟨r.kb, 0, none⟩) r.p.key.size r.ck), .iface 132 (.slice (some ⟨r.fb, 0, none⟩) r.p.fin.size r.cf)]) rfl Ty.ag172 rfl rfl rfl rfl (by simp) rfl) ?_
     rintro _ _ rfl
     refine WP.nx ?_
     refine WPc.seq ?_
     refine WPc.perm pl2 ?_
     refine WPc.conv (fun w h => enp_b r.p.key hck h) ?_
     show WPc _ _ _ _ _ _ (Enp (⟨ka r.p.key, 132, .slice (some ⟨r.kb, 0, none⟩) r.p.key.size r.ck⟩ : En) :: Blk b1 [.iface 132 (.slice (some ⟨r.kb, 0, none⟩) r.p.key.size r.ck), .iface 132 (.slice (some ⟨r.fb, 0, none⟩) r.p.fin.size r.cf)] 172 :: _)
     refine WPc.perm pl3 ?_
     refine WPc.conv (fun w h => enp_b r.p.fin hcf h) ?_
     show WPc _ _ _ _ _ _ (Enp (⟨ka r.p.fin, 132, .slice (some ⟨r.fb, 0, none⟩) r.p.fin.size r.cf⟩ : En) :: _)
     have hee : (⟨ka r.p.fin, 132, .slice (some ⟨r.fb, 0, none⟩) r.p.fin.size r.cf⟩ : En).k = qE r.p.key r.p.fin := (by first | exact (qE_n (by omega) (by omega)).symm | exact (qE_1 (by omega) hc (by assumption)).symm)
     refine WPc.region ?_
     refine WP.val rfl rfl rfl (Val.move rfl rfl) ?_
     refine WP.val rfl rfl rfl (Val.nilCheck rfl rfl) ?_
     refine WP.val rfl rfl rfl (Val.fieldAddr (j := 0) rfl Ty.fo160_0 rfl rfl) ?_
     refine WP.val rfl rfl rfl (Val.load rfl Ty.sc111 rfl (fun w h => h.cell 3 rfl rfl)) ?_
     refine WP.nx ?_
     refine WPc.block ?_
     refine WPc.sr ?_
     refine WP.val rfl rfl rfl (Val.eql rfl rfl rfl) ?_
     refine WP.val rfl rfl rfl (Val.assign rfl rfl) ?_
     refine WP.nx ?_
     refine WPc.ifP rfl (fun h5 => ?_) (fun h5 => ?_)
     ·
      have h5 : (r.p.k = (2 : Int)) := h5
      refine WPc.sr ?_
      refine WP.val rfl rfl rfl (Val.move rfl rfl) ?_
      refine WP.val rfl rfl rfl (Val.loadAgg (cs := [.iface 132 (.slice (some ⟨r.kb, 0, none⟩) r.p.key.size r.ck), .iface 132 (.slice (some ⟨r.fb, 0, none⟩) r.p.fin.size r.cf)]) rfl Ty.ag172 rfl rfl (fun w h => h.range 2 rfl rfl)) ?_
      refine WP.val rfl rfl rfl (Val.mk (cs := []) rfl rfl (fun _ => by kernel_rfl)) ?_
      refine WP.val rfl rfl rfl (Val.iface rfl rfl Ty.ni210) ?_
      refine WP.perm pl6 ?_
      refine WP.perm pl1 ?_
      refine WP.perm pl2 ?_
      refine WP.eff rfl rfl rfl (Eff.invoke (f := 138) rfl rfl rfl (fun _ => by kernel_rfl) Try.call138 (ins0_does 132 tb1 q1 t1 hR1 htb1 (by omega) (⟨ka r.p.key, 132, .slice (some ⟨r.kb, 0, none⟩) r.p.key.size r.ck⟩ : En) (⟨ka r.p.fin, 132, .slice (some ⟨r.fb, 0, none⟩) r.p.fin.size r.cf⟩ : En) rfl rfl (210, .agg #[]))) ?_
      rintro _ _ ⟨_, ⟨p1, z1, hP1, hpt1, rfl⟩, rfl⟩
      show WP _ _ _ _ _ _ _ (_ :: _ :: TM p1 :: _)
      refine WP.nx ?_
      refine WPc.region ?_
      refine WP.val rfl rfl rfl (Val.move rfl rfl) ?_
      refine WP.val rfl rfl rfl (Val.loadAgg (cs := [.iface 132 (.slice (some ⟨r.kb, 0, none⟩) r.p.key.size r.ck), .iface 132 (.slice (some ⟨r.fb, 0, none⟩) r.p.fin.size r.cf)]) rfl Ty.ag172 rfl rfl (fun w h => h.range 3 rfl rfl)) ?_
      refine WP.val rfl rfl rfl (Val.mk (cs := []) rfl rfl (fun _ => by kernel_rfl)) ?_
      refine WP.val rfl rfl rfl (Val.iface rfl rfl Ty.ni210) ?_
      refine WP.perm pl7 ?_
      refine WP.perm pl2 ?_
      refine WP.perm pl2 ?_
      refine WP.eff rfl rfl rfl (Eff.invoke (f := 138) rfl rfl rfl (fun _ => by kernel_rfl) Try.call138 (ins0_does 132 tb2 q2 t2 hR2 htb2 (by omega) (⟨ka r.p.key, 132, .slice (some ⟨r.kb, 0, none⟩) r.p.key.size r.ck⟩ : En) (⟨ka r.p.fin, 132, .slice (some ⟨r.fb, 0, none⟩) r.p.fin.size r.cf⟩ : En) rfl rfl (210, .agg #[]))) ?_
      rintro _ _ ⟨_, ⟨p2, z2, hP2, hpt2, rfl⟩, rfl⟩
      show WP _ _ _ _ _ _ _ (_ :: _ :: TM p2 :: _)
      refine WP.nil ?_
      refine Out.block ?_
      refine Out.block ?_
      refine Out.next ?_
      refine WPc.region ?_
      refine WP.val rfl rfl rfl (Val.add (z := ((j + 1 : Nat) : Int)) rfl rfl rfl ((w64 (by omega) (by omega)).trans (by omega))) ?_
      refine WP.val rfl rfl rfl (Val.move rfl rfl) ?_
      refine WP.nil ?_
      refine Out.drop ?_
      refine Out.drop ?_
      refine Out.perm pl2 ?_
      refine Out.drop ?_
      refine Out.perm pl2 ?_
      refine Out.drop ?_
      iterate 4 (refine Out.perm pl7 ?_)
      refine Out.perm pl4 ?_
      refine Out.perm pl5 ?_
      refine Out.perm pl6 ?_
      refine Out.perm pl7 ?_
      refine Out.again (j + 1, p1, p2, insT z1 ⟨(⟨ka r.p.key, 132, .slice (some ⟨r.kb, 0, none⟩) r.p.key.size r.ck⟩ : En), (⟨ka r.p.fin, 132, .slice (some ⟨r.fb, 0, none⟩) r.p.fin.size r.cf⟩ : En), ((210, .agg #[]) : TypeId × Value).1, ((210, .agg #[]) : TypeId × Value).2⟩ t1, insT z2 ⟨(⟨ka r.p.key, 132, .slice (some ⟨r.kb, 0, none⟩) r.p.key.size r.ck⟩ : En), (⟨ka r.p.fin, 132, .slice (some ⟨r.fb, 0, none⟩) r.p.fin.size r.cf⟩ : En), ((210, .agg #[]) : TypeId × Value).1, ((210, .agg #[]) : TypeId × Value).2⟩ t2) ?_ ?_ ?_ ?_
      ·
       exact ⟨by show j + 1 ≤ l.length; omega, hP1, hP2, by show Mem 0 (l.take (j + 1)) _; rw [take_more hx]; exact mem_yes (v := ((210, .agg #[]) : TypeId × Value)) hM1 hR1.srt (by unfold alw; omega) rfl hee, by show Mem 1 (l.take (j + 1)) _; rw [take_more hx]; exact mem_yes (v := ((210, .agg #[]) : TypeId × Value)) hM2 hR2.srt (by unfold alw; omega) rfl hee, hpt1, hpt2⟩
      ·
       (first | omega | (dsimp only; omega))
      ·
       exact (Sub.cons rfl (Sub.cons rfl (Sub.cons rfl (Sub.cons rfl (Sub.cons rfl (Sub.cons rfl (Sub.cons rfl (Sub.cons rfl (Sub.cons rfl (Sub.cons rfl (Sub.cons rfl (Sub.cons rfl Sub.nil))))))))))))
      ·
       exact (fun _ h => h)
     ·
      have h5 : ¬ (r.p.k = (2 : Int)) := h5
      refine WPc.sr ?_
      refine WP.val rfl rfl rfl (Val.eql rfl rfl rfl) ?_
      refine WP.val rfl rfl rfl (Val.assign rfl rfl) ?_
      refine WP.nx ?_
      refine WPc.ifP rfl (fun h6 => ?_) (fun h6 => ?_)
      ·
       have h6 : (r.p.k = (0 : Int)) := h6
       refine WPc.region ?_
       refine WP.val rfl rfl rfl (Val.move rfl rfl) ?_
       refine WP.val rfl rfl rfl (Val.loadAgg (cs := [.iface 132 (.slice (some ⟨r.kb, 0, none⟩) r.p.key.size r.ck), .iface 132 (.slice (some ⟨r.fb, 0, none⟩) r.p.fin.size r.cf)]) rfl Ty.ag172 rfl rfl (fun w h => h.range 2 rfl rfl)) ?_
       refine WP.val rfl rfl rfl (Val.mk (cs := []) rfl rfl (fun _ => by kernel_rfl)) ?_
       refine WP.val rfl rfl rfl (Val.iface rfl rfl Ty.ni210) ?_
       refine WP.perm pl6 ?_
       refine WP.perm pl1 ?_
       refine WP.perm pl2 ?_
       refine WP.eff rfl rfl rfl (Eff.invoke (f := 138) rfl rfl rfl (fun _ => by kernel_rfl) Try.call138 (ins0_does 132 tb1 q1 t1 hR1 htb1 (by omega) (⟨ka r.p.key, 132, .slice (some ⟨r.kb, 0, none⟩) r.p.key.size r.ck⟩ : En) (⟨ka r.p.fin, 132, .slice (some ⟨r.fb, 0, none⟩) r.p.fin.size r.cf⟩ : En) rfl rfl (210, .agg #[]))) ?_
       rintro _ _ ⟨_, ⟨p1, z1, hP1, hpt1, rfl⟩, rfl⟩
       show WP _ _ _ _ _ _ _ (_ :: _ :: TM p1 :: _)
       refine WP.nil ?_
       refine Out.block ?_
       refine Out.block ?_
       refine Out.next ?_
       refine WPc.region ?_
       refine WP.val rfl rfl rfl (Val.add (z := ((j + 1 : Nat) : Int)) rfl rfl rfl ((w64 (by omega) (by omega)).trans (by omega))) ?_
       refine WP.val rfl rfl rfl (Val.move rfl rfl) ?_
       refine WP.nil ?_
       refine Out.drop ?_
       refine Out.drop ?_
       refine Out.perm pl1 ?_
       refine Out.drop ?_
       refine Out.perm pl1 ?_
       refine Out.drop ?_
       iterate 5 (refine Out.perm pl7 ?_)
       refine Out.perm pl5 ?_
       refine Out.perm pl6 ?_
       refine Out.perm pl7 ?_
       refine Out.again (j + 1, p1, q2, insT z1 ⟨(⟨ka r.p.key, 132, .slice (some ⟨r.kb, 0, none⟩) r.p.key.size r.ck⟩ : En), (⟨ka r.p.fin, 132, .slice (some ⟨r.fb, 0, none⟩) r.p.fin.size r.cf⟩ : En), ((210, .agg #[]) : TypeId × Value).1, ((210, .agg #[]) : TypeId × Value).2⟩ t1, t2) ?_ ?_ ?_ ?_
       ·
        exact ⟨by show j + 1 ≤ l.length; omega, hP1, hR2, by show Mem 0 (l.take (j + 1)) _; rw [take_more hx]; exact mem_yes (v := ((210, .agg #[]) : TypeId × Value)) hM1 hR1.srt (by unfold alw; omega) rfl hee, by show Mem 1 (l.take (j + 1)) _; rw [take_more hx]; exact mem_no hM2 (by unfold alw; omega), hpt1, htb2⟩
       ·
        (first | omega | (dsimp only; omega))
       ·
        exact (Sub.cons rfl (Sub.cons rfl (Sub.cons rfl (Sub.cons rfl (Sub.cons rfl (Sub.cons rfl (Sub.cons rfl (Sub.cons rfl (Sub.cons rfl (Sub.cons rfl (Sub.cons rfl (Sub.cons rfl Sub.nil))))))))))))
       ·
        exact (fun _ h => h)
      ·
       have h6 : ¬ (r.p.k = (0 : Int)) := h6
       refine WPc.sr ?_
       refine WP.val rfl rfl rfl (Val.eql rfl rfl rfl) ?_
       refine WP.val rfl rfl rfl (Val.assign rfl rfl) ?_
       refine WP.nx ?_
       refine WPc.ifP rfl (fun h7 => ?_) (fun h7 => ?_)
       ·
        have h7 : (r.p.k = (1 : Int)) := h7
        refine WPc.region ?_
        refine WP.val rfl rfl rfl (Val.move rfl rfl) ?_
        refine WP.val rfl rfl rfl (Val.loadAgg (cs := [.iface 132 (.slice (some ⟨r.kb, 0, none⟩) r.p.key.size r.ck), .iface 132 (.slice (some ⟨r.fb, 0, none⟩) r.p.fin.size r.cf)]) rfl Ty.ag172 rfl rfl (fun w h => h.range 2 rfl rfl)) ?_
        refine WP.val rfl rfl rfl (Val.mk (cs := []) rfl rfl (fun _ => by kernel_rfl)) ?_
        refine WP.val rfl rfl rfl (Val.iface rfl rfl Ty.ni210) ?_
        refine WP.perm pl7 ?_
        refine WP.perm pl1 ?_
        refine WP.perm pl2 ?_
        refine WP.eff rfl rfl rfl (Eff.invoke (f := 138) rfl rfl rfl (fun _ => by kernel_rfl) Try.call138 (ins0_does 132 tb2 q2 t2 hR2 htb2 (by omega) (⟨ka r.p.key, 132, .slice (some ⟨r.kb, 0, none⟩) r.p.key.size r.ck⟩ : En) (⟨ka r.p.fin, 132, .slice (some ⟨r.fb, 0, none⟩) r.p.fin.size r.cf⟩ : En) rfl rfl (210, .agg #[]))) ?_
        rintro _ _ ⟨_, ⟨p2, z2, hP2, hpt2, rfl⟩, rfl⟩
        show WP _ _ _ _ _ _ _ (_ :: _ :: TM p2 :: _)
        refine WP.nil ?_
        refine Out.block ?_
        refine Out.block ?_
        refine Out.next ?_
        refine WPc.region ?_
        refine WP.val rfl rfl rfl (Val.add (z := ((j + 1 : Nat) : Int)) rfl rfl rfl ((w64 (by omega) (by omega)).trans (by omega))) ?_
        refine WP.val rfl rfl rfl (Val.move rfl rfl) ?_
        refine WP.nil ?_
        refine Out.drop ?_
        refine Out.drop ?_
        refine Out.perm pl1 ?_
        refine Out.drop ?_
        refine Out.perm pl1 ?_
        refine Out.drop ?_
        iterate 4 (refine Out.perm pl7 ?_)
        refine Out.perm pl4 ?_
        refine Out.perm pl7 ?_
        refine Out.perm pl6 ?_
        refine Out.perm pl7 ?_
        refine Out.again (j + 1, q1, p2, t1, insT z2 ⟨(⟨ka r.p.key, 132, .slice (some ⟨r.kb, 0, none⟩) r.p.key.size r.ck⟩ : En), (⟨ka r.p.fin, 132, .slice (some ⟨r.fb, 0, none⟩) r.p.fin.size r.cf⟩ : En), ((210, .agg #[]) : TypeId × Value).1, ((210, .agg #[]) : TypeId × Value).2⟩ t2) ?_ ?_ ?_ ?_
        ·
         exact ⟨by show j + 1 ≤ l.length; omega, hR1, hP2, by show Mem 0 (l.take (j + 1)) _; rw [take_more hx]; exact mem_no hM1 (by unfold alw; omega), by show Mem 1 (l.take (j + 1)) _; rw [take_more hx]; exact mem_yes (v := ((210, .agg #[]) : TypeId × Value)) hM2 hR2.srt (by unfold alw; omega) rfl hee, htb1, hpt2⟩
        ·
         (first | omega | (dsimp only; omega))
        ·
         exact (Sub.cons rfl (Sub.cons rfl (Sub.cons rfl (Sub.cons rfl (Sub.cons rfl (Sub.cons rfl (Sub.cons rfl (Sub.cons rfl (Sub.cons rfl (Sub.cons rfl (Sub.cons rfl (Sub.cons rfl Sub.nil))))))))))))
        ·
         exact (fun _ h => h)
       ·
        have h7 : ¬ (r.p.k = (1 : Int)) := h7
        exfalso; omega
    ·
     have h4 : ¬ (((r.p.fin.size : Nat) : Int) ≠ (0 : Int)) := h4
     refine WPc.region ?_
     refine WP.val rfl rfl rfl (Val.move rfl rfl) ?_
     refine WP.val rfl rfl rfl (Val.nilCheck rfl rfl) ?_
     refine WP.val rfl rfl rfl (Val.fieldAddr (j := 1) rfl Ty.fo160_1 rfl rfl) ?_
     refine WP.val rfl rfl rfl (Val.load rfl Ty.sc110 rfl (fun w h => h.cell 1 rfl rfl)) ?_
     refine WP.perm pl2 ?_
     refine WP.eff rfl rfl rfl (Eff.call rfl rfl Try.call105 (bap_does r.kb r.ck r.sk r.p.key (by omega) hck)) ?_
     rintro _ _ ⟨_, ⟨gp, rfl, rfl⟩, rfl⟩
     show WP _ _ _ _ _ _ _ (_ :: Blk gp (byteCells r.p.key ++ [Value.int .u8 0]) 5 :: Blk b1 [.nilIface, .nilIface] 172 :: _)
     refine WP.perm pl2 ?_
     refine WP.eff0 rfl rfl (Eff.storeAgg (cs := [.iface 132 (.slice (some ⟨r.kb, 0, none⟩) r.p.key.size r.ck), .iface 132 (.slice (some ⟨gp, 0, none⟩) ((r.p.key.size + 1)) ((r.p.key.size + 1)))]) (C' := [.iface 132 (.slice (some ⟨r.kb, 0, none⟩) r.p.key.size r.ck), .iface 132 (.slice (some ⟨gp, 0, none⟩) ((r.p.key.size + 1)) ((r.p.key.size + 1)))]) rfl Ty.ag172 rfl rfl rfl rfl (by simp) rfl) ?_
     rintro _ _ rfl
     refine WP.nx ?_
     refine WPc.seq ?_
     refine WPc.perm pl1 ?_
     refine WPc.conv (fun w h => enp_b r.p.key hck h) ?_
     show WPc _ _ _ _ _ _ (Enp (⟨ka r.p.key, 132, .slice (some ⟨r.kb, 0, none⟩) r.p.key.size r.ck⟩ : En) :: Blk b1 [.iface 132 (.slice (some ⟨r.kb, 0, none⟩) r.p.key.size r.ck), .iface 132 (.slice (some ⟨gp, 0, none⟩) ((r.p.key.size + 1)) ((r.p.key.size + 1)))] 172 :: _)
     refine WPc.perm pl2 ?_
     refine WPc.conv (fun w h => enp_0 r.p.key h) ?_
     show WPc _ _ _ _ _ _ (Enp (⟨ka (r.p.key ++ (⟨#[0]⟩ : ByteArray)), 132, .slice (some ⟨gp, 0, none⟩) (r.p.key.size + 1) (r.p.key.size + 1)⟩ : En) :: _)
     have hee : (⟨ka (r.p.key ++ (⟨#[0]⟩ : ByteArray)), 132, .slice (some ⟨gp, 0, none⟩) (r.p.key.size + 1) (r.p.key.size + 1)⟩ : En).k = qE r.p.key r.p.fin := (qE_pt (by omega)).symm
     refine WPc.region ?_
     refine WP.val rfl rfl rfl (Val.move rfl rfl) ?_
     refine WP.val rfl rfl rfl (Val.nilCheck rfl rfl) ?_
     refine WP.val rfl rfl rfl (Val.fieldAddr (j := 0) rfl Ty.fo160_0 rfl rfl) ?_
     refine WP.val rfl rfl rfl (Val.load rfl Ty.sc111 rfl (fun w h => h.cell 3 rfl rfl)) ?_
     refine WP.nx ?_
     refine WPc.block ?_
     refine WPc.sr ?_
     refine WP.val rfl rfl rfl (Val.eql rfl rfl rfl) ?_
     refine WP.val rfl rfl rfl (Val.assign rfl rfl) ?_
     refine WP.nx ?_
     refine WPc.ifP rfl (fun h8 => ?_) (fun h8 => ?_)
     ·
      have h8 : (r.p.k = (2 : Int)) := h8
      refine WPc.sr ?_
      refine WP.val rfl rfl rfl (Val.move rfl rfl) ?_
      refine WP.val rfl rfl rfl (Val.loadAgg (cs := [.iface 132 (.slice (some ⟨r.kb, 0, none⟩) r.p.key.size r.ck), .iface 132 (.slice (some ⟨gp, 0, none⟩) ((r.p.key.size + 1)) ((r.p.key.size + 1)))]) rfl Ty.ag172 rfl rfl (fun w h => h.range 2 rfl rfl)) ?_
      refine WP.val rfl rfl rfl (Val.mk (cs := []) rfl rfl (fun _ => by kernel_rfl)) ?_
      refine WP.val rfl rfl rfl (Val.iface rfl rfl Ty.ni210) ?_
      refine WP.perm pl7 ?_
      refine WP.perm pl1 ?_
      refine WP.perm pl2 ?_
      refine WP.eff rfl rfl rfl (Eff.invoke (f := 138) rfl rfl rfl (fun _ => by kernel_rfl) Try.call138 (ins0_does 132 tb1 q1 t1 hR1 htb1 (by omega) (⟨ka r.p.key, 132, .slice (some ⟨r.kb, 0, none⟩) r.p.key.size r.ck⟩ : En) (⟨ka (r.p.key ++ (⟨#[0]⟩ : ByteArray)), 132, .slice (some ⟨gp, 0, none⟩) (r.p.key.size + 1) (r.p.key.size + 1)⟩ : En) rfl rfl (210, .agg #[]))) ?_
      rintro _ _ ⟨_, ⟨p1, z1, hP1, hpt1, rfl⟩, rfl⟩
      show WP _ _ _ _ _ _ _ (_ :: _ :: TM p1 :: _)
      refine WP.nx ?_
      refine WPc.region ?_
      refine WP.val rfl rfl rfl (Val.move rfl rfl) ?_
      refine WP.val rfl rfl rfl (Val.loadAgg (cs := [.iface 132 (.slice (some ⟨r.kb, 0, none⟩) r.p.key.size r.ck), .iface 132 (.slice (some ⟨gp, 0, none⟩) ((r.p.key.size + 1)) ((r.p.key.size + 1)))]) rfl Ty.ag172 rfl rfl (fun w h => h.range 3 rfl rfl)) ?_
      refine WP.val rfl rfl rfl (Val.mk (cs := []) rfl rfl (fun _ => by kernel_rfl)) ?_
      refine WP.val rfl rfl rfl (Val.iface rfl rfl Ty.ni210) ?_
      refine WP.perm pl8 ?_
      refine WP.perm pl2 ?_
      refine WP.perm pl2 ?_
      refine WP.eff rfl rfl rfl (Eff.invoke (f := 138) rfl rfl rfl (fun _ => by kernel_rfl) Try.call138 (ins0_does 132 tb2 q2 t2 hR2 htb2 (by omega) (⟨ka r.p.key, 132, .slice (some ⟨r.kb, 0, none⟩) r.p.key.size r.ck⟩ : En) (⟨ka (r.p.key ++ (⟨#[0]⟩ : ByteArray)), 132, .slice (some ⟨gp, 0, none⟩) (r.p.key.size + 1) (r.p.key.size + 1)⟩ : En) rfl rfl (210, .agg #[]))) ?_
      rintro _ _ ⟨_, ⟨p2, z2, hP2, hpt2, rfl⟩, rfl⟩
      show WP _ _ _ _ _ _ _ (_ :: _ :: TM p2 :: _)
      refine WP.nil ?_
      refine Out.block ?_
      refine Out.block ?_
      refine Out.next ?_
      refine WPc.region ?_
      refine WP.val rfl rfl rfl (Val.add (z := ((j + 1 : Nat) : Int)) rfl rfl rfl ((w64 (by omega) (by omega)).trans (by omega))) ?_
      refine WP.val rfl rfl rfl (Val.move rfl rfl) ?_
      refine WP.nil ?_
      refine Out.drop ?_
      iterate 3 (refine Out.drop ?_; refine Out.perm pl2 ?_)
      refine Out.drop ?_
      iterate 4 (refine Out.perm pl7 ?_)
      refine Out.perm pl4 ?_
      refine Out.perm pl5 ?_
      refine Out.perm pl6 ?_
      refine Out.perm pl7 ?_
      refine Out.again (j + 1, p1, p2, insT z1 ⟨(⟨ka r.p.key, 132, .slice (some ⟨r.kb, 0, none⟩) r.p.key.size r.ck⟩ : En), (⟨ka (r.p.key ++ (⟨#[0]⟩ : ByteArray)), 132, .slice (some ⟨gp, 0, none⟩) (r.p.key.size + 1) (r.p.key.size + 1)⟩ : En), ((210, .agg #[]) : TypeId × Value).1, ((210, .agg #[]) : TypeId × Value).2⟩ t1, insT z2 ⟨(⟨ka r.p.key, 132, .slice (some ⟨r.kb, 0, none⟩) r.p.key.size r.ck⟩ : En), (⟨ka (r.p.key ++ (⟨#[0]⟩ : ByteArray)), 132, .slice (some ⟨gp, 0, none⟩) (r.p.key.size + 1) (r.p.key.size + 1)⟩ : En), ((210, .agg #[]) : TypeId × Value).1, ((210, .agg #[]) : TypeId × Value).2⟩ t2) ?_ ?_ ?_ ?_
      ·
       exact ⟨by show j + 1 ≤ l.length; omega, hP1, hP2, by show Mem 0 (l.take (j + 1)) _; rw [take_more hx]; exact mem_yes (v := ((210, .agg #[]) : TypeId × Value)) hM1 hR1.srt (by unfold alw; omega) rfl hee, by show Mem 1 (l.take (j + 1)) _; rw [take_more hx]; exact mem_yes (v := ((210, .agg #[]) : TypeId × Value)) hM2 hR2.srt (by unfold alw; omega) rfl hee, hpt1, hpt2⟩
      ·
       (first | omega | (dsimp only; omega))
      ·
       exact (Sub.cons rfl (Sub.cons rfl (Sub.cons rfl (Sub.cons rfl (Sub.cons rfl (Sub.cons rfl (Sub.cons rfl (Sub.cons rfl (Sub.cons rfl (Sub.cons rfl (Sub.cons rfl (Sub.cons rfl Sub.nil))))))))))))
      ·
       exact (fun _ h => h)
     ·
      have h8 : ¬ (r.p.k = (2 : Int)) := h8
      refine WPc.sr ?_
      refine WP.val rfl rfl rfl (Val.eql rfl rfl rfl) ?_
      refine WP.val rfl rfl rfl (Val.assign rfl rfl) ?_
      refine WP.nx ?_
      refine WPc.ifP rfl (fun h9 => ?_) (fun h9 => ?_)
      ·
       have h9 : (r.p.k = (0 : Int)) := h9
       refine WPc.region ?_
       refine WP.val rfl rfl rfl (Val.move rfl rfl) ?_
       refine WP.val rfl rfl rfl (Val.loadAgg (cs := [.iface 132 (.slice (some ⟨r.kb, 0, none⟩) r.p.key.size r.ck), .iface 132 (.slice (some ⟨gp, 0, none⟩) ((r.p.key.size + 1)) ((r.p.key.size + 1)))]) rfl Ty.ag172 rfl rfl (fun w h => h.range 2 rfl rfl)) ?_
       refine WP.val rfl rfl rfl (Val.mk (cs := []) rfl rfl (fun _ => by kernel_rfl)) ?_
       refine WP.val rfl rfl rfl (Val.iface rfl rfl Ty.ni210) ?_
       refine WP.perm pl7 ?_
       refine WP.perm pl1 ?_
       refine WP.perm pl2 ?_
       refine WP.eff rfl rfl rfl (Eff.invoke (f := 138) rfl rfl rfl (fun _ => by kernel_rfl) Try.call138 (ins0_does 132 tb1 q1 t1 hR1 htb1 (by omega) (⟨ka r.p.key, 132, .slice (some ⟨r.kb, 0, none⟩) r.p.key.size r.ck⟩ : En) (⟨ka (r.p.key ++ (⟨#[0]⟩ : ByteArray)), 132, .slice (some ⟨gp, 0, none⟩) (r.p.key.size + 1) (r.p.key.size + 1)⟩ : En) rfl rfl (210, .agg #[]))) ?_
       rintro _ _ ⟨_, ⟨p1, z1, hP1, hpt1, rfl⟩, rfl⟩
       show WP _ _ _ _ _ _ _ (_ :: _ :: TM p1 :: _)
       refine WP.nil ?_
       refine Out.block ?_
       refine Out.block ?_
       refine Out.next ?_
       refine WPc.region ?_
       refine WP.val rfl rfl rfl (Val.add (z := ((j + 1 : Nat) : Int)) rfl rfl rfl ((w64 (by omega) (by omega)).trans (by omega))) ?_
       refine WP.val rfl rfl rfl (Val.move rfl rfl) ?_
       refine WP.nil ?_
       refine Out.drop ?_
       iterate 3 (refine Out.drop ?_; refine Out.perm pl1 ?_)
       refine Out.drop ?_
       iterate 5 (refine Out.perm pl7 ?_)
       refine Out.perm pl5 ?_
       refine Out.perm pl6 ?_
       refine Out.perm pl7 ?_
       refine Out.again (j + 1, p1, q2, insT z1 ⟨(⟨ka r.p.key, 132, .slice (some ⟨r.kb, 0, none⟩) r.p.key.size r.ck⟩ : En), (⟨ka (r.p.key ++ (⟨#[0]⟩ : ByteArray)), 132, .slice (some ⟨gp, 0, none⟩) (r.p.key.size + 1) (r.p.key.size + 1)⟩ : En), ((210, .agg #[]) : TypeId × Value).1, ((210, .agg #[]) : TypeId × Value).2⟩ t1, t2) ?_ ?_ ?_ ?_
       ·
        exact ⟨by show j + 1 ≤ l.length; omega, hP1, hR2, by show Mem 0 (l.take (j + 1)) _; rw [take_more hx]; exact mem_yes (v := ((210, .agg #[]) : TypeId × Value)) hM1 hR1.srt (by unfold alw; omega) rfl hee, by show Mem 1 (l.take (j + 1)) _; rw [take_more hx]; exact mem_no hM2 (by unfold alw; omega), hpt1, htb2⟩
       ·
        (first | omega | (dsimp only; omega))
       ·
        exact (Sub.cons rfl (Sub.cons rfl (Sub.cons rfl (Sub.cons rfl (Sub.cons rfl (Sub.cons rfl (Sub.cons rfl (Sub.cons rfl (Sub.cons rfl (Sub.cons rfl (Sub.cons rfl (Sub.cons rfl Sub.nil))))))))))))
       ·
        exact (fun _ h => h)
      ·
       have h9 : ¬ (r.p.k = (0 : Int)) := h9
       refine WPc.sr ?_
       refine WP.val rfl rfl rfl (Val.eql rfl rfl rfl) ?_
       refine WP.val rfl rfl rfl (Val.assign rfl rfl) ?_
       refine WP.nx ?_
       refine WPc.ifP rfl (fun h10 => ?_) (fun h10 => ?_)
       ·
        have h10 : (r.p.k = (1 : Int)) := h10
        refine WPc.region ?_
        refine WP.val rfl rfl rfl (Val.move rfl rfl) ?_
        refine WP.val rfl rfl rfl (Val.loadAgg (cs := [.iface 132 (.slice (some ⟨r.kb, 0, none⟩) r.p.key.size r.ck), .iface 132 (.slice (some ⟨gp, 0, none⟩) ((r.p.key.size + 1)) ((r.p.key.size + 1)))]) rfl Ty.ag172 rfl rfl (fun w h => h.range 2 rfl rfl)) ?_
        refine WP.val rfl rfl rfl (Val.mk (cs := []) rfl rfl (fun _ => by kernel_rfl)) ?_
        refine WP.val rfl rfl rfl (Val.iface rfl rfl Ty.ni210) ?_
        refine WP.perm pl8 ?_
        refine WP.perm pl1 ?_
        refine WP.perm pl2 ?_
        refine WP.eff rfl rfl rfl (Eff.invoke (f := 138) rfl rfl rfl (fun _ => by kernel_rfl) Try.call138 (ins0_does 132 tb2 q2 t2 hR2 htb2 (by omega) (⟨ka r.p.key, 132, .slice (some ⟨r.kb, 0, none⟩) r.p.key.size r.ck⟩ : En) (⟨ka (r.p.key ++ (⟨#[0]⟩ : ByteArray)), 132, .slice (some ⟨gp, 0, none⟩) (r.p.key.size + 1) (r.p.key.size + 1)⟩ : En) rfl rfl (210, .agg #[]))) ?_
        rintro _ _ ⟨_, ⟨p2, z2, hP2, hpt2, rfl⟩, rfl⟩
        show WP _ _ _ _ _ _ _ (_ :: _ :: TM p2 :: _)
        refine WP.nil ?_
        refine Out.block ?_
        refine Out.block ?_
        refine Out.next ?_
        refine WPc.region ?_
        refine WP.val rfl rfl rfl (Val.add (z := ((j + 1 : Nat) : Int)) rfl rfl rfl ((w64 (by omega) (by omega)).trans (by omega))) ?_
        refine WP.val rfl rfl rfl (Val.move rfl rfl) ?_
        refine WP.nil ?_
        refine Out.drop ?_
        iterate 3 (refine Out.drop ?_; refine Out.perm pl1 ?_)
        refine Out.drop ?_
        iterate 4 (refine Out.perm pl7 ?_)
        refine Out.perm pl4 ?_
        refine Out.perm pl7 ?_
        refine Out.perm pl6 ?_
        refine Out.perm pl7 ?_
        refine Out.again (j + 1, q1, p2, t1, insT z2 ⟨(⟨ka r.p.key, 132, .slice (some ⟨r.kb, 0, none⟩) r.p.key.size r.ck⟩ : En), (⟨ka (r.p.key ++ (⟨#[0]⟩ : ByteArray)), 132, .slice (some ⟨gp, 0, none⟩) (r.p.key.size + 1) (r.p.key.size + 1)⟩ : En), ((210, .agg #[]) : TypeId × Value).1, ((210, .agg #[]) : TypeId × Value).2⟩ t2) ?_ ?_ ?_ ?_
        ·
         exact ⟨by show j + 1 ≤ l.length; omega, hR1, hP2, by show Mem 0 (l.take (j + 1)) _; rw [take_more hx]; exact mem_no hM1 (by unfold alw; omega), by show Mem 1 (l.take (j + 1)) _; rw [take_more hx]; exact mem_yes (v := ((210, .agg #[]) : TypeId × Value)) hM2 hR2.srt (by unfold alw; omega) rfl hee, htb1, hpt2⟩
        ·
         (first | omega | (dsimp only; omega))
        ·
         exact (Sub.cons rfl (Sub.cons rfl (Sub.cons rfl (Sub.cons rfl (Sub.cons rfl (Sub.cons rfl (Sub.cons rfl (Sub.cons rfl (Sub.cons rfl (Sub.cons rfl (Sub.cons rfl (Sub.cons rfl Sub.nil))))))))))))
        ·
         exact (fun _ h => h)
       ·
        have h10 : ¬ (r.p.k = (1 : Int)) := h10
        exfalso; omega
   ·
    have h3 : ¬ (((r.p.fin.size : Nat) : Int) ≠ (1 : Int)) := h3
    obtain ⟨c, hc, hcell⟩ := byte0 (x := r.p.fin) (sp := r.sf) (by omega)
    refine WP.valG rfl rfl rfl rfl rfl rfl rfl (Val.move rfl rfl) ?_
    refine WP.valG rfl rfl rfl rfl rfl rfl rfl (Val.nilCheck rfl rfl) ?_
    refine WP.valG rfl rfl rfl rfl rfl rfl rfl (Val.fieldAddr (j := 2) rfl Ty.fo160_2 rfl rfl) ?_
    refine WP.valG rfl rfl rfl rfl rfl rfl rfl (Val.load rfl Ty.sc110 rfl (fun w h => h.cell 1 rfl rfl)) ?_
    refine WP.valG rfl rfl rfl rfl rfl rfl rfl (Val.indexAddr (j := 0) (q := 0) rfl Ty.sl110 rfl rfl (by omega) (by omega) (by omega)) ?_
    refine WP.valG rfl rfl rfl rfl rfl rfl rfl (Val.load (v := .int .u8 (((c.toNat : Nat) : Int))) rfl Ty.sc5 rfl (fun w h => h.cell 3 rfl hcell)) ?_
    refine WP.valG rfl rfl rfl rfl rfl rfl rfl (Val.neq rfl rfl rfl) ?_
    refine WP.val rfl rfl rfl (Val.pickF rfl rfl rfl) ?_
    refine WP.nx ?_
    refine WPc.ifP rfl (fun h11 => ?_) (fun h11 => ?_)
    ·
     have h11 : (((c.toNat : Nat) : Int) ≠ (0 : Int)) := h11
     refine WPc.region ?_
     refine WP.val rfl rfl rfl (Val.move rfl rfl) ?_
     refine WP.val rfl rfl rfl (Val.nilCheck rfl rfl) ?_
     refine WP.val rfl rfl rfl (Val.fieldAddr (j := 2) rfl Ty.fo160_2 rfl rfl) ?_
     refine WP.val rfl rfl rfl (Val.load rfl Ty.sc110 rfl (fun w h => h.cell 1 rfl rfl)) ?_
     refine WP.val rfl rfl rfl (Val.assign rfl rfl) ?_
     refine WP.nx ?_
     refine WPc.seq ?_
     refine WPc.sr ?_
     refine WP.val rfl rfl rfl (Val.move rfl rfl) ?_
     refine WP.val rfl rfl rfl (Val.nilCheck rfl rfl) ?_
     refine WP.val rfl rfl rfl (Val.fieldAddr (j := 2) rfl Ty.fo160_2 rfl rfl) ?_
     refine WP.val rfl rfl rfl (Val.load rfl Ty.sc110 rfl (fun w h => h.cell 1 rfl rfl)) ?_
     refine WP.val rfl rfl rfl (Val.len rfl Ty.sl110 rfl) ?_
     refine WP.val rfl rfl rfl (Val.neq rfl rfl rfl) ?_
     refine WP.nx ?_
     refine WPc.ifP rfl (fun h12 => ?_) (fun h12 => ?_)
     ·
      have h12 : (((r.p.fin.size : Nat) : Int) ≠ (0 : Int)) := h12
      refine WPc.region ?_
      refine WP.val rfl rfl rfl (Val.move rfl rfl) ?_
      refine WP.val rfl rfl rfl (Val.nilCheck rfl rfl) ?_
      refine WP.val rfl rfl rfl (Val.fieldAddr (j := 1) rfl Ty.fo160_1 rfl rfl) ?_
      refine WP.val rfl rfl rfl (Val.load rfl Ty.sc110 rfl (fun w h => h.cell 1 rfl rfl)) ?_
      refine WP.val rfl rfl rfl (Val.move rfl rfl) ?_
      refine WP.eff rfl rfl rfl (Eff.call rfl rfl Try.call104 (bai_does (.slice (some ⟨r.kb, 0, none⟩) r.p.key.size r.ck) (.slice (some ⟨r.fb, 0, none⟩) r.p.fin.size r.cf))) ?_
      rintro _ _ ⟨_, ⟨rfl, rfl⟩, rfl⟩
      show WP _ _ _ _ _ _ _ (Blk b1 [.nilIface, .nilIface] 172 :: _)
      refine WP.eff0 rfl rfl (Eff.storeAgg (cs := [.iface 132 (.slice (some ⟨r.kb, 0, none⟩) r.p.key.size r.ck), .iface 132 (.slice (some ⟨r.fb, 0, none⟩) r.p.fin.size r.cf)]) (C' := [.iface 132 (.slice (some ⟨r.kb, 0, none⟩) r.p.key.size r.ck), .iface 132 (.slice (some ⟨r.fb, 0, none⟩) r.p.fin.size r.cf)]) rfl Ty.ag172 rfl rfl rfl rfl (by simp) rfl) ?_
      rintro _ _ rfl
      refine WP.nx ?_
      refine WPc.seq ?_
      refine WPc.perm pl2 ?_
      refine WPc.conv (fun w h => enp_b r.p.key hck h) ?_
      show WPc _ _ _ _ _ _ (Enp (⟨ka r.p.key, 132, .slice (some ⟨r.kb, 0, none⟩) r.p.key.size r.ck⟩ : En) :: Blk b1 [.iface 132 (.slice (some ⟨r.kb, 0, none⟩) r.p.key.size r.ck), .iface 132 (.slice (some ⟨r.fb, 0, none⟩) r.p.fin.size r.cf)] 172 :: _)
      refine WPc.perm pl3 ?_
      refine WPc.conv (fun w h => enp_b r.p.fin hcf h) ?_
      show WPc _ _ _ _ _ _ (Enp (⟨ka r.p.fin, 132, .slice (some ⟨r.fb, 0, none⟩) r.p.fin.size r.cf⟩ : En) :: _)
      have hee : (⟨ka r.p.fin, 132, .slice (some ⟨r.fb, 0, none⟩) r.p.fin.size r.cf⟩ : En).k = qE r.p.key r.p.fin := (by first | exact (qE_n (by omega) (by omega)).symm | exact (qE_1 (by omega) hc (by assumption)).symm)
      refine WPc.region ?_
      refine WP.val rfl rfl rfl (Val.move rfl rfl) ?_
      refine WP.val rfl rfl rfl (Val.nilCheck rfl rfl) ?_
      refine WP.val rfl rfl rfl (Val.fieldAddr (j := 0) rfl Ty.fo160_0 rfl rfl) ?_
      refine WP.val rfl rfl rfl (Val.load rfl Ty.sc111 rfl (fun w h => h.cell 3 rfl rfl)) ?_
      refine WP.nx ?_
      refine WPc.block ?_
      refine WPc.sr ?_
      refine WP.val rfl rfl rfl (Val.eql rfl rfl rfl) ?_
      refine WP.val rfl rfl rfl (Val.assign rfl rfl) ?_
      refine WP.nx ?_
      refine WPc.ifP rfl (fun h13 => ?_) (fun h13 => ?_)
      ·
       have h13 : (r.p.k = (2 : Int)) := h13
       refine WPc.sr ?_
       refine WP.val rfl rfl rfl (Val.move rfl rfl) ?_
       refine WP.val rfl rfl rfl (Val.loadAgg (cs := [.iface 132 (.slice (some ⟨r.kb, 0, none⟩) r.p.key.size r.ck), .iface 132 (.slice (some ⟨r.fb, 0, none⟩) r.p.fin.size r.cf)]) rfl Ty.ag172 rfl rfl (fun w h => h.range 2 rfl rfl)) ?_
       refine WP.val rfl rfl rfl (Val.mk (cs := []) rfl rfl (fun _ => by kernel_rfl)) ?_
       refine WP.val rfl rfl rfl (Val.iface rfl rfl Ty.ni210) ?_
       refine WP.perm pl6 ?_
       refine WP.perm pl1 ?_
       refine WP.perm pl2 ?_
       refine WP.eff rfl rfl rfl (Eff.invoke (f := 138) rfl rfl rfl (fun _ => by kernel_rfl) Try.call138 (ins0_does 132 tb1 q1 t1 hR1 htb1 (by omega) (⟨ka r.p.key, 132, .slice (some ⟨r.kb, 0, none⟩) r.p.key.size r.ck⟩ : En) (⟨ka r.p.fin, 132, .slice (some ⟨r.fb, 0, none⟩) r.p.fin.size r.cf⟩ : En) rfl rfl (210, .agg #[]))) ?_
       rintro _ _ ⟨_, ⟨p1, z1, hP1, hpt1, rfl⟩, rfl⟩
       show WP _ _ _ _ _ _ _ (_ :: _ :: TM p1 :: _)
       refine WP.nx ?_
       refine WPc.region ?_
       refine WP.val rfl rfl rfl (Val.move rfl rfl) ?_
       refine WP.val rfl rfl rfl (Val.loadAgg (cs := [.iface 132 (.slice (some ⟨r.kb, 0, none⟩) r.p.key.size r.ck), .iface 132 (.slice (some ⟨r.fb, 0, none⟩) r.p.fin.size r.cf)]) rfl Ty.ag172 rfl rfl (fun w h => h.range 3 rfl rfl)) ?_
       refine WP.val rfl rfl rfl (Val.mk (cs := []) rfl rfl (fun _ => by kernel_rfl)) ?_
       refine WP.val rfl rfl rfl (Val.iface rfl rfl Ty.ni210) ?_
       refine WP.perm pl7 ?_
       refine WP.perm pl2 ?_
       refine WP.perm pl2 ?_
       refine WP.eff rfl rfl rfl (Eff.invoke (f := 138) rfl rfl rfl (fun _ => by kernel_rfl) Try.call138 (ins0_does 132 tb2 q2 t2 hR2 htb2 (by omega) (⟨ka r.p.key, 132, .slice (some ⟨r.kb, 0, none⟩) r.p.key.size r.ck⟩ : En) (⟨ka r.p.fin, 132, .slice (some ⟨r.fb, 0, none⟩) r.p.fin.size r.cf⟩ : En) rfl rfl (210, .agg #[]))) ?_
       rintro _ _ ⟨_, ⟨p2, z2, hP2, hpt2, rfl⟩, rfl⟩
       show WP _ _ _ _ _ _ _ (_ :: _ :: TM p2 :: _)
       refine WP.nil ?_
       refine Out.block ?_
       refine Out.block ?_
       refine Out.next ?_
       refine WPc.region ?_
       refine WP.val rfl rfl rfl (Val.add (z := ((j + 1 : Nat) : Int)) rfl rfl rfl ((w64 (by omega) (by omega)).trans (by omega))) ?_
       refine WP.val rfl rfl rfl (Val.move rfl rfl) ?_
       refine WP.nil ?_
       refine Out.drop ?_
       refine Out.drop ?_
       refine Out.perm pl2 ?_
       refine Out.drop ?_
       refine Out.perm pl2 ?_
       refine Out.drop ?_
       iterate 4 (refine Out.perm pl7 ?_)
       refine Out.perm pl4 ?_
       refine Out.perm pl5 ?_
       refine Out.perm pl6 ?_
       refine Out.perm pl7 ?_
       refine Out.again (j + 1, p1, p2, insT z1 ⟨(⟨ka r.p.key, 132, .slice (some ⟨r.kb, 0, none⟩) r.p.key.size r.ck⟩ : En), (⟨ka r.p.fin, 132, .slice (some ⟨r.fb, 0, none⟩) r.p.fin.size r.cf⟩ : En), ((210, .agg #[]) : TypeId × Value).1, ((210, .agg #[]) : TypeId × Value).2⟩ t1, insT z2 ⟨(⟨ka r.p.key, 132, .slice (some ⟨r.kb, 0, none⟩) r.p.key.size r.ck⟩ : En), (⟨ka r.p.fin, 132, .slice (some ⟨r.fb, 0, none⟩) r.p.fin.size r.cf⟩ : En), ((210, .agg #[]) : TypeId × Value).1, ((210, .agg #[]) : TypeId × Value).2⟩ t2) ?_ ?_ ?_ ?_
       ·
        exact ⟨by show j + 1 ≤ l.length; omega, hP1, hP2, by show Mem 0 (l.take (j + 1)) _; rw [take_more hx]; exact mem_yes (v := ((210, .agg #[]) : TypeId × Value)) hM1 hR1.srt (by unfold alw; omega) rfl hee, by show Mem 1 (l.take (j + 1)) _; rw [take_more hx]; exact mem_yes (v := ((210, .agg #[]) : TypeId × Value)) hM2 hR2.srt (by unfold alw; omega) rfl hee, hpt1, hpt2⟩
       ·
        (first | omega | (dsimp only; omega))
       ·
        exact (Sub.cons rfl (Sub.cons rfl (Sub.cons rfl (Sub.cons rfl (Sub.cons rfl (Sub.cons rfl (Sub.cons rfl (Sub.cons rfl (Sub.cons rfl (Sub.cons rfl (Sub.cons rfl (Sub.cons rfl Sub.nil))))))))))))
       ·
        exact (fun _ h => h)
      ·
       have h13 : ¬ (r.p.k = (2 : Int)) := h13
       refine WPc.sr ?_
       refine WP.val rfl rfl rfl (Val.eql rfl rfl rfl) ?_
       refine WP.val rfl rfl rfl (Val.assign rfl rfl) ?_
       refine WP.nx ?_
       refine WPc.ifP rfl (fun h14 => ?_) (fun h14 => ?_)
       ·
        have h14 : (r.p.k = (0 : Int)) := h14
        refine WPc.region ?_
        refine WP.val rfl rfl rfl (Val.move rfl rfl) ?_
        refine WP.val rfl rfl rfl (Val.loadAgg (cs := [.iface 132 (.slice (some ⟨r.kb, 0, none⟩) r.p.key.size r.ck), .iface 132 (.slice (some ⟨r.fb, 0, none⟩) r.p.fin.size r.cf)]) rfl Ty.ag172 rfl rfl (fun w h => h.range 2 rfl rfl)) ?_
        refine WP.val rfl rfl rfl (Val.mk (cs := []) rfl rfl (fun _ => by kernel_rfl)) ?_
        refine WP.val rfl rfl rfl (Val.iface rfl rfl Ty.ni210) ?_
        refine WP.perm pl6 ?_
        refine WP.perm pl1 ?_
        refine WP.perm pl2 ?_
        refine WP.eff rfl rfl rfl (Eff.invoke (f := 138) rfl rfl rfl (fun _ => by kernel_rfl) Try.call138 (ins0_does 132 tb1 q1 t1 hR1 htb1 (by omega) (⟨ka r.p.key, 132, .slice (some ⟨r.kb, 0, none⟩) r.p.key.size r.ck⟩ : En) (⟨ka r.p.fin, 132, .slice (some ⟨r.fb, 0, none⟩) r.p.fin.size r.cf⟩ : En) rfl rfl (210, .agg #[]))) ?_
        rintro _ _ ⟨_, ⟨p1, z1, hP1, hpt1, rfl⟩, rfl⟩
        show WP _ _ _ _ _ _ _ (_ :: _ :: TM p1 :: _)
        refine WP.nil ?_
        refine Out.block ?_
        refine Out.block ?_
        refine Out.next ?_
        refine WPc.region ?_
        refine WP.val rfl rfl rfl (Val.add (z := ((j + 1 : Nat) : Int)) rfl rfl rfl ((w64 (by omega) (by omega)).trans (by omega))) ?_
        refine WP.val rfl rfl rfl (Val.move rfl rfl) ?_
        refine WP.nil ?_
        refine Out.drop ?_
        refine Out.drop ?_
        refine Out.perm pl1 ?_
        refine Out.drop ?_
        refine Out.perm pl1 ?_
        refine Out.drop ?_
        iterate 5 (refine Out.perm pl7 ?_)
        refine Out.perm pl5 ?_
        refine Out.perm pl6 ?_
        refine Out.perm pl7 ?_
        refine Out.again (j + 1, p1, q2, insT z1 ⟨(⟨ka r.p.key, 132, .slice (some ⟨r.kb, 0, none⟩) r.p.key.size r.ck⟩ : En), (⟨ka r.p.fin, 132, .slice (some ⟨r.fb, 0, none⟩) r.p.fin.size r.cf⟩ : En), ((210, .agg #[]) : TypeId × Value).1, ((210, .agg #[]) : TypeId × Value).2⟩ t1, t2) ?_ ?_ ?_ ?_
        ·
         exact ⟨by show j + 1 ≤ l.length; omega, hP1, hR2, by show Mem 0 (l.take (j + 1)) _; rw [take_more hx]; exact mem_yes (v := ((210, .agg #[]) : TypeId × Value)) hM1 hR1.srt (by unfold alw; omega) rfl hee, by show Mem 1 (l.take (j + 1)) _; rw [take_more hx]; exact mem_no hM2 (by unfold alw; omega), hpt1, htb2⟩
        ·
         (first | omega | (dsimp only; omega))
        ·
         exact (Sub.cons rfl (Sub.cons rfl (Sub.cons rfl (Sub.cons rfl (Sub.cons rfl (Sub.cons rfl (Sub.cons rfl (Sub.cons rfl (Sub.cons rfl (Sub.cons rfl (Sub.cons rfl (Sub.cons rfl Sub.nil))))))))))))
        ·
         exact (fun _ h => h)
       ·
        have h14 : ¬ (r.p.k = (0 : Int)) := h14
        refine WPc.sr ?_
        refine WP.val rfl rfl rfl (Val.eql rfl rfl rfl) ?_
        refine WP.val rfl rfl rfl (Val.assign rfl rfl) ?_
        refine WP.nx ?_
        refine WPc.ifP rfl (fun h15 => ?_) (fun h15 => ?_)
        ·
         have h15 : (r.p.k = (1 : Int)) := h15
         refine WPc.region ?_
         refine WP.val rfl rfl rfl (Val.move rfl rfl) ?_
         refine WP.val rfl rfl rfl (Val.loadAgg (cs := [.iface 132 (.slice (some ⟨r.kb, 0, none⟩) r.p.key.size r.ck), .iface 132 (.slice (some ⟨r.fb, 0, none⟩) r.p.fin.size r.cf)]) rfl Ty.ag172 rfl rfl (fun w h => h.range 2 rfl rfl)) ?_
         refine WP.val rfl rfl rfl (Val.mk (cs := []) rfl rfl (fun _ => by kernel_rfl)) ?_
         refine WP.val rfl rfl rfl (Val.iface rfl rfl Ty.ni210) ?_
         refine WP.perm pl7 ?_
         refine WP.perm pl1 ?_
         refine WP.perm pl2 ?_
         refine WP.eff rfl rfl rfl (Eff.invoke (f := 138) rfl rfl rfl (fun _ => by kernel_rfl) Try.call138 (ins0_does 132 tb2 q2 t2 hR2 htb2 (by omega) (⟨ka r.p.key, 132, .slice (some ⟨r.kb, 0, none⟩) r.p.key.size r.ck⟩ : En) (⟨ka r.p.fin, 132, .slice (some ⟨r.fb, 0, none⟩) r.p.fin.size r.cf⟩ : En) rfl rfl (210, .agg #[]))) ?_
         rintro _ _ ⟨_, ⟨p2, z2, hP2, hpt2, rfl⟩, rfl⟩
         show WP _ _ _ _ _ _ _ (_ :: _ :: TM p2 :: _)
         refine WP.nil ?_
         refine Out.block ?_
         refine Out.block ?_
         refine Out.next ?_
         refine WPc.region ?_
         refine WP.val rfl rfl rfl (Val.add (z := ((j + 1 : Nat) : Int)) rfl rfl rfl ((w64 (by omega) (by omega)).trans (by omega))) ?_
         refine WP.val rfl rfl rfl (Val.move rfl rfl) ?_
         refine WP.nil ?_
         refine Out.drop ?_
         refine Out.drop ?_
         refine Out.perm pl1 ?_
         refine Out.drop ?_
         refine Out.perm pl1 ?_
         refine Out.drop ?_
         iterate 4 (refine Out.perm pl7 ?_)
         refine Out.perm pl4 ?_
         refine Out.perm pl7 ?_
         refine Out.perm pl6 ?_
         refine Out.perm pl7 ?_
         refine Out.again (j + 1, q1, p2, t1, insT z2 ⟨(⟨ka r.p.key, 132, .slice (some ⟨r.kb, 0, none⟩) r.p.key.size r.ck⟩ : En), (⟨ka r.p.fin, 132, .slice (some ⟨r.fb, 0, none⟩) r.p.fin.size r.cf⟩ : En), ((210, .agg #[]) : TypeId × Value).1, ((210, .agg #[]) : TypeId × Value).2⟩ t2) ?_ ?_ ?_ ?_
         ·
          exact ⟨by show j + 1 ≤ l.length; omega, hR1, hP2, by show Mem 0 (l.take (j + 1)) _; rw [take_more hx]; exact mem_no hM1 (by unfold alw; omega), by show Mem 1 (l.take (j + 1)) _; rw [take_more hx]; exact mem_yes (v := ((210, .agg #[]) : TypeId × Value)) hM2 hR2.srt (by unfold alw; omega) rfl hee, htb1, hpt2⟩
         ·
          (first | omega | (dsimp only; omega))
         ·
          exact (Sub.cons rfl (Sub.cons rfl (Sub.cons rfl (Sub.cons rfl (Sub.cons rfl (Sub.cons rfl (Sub.cons rfl (Sub.cons rfl (Sub.cons rfl (Sub.cons rfl (Sub.cons rfl (Sub.cons rfl Sub.nil))))))))))))
         ·
          exact (fun _ h => h)
        ·
         have h15 : ¬ (r.p.k = (1 : Int)) := h15
         exfalso; omega
     ·
      have h12 : ¬ (((r.p.fin.size : Nat) : Int) ≠ (0 : Int)) := h12
      refine WPc.region ?_
      refine WP.val rfl rfl rfl (Val.move rfl rfl) ?_
      refine WP.val rfl rfl rfl (Val.nilCheck rfl rfl) ?_
      refine WP.val rfl rfl rfl (Val.fieldAddr (j := 1) rfl Ty.fo160_1 rfl rfl) ?_
      refine WP.val rfl rfl rfl (Val.load rfl Ty.sc110 rfl (fun w h => h.cell 1 rfl rfl)) ?_
      refine WP.perm pl2 ?_
      refine WP.eff rfl rfl rfl (Eff.call rfl rfl Try.call105 (bap_does r.kb r.ck r.sk r.p.key (by omega) hck)) ?_
      rintro _ _ ⟨_, ⟨gp, rfl, rfl⟩, rfl⟩
      show WP _ _ _ _ _ _ _ (_ :: Blk gp (byteCells r.p.key ++ [Value.int .u8 0]) 5 :: Blk b1 [.nilIface, .nilIface] 172 :: _)
      refine WP.perm pl2 ?_
      refine WP.eff0 rfl rfl (Eff.storeAgg (cs := [.iface 132 (.slice (some ⟨r.kb, 0, none⟩) r.p.key.size r.ck), .iface 132 (.slice (some ⟨gp, 0, none⟩) ((r.p.key.size + 1)) ((r.p.key.size + 1)))]) (C' := [.iface 132 (.slice (some ⟨r.kb, 0, none⟩) r.p.key.size r.ck), .iface 132 (.slice (some ⟨gp, 0, none⟩) ((r.p.key.size + 1)) ((r.p.key.size + 1)))]) rfl Ty.ag172 rfl rfl rfl rfl (by simp) rfl) ?_
      rintro _ _ rfl
      refine WP.nx ?_
      refine WPc.seq ?_
      refine WPc.perm pl1 ?_
      refine WPc.conv (fun w h => enp_b r.p.key hck h) ?_
      show WPc _ _ _ _ _ _ (Enp (⟨ka r.p.key, 132, .slice (some ⟨r.kb, 0, none⟩) r.p.key.size r.ck⟩ : En) :: Blk b1 [.iface 132 (.slice (some ⟨r.kb, 0, none⟩) r.p.key.size r.ck), .iface 132 (.slice (some ⟨gp, 0, none⟩) ((r.p.key.size + 1)) ((r.p.key.size + 1)))] 172 :: _)
      refine WPc.perm pl2 ?_
      refine WPc.conv (fun w h => enp_0 r.p.key h) ?_
      show WPc _ _ _ _ _ _ (Enp (⟨ka (r.p.key ++ (⟨#[0]⟩ : ByteArray)), 132, .slice (some ⟨gp, 0, none⟩) (r.p.key.size + 1) (r.p.key.size + 1)⟩ : En) :: _)
      have hee : (⟨ka (r.p.key ++ (⟨#[0]⟩ : ByteArray)), 132, .slice (some ⟨gp, 0, none⟩) (r.p.key.size + 1) (r.p.key.size + 1)⟩ : En).k = qE r.p.key r.p.fin := (qE_pt (by omega)).symm
      refine WPc.region ?_
      refine WP.val rfl rfl rfl (Val.move rfl rfl) ?_
      refine WP.val rfl rfl rfl (Val.nilCheck rfl rfl) ?_
      refine WP.val rfl rfl rfl (Val.fieldAddr (j := 0) rfl Ty.fo160_0 rfl rfl) ?_
      refine WP.val rfl rfl rfl (Val.load rfl Ty.sc111 rfl (fun w h => h.cell 3 rfl rfl)) ?_
      refine WP.nx ?_
      refine WPc.block ?_
      refine WPc.sr ?_
      refine WP.val rfl rfl rfl (Val.eql rfl rfl rfl) ?_
      refine WP.val rfl rfl rfl (Val.assign rfl rfl) ?_
      refine WP.nx ?_
      refine WPc.ifP rfl (fun h16 => ?_) (fun h16 => ?_)
      ·
       have h16 : (r.p.k = (2 : Int)) := h16
       refine WPc.sr ?_
       refine WP.val rfl rfl rfl (Val.move rfl rfl) ?_
       refine WP.val rfl rfl rfl (Val.loadAgg (cs := [.iface 132 (.slice (some ⟨r.kb, 0, none⟩) r.p.key.size r.ck), .iface 132 (.slice (some ⟨gp, 0, none⟩) ((r.p.key.size + 1)) ((r.p.key.size + 1)))]) rfl Ty.ag172 rfl rfl (fun w h => h.range 2 rfl rfl)) ?_
       refine WP.val rfl rfl rfl (Val.mk (cs := []) rfl rfl (fun _ => by kernel_rfl)) ?_
       refine WP.val rfl rfl rfl (Val.iface rfl rfl Ty.ni210) ?_
       refine WP.perm pl7 ?_
       refine WP.perm pl1 ?_
       refine WP.perm pl2 ?_
       refine WP.eff rfl rfl rfl (Eff.invoke (f := 138) rfl rfl rfl (fun _ => by kernel_rfl) Try.call138 (ins0_does 132 tb1 q1 t1 hR1 htb1 (by omega) (⟨ka r.p.key, 132, .slice (some ⟨r.kb, 0, none⟩) r.p.key.size r.ck⟩ : En) (⟨ka (r.p.key ++ (⟨#[0]⟩ : ByteArray)), 132, .slice (some ⟨gp, 0, none⟩) (r.p.key.size + 1) (r.p.key.size + 1)⟩ : En) rfl rfl (210, .agg #[]))) ?_
       rintro _ _ ⟨_, ⟨p1, z1, hP1, hpt1, rfl⟩, rfl⟩
       show WP _ _ _ _ _ _ _ (_ :: _ :: TM p1 :: _)
       refine WP.nx ?_
       refine WPc.region ?_
       refine WP.val rfl rfl rfl (Val.move rfl rfl) ?_
       refine WP.val rfl rfl rfl (Val.loadAgg (cs := [.iface 132 (.slice (some ⟨r.kb, 0, none⟩) r.p.key.size r.ck), .iface 132 (.slice (some ⟨gp, 0, none⟩) ((r.p.key.size + 1)) ((r.p.key.size + 1)))]) rfl Ty.ag172 rfl rfl (fun w h => h.range 3 rfl rfl)) ?_
       refine WP.val rfl rfl rfl (Val.mk (cs := []) rfl rfl (fun _ => by kernel_rfl)) ?_
       refine WP.val rfl rfl rfl (Val.iface rfl rfl Ty.ni210) ?_
       refine WP.perm pl8 ?_
       refine WP.perm pl2 ?_
       refine WP.perm pl2 ?_
       refine WP.eff rfl rfl rfl (Eff.invoke (f := 138) rfl rfl rfl (fun _ => by kernel_rfl) Try.call138 (ins0_does 132 tb2 q2 t2 hR2 htb2 (by omega) (⟨ka r.p.key, 132, .slice (some ⟨r.kb, 0, none⟩) r.p.key.size r.ck⟩ : En) (⟨ka (r.p.key ++ (⟨#[0]⟩ : ByteArray)), 132, .slice (some ⟨gp, 0, none⟩) (r.p.key.size + 1) (r.p.key.size + 1)⟩ : En) rfl rfl (210, .agg #[]))) ?_
       rintro _ _ ⟨_, ⟨p2, z2, hP2, hpt2, rfl⟩, rfl⟩
       show WP _ _ _ _ _ _ _ (_ :: _ :: TM p2 :: _)
       refine WP.nil ?_
       refine Out.block ?_
       refine Out.block ?_
       refine Out.next ?_
       refine WPc.region ?_
       refine WP.val rfl rfl rfl (Val.add (z := ((j + 1 : Nat) : Int)) rfl rfl rfl ((w64 (by omega) (by omega)).trans (by omega))) ?_
       refine WP.val rfl rfl rfl (Val.move rfl rfl) ?_
       refine WP.nil ?_
       refine Out.drop ?_
       iterate 3 (refine Out.drop ?_; refine Out.perm pl2 ?_)
       refine Out.drop ?_
       iterate 4 (refine Out.perm pl7 ?_)
       refine Out.perm pl4 ?_
       refine Out.perm pl5 ?_
       refine Out.perm pl6 ?_
       refine Out.perm pl7 ?_
       refine Out.again (j + 1, p1, p2, insT z1 ⟨(⟨ka r.p.key, 132, .slice (some ⟨r.kb, 0, none⟩) r.p.key.size r.ck⟩ : En), (⟨ka (r.p.key ++ (⟨#[0]⟩ : ByteArray)), 132, .slice (some ⟨gp, 0, none⟩) (r.p.key.size + 1) (r.p.key.size + 1)⟩ : En), ((210, .agg #[]) : TypeId × Value).1, ((210, .agg #[]) : TypeId × Value).2⟩ t1, insT z2 ⟨(⟨ka r.p.key, 132, .slice (some ⟨r.kb, 0, none⟩) r.p.key.size r.ck⟩ : En), (⟨ka (r.p.key ++ (⟨#[0]⟩ : ByteArray)), 132, .slice (some ⟨gp, 0, none⟩) (r.p.key.size + 1) (r.p.key.size + 1)⟩ : En), ((210, .agg #[]) : TypeId × Value).1, ((210, .agg #[]) : TypeId × Value).2⟩ t2) ?_ ?_ ?_ ?_
       ·
        exact ⟨by show j + 1 ≤ l.length; omega, hP1, hP2, by show Mem 0 (l.take (j + 1)) _; rw [take_more hx]; exact mem_yes (v := ((210, .agg #[]) : TypeId × Value)) hM1 hR1.srt (by unfold alw; omega) rfl hee, by show Mem 1 (l.take (j + 1)) _; rw [take_more hx]; exact mem_yes (v := ((210, .agg #[]) : TypeId × Value)) hM2 hR2.srt (by unfold alw; omega) rfl hee, hpt1, hpt2⟩
       ·
        (first | omega | (dsimp only; omega))
       ·
        exact (Sub.cons rfl (Sub.cons rfl (Sub.cons rfl (Sub.cons rfl (Sub.cons rfl (Sub.cons rfl (Sub.cons rfl (Sub.cons rfl (Sub.cons rfl (Sub.cons rfl (Sub.cons rfl (Sub.cons rfl Sub.nil))))))))))))
       ·
        exact (fun _ h => h)
      ·
       have h16 : ¬ (r.p.k = (2 : Int)) := h16
       refine WPc.sr ?_
       refine WP.val rfl rfl rfl (Val.eql rfl rfl rfl) ?_
       refine WP.val rfl rfl rfl (Val.assign rfl rfl) ?_
       refine WP.nx ?_
       refine WPc.ifP rfl (fun h17 => ?_) (fun h17 => ?_)
       ·
        have h17 : (r.p.k = (0 : Int)) := h17
        refine WPc.region ?_
        refine WP.val rfl rfl rfl (Val.move rfl rfl) ?_
        refine WP.val rfl rfl rfl (Val.loadAgg (cs := [.iface 132 (.slice (some ⟨r.kb, 0, none⟩) r.p.key.size r.ck), .iface 132 (.slice (some ⟨gp, 0, none⟩) ((r.p.key.size + 1)) ((r.p.key.size + 1)))]) rfl Ty.ag172 rfl rfl (fun w h => h.range 2 rfl rfl)) ?_
        refine WP.val rfl rfl rfl (Val.mk (cs := []) rfl rfl (fun _ => by kernel_rfl)) ?_
        refine WP.val rfl rfl rfl (Val.iface rfl rfl Ty.ni210) ?_
        refine WP.perm pl7 ?_
        refine WP.perm pl1 ?_
        refine WP.perm pl2 ?_
        refine WP.eff rfl rfl rfl (Eff.invoke (f := 138) rfl rfl rfl (fun _ => by kernel_rfl) Try.call138 (ins0_does 132 tb1 q1 t1 hR1 htb1 (by omega) (⟨ka r.p.key, 132, .slice (some ⟨r.kb, 0, none⟩) r.p.key.size r.ck⟩ : En) (⟨ka (r.p.key ++ (⟨#[0]⟩ : ByteArray)), 132, .slice (some ⟨gp, 0, none⟩) (r.p.key.size + 1) (r.p.key.size + 1)⟩ : En) rfl rfl (210, .agg #[]))) ?_
        rintro _ _ ⟨_, ⟨p1, z1, hP1, hpt1, rfl⟩, rfl⟩
        show WP _ _ _ _ _ _ _ (_ :: _ :: TM p1 :: _)
        refine WP.nil ?_
        refine Out.block ?_
        refine Out.block ?_
        refine Out.next ?_
        refine WPc.region ?_
        refine WP.val rfl rfl rfl (Val.add (z := ((j + 1 : Nat) : Int)) rfl rfl rfl ((w64 (by omega) (by omega)).trans (by omega))) ?_
        refine WP.val rfl rfl rfl (Val.move rfl rfl) ?_
        refine WP.nil ?_
        refine Out.drop ?_
        iterate 3 (refine Out.drop ?_; refine Out.perm pl1 ?_)
        refine Out.drop ?_
        iterate 5 (refine Out.perm pl7 ?_)
        refine Out.perm pl5 ?_
        refine Out.perm pl6 ?_
        refine Out.perm pl7 ?_
        refine Out.again (j + 1, p1, q2, insT z1 ⟨(⟨ka r.p.key, 132, .slice (some ⟨r.kb, 0, none⟩) r.p.key.size r.ck⟩ : En), (⟨ka (r.p.key ++ (⟨#[0]⟩ : ByteArray)), 132, .slice (some ⟨gp, 0, none⟩) (r.p.key.size + 1) (r.p.key.size + 1)⟩ : En), ((210, .agg #[]) : TypeId × Value).1, ((210, .agg #[]) : TypeId × Value).2⟩ t1, t2) ?_ ?_ ?_ ?_
        ·
         exact ⟨by show j + 1 ≤ l.length; omega, hP1, hR2, by show Mem 0 (l.take (j + 1)) _; rw [take_more hx]; exact mem_yes (v := ((210, .agg #[]) : TypeId × Value)) hM1 hR1.srt (by unfold alw; omega) rfl hee, by show Mem 1 (l.take (j + 1)) _; rw [take_more hx]; exact mem_no hM2 (by unfold alw; omega), hpt1, htb2⟩
        ·
         (first | omega | (dsimp only; omega))
        ·
         exact (Sub.cons rfl (Sub.cons rfl (Sub.cons rfl (Sub.cons rfl (Sub.cons rfl (Sub.cons rfl (Sub.cons rfl (Sub.cons rfl (Sub.cons rfl (Sub.cons rfl (Sub.cons rfl (Sub.cons rfl Sub.nil))))))))))))
        ·
         exact (fun _ h => h)
       ·
        have h17 : ¬ (r.p.k = (0 : Int)) := h17
        refine WPc.sr ?_
        refine WP.val rfl rfl rfl (Val.eql rfl rfl rfl) ?_
        refine WP.val rfl rfl rfl (Val.assign rfl rfl) ?_
        refine WP.nx ?_
        refine WPc.ifP rfl (fun h18 => ?_) (fun h18 => ?_)
        ·
         have h18 : (r.p.k = (1 : Int)) := h18
         refine WPc.region ?_
         refine WP.val rfl rfl rfl (Val.move rfl rfl) ?_
         refine WP.val rfl rfl rfl (Val.loadAgg (cs := [.iface 132 (.slice (some ⟨r.kb, 0, none⟩) r.p.key.size r.ck), .iface 132 (.slice (some ⟨gp, 0, none⟩) ((r.p.key.size + 1)) ((r.p.key.size + 1)))]) rfl Ty.ag172 rfl rfl (fun w h => h.range 2 rfl rfl)) ?_
         refine WP.val rfl rfl rfl (Val.mk (cs := []) rfl rfl (fun _ => by kernel_rfl)) ?_
         refine WP.val rfl rfl rfl (Val.iface rfl rfl Ty.ni210) ?_
         refine WP.perm pl8 ?_
         refine WP.perm pl1 ?_
         refine WP.perm pl2 ?_
         refine WP.eff rfl rfl rfl (Eff.invoke (f := 138) rfl rfl rfl (fun _ => by kernel_rfl) Try.call138 (ins0_does 132 tb2 q2 t2 hR2 htb2 (by omega) (⟨ka r.p.key, 132, .slice (some ⟨r.kb, 0, none⟩) r.p.key.size r.ck⟩ : En) (⟨ka (r.p.key ++ (⟨#[0]⟩ : ByteArray)), 132, .slice (some ⟨gp, 0, none⟩) (r.p.key.size + 1) (r.p.key.size + 1)⟩ : En) rfl rfl (210, .agg #[]))) ?_
         rintro _ _ ⟨_, ⟨p2, z2, hP2, hpt2, rfl⟩, rfl⟩
         show WP _ _ _ _ _ _ _ (_ :: _ :: TM p2 :: _)
         refine WP.nil ?_
         refine Out.block ?_
         refine Out.block ?_
         refine Out.next ?_
         refine WPc.region ?_
         refine WP.val rfl rfl rfl (Val.add (z := ((j + 1 : Nat) : Int)) rfl rfl rfl ((w64 (by omega) (by omega)).trans (by omega))) ?_
         refine WP.val rfl rfl rfl (Val.move rfl rfl) ?_
         refine WP.nil ?_
         refine Out.drop ?_
         iterate 3 (refine Out.drop ?_; refine Out.perm pl1 ?_)
         refine Out.drop ?_
         iterate 4 (refine Out.perm pl7 ?_)
         refine Out.perm pl4 ?_
         refine Out.perm pl7 ?_
         refine Out.perm pl6 ?_
         refine Out.perm pl7 ?_
         refine Out.again (j + 1, q1, p2, t1, insT z2 ⟨(⟨ka r.p.key, 132, .slice (some ⟨r.kb, 0, none⟩) r.p.key.size r.ck⟩ : En), (⟨ka (r.p.key ++ (⟨#[0]⟩ : ByteArray)), 132, .slice (some ⟨gp, 0, none⟩) (r.p.key.size + 1) (r.p.key.size + 1)⟩ : En), ((210, .agg #[]) : TypeId × Value).1, ((210, .agg #[]) : TypeId × Value).2⟩ t2) ?_ ?_ ?_ ?_
         ·
          exact ⟨by show j + 1 ≤ l.length; omega, hR1, hP2, by show Mem 0 (l.take (j + 1)) _; rw [take_more hx]; exact mem_no hM1 (by unfold alw; omega), by show Mem 1 (l.take (j + 1)) _; rw [take_more hx]; exact mem_yes (v := ((210, .agg #[]) : TypeId × Value)) hM2 hR2.srt (by unfold alw; omega) rfl hee, htb1, hpt2⟩
         ·
          (first | omega | (dsimp only; omega))
         ·
          exact (Sub.cons rfl (Sub.cons rfl (Sub.cons rfl (Sub.cons rfl (Sub.cons rfl (Sub.cons rfl (Sub.cons rfl (Sub.cons rfl (Sub.cons rfl (Sub.cons rfl (Sub.cons rfl (Sub.cons rfl Sub.nil))))))))))))
         ·
          exact (fun _ h => h)
        ·
         have h18 : ¬ (r.p.k = (1 : Int)) := h18
         exfalso; omega
    ·
     have h11 : ¬ (((c.toNat : Nat) : Int) ≠ (0 : Int)) := h11
     refine WPc.skip ?_
     refine Out.next ?_
     refine WPc.seq ?_
     refine WPc.sr ?_
     refine WP.val rfl rfl rfl (Val.move rfl rfl) ?_
     refine WP.val rfl rfl rfl (Val.nilCheck rfl rfl) ?_
     refine WP.val rfl rfl rfl (Val.fieldAddr (j := 2) rfl Ty.fo160_2 rfl rfl) ?_
     refine WP.val rfl rfl rfl (Val.load rfl Ty.sc110 rfl (fun w h => h.cell 1 rfl rfl)) ?_
     refine WP.val rfl rfl rfl (Val.len rfl Ty.sl110 rfl) ?_
     refine WP.val rfl rfl rfl (Val.neq rfl rfl rfl) ?_
     refine WP.nx ?_
     refine WPc.ifP rfl (fun h19 => ?_) (fun h19 => ?_)
     ·
      have h19 : (((r.p.fin.size : Nat) : Int) ≠ (0 : Int)) := h19
      refine WPc.region ?_
      refine WP.val rfl rfl rfl (Val.move rfl rfl) ?_
      refine WP.val rfl rfl rfl (Val.nilCheck rfl rfl) ?_
      refine WP.val rfl rfl rfl (Val.fieldAddr (j := 1) rfl Ty.fo160_1 rfl rfl) ?_
      refine WP.val rfl rfl rfl (Val.load rfl Ty.sc110 rfl (fun w h => h.cell 1 rfl rfl)) ?_
      refine WP.val rfl rfl rfl (Val.move rfl rfl) ?_
      refine WP.eff rfl rfl rfl (Eff.call rfl rfl Try.call104 (bai_does (.slice (some ⟨r.kb, 0, none⟩) r.p.key.size r.ck) (.slice none 0 0))) ?_
      rintro _ _ ⟨_, ⟨rfl, rfl⟩, rfl⟩
      show WP _ _ _ _ _ _ _ (Blk b1 [.nilIface, .nilIface] 172 :: _)
      refine WP.eff0 rfl rfl (Eff.storeAgg (cs := [.iface 132 (.slice (some ⟨r.kb, 0, none⟩) r.p.key.size r.ck), .iface 132 (.slice none 0 0)]) (C' := [.iface 132 (.slice (some ⟨r.kb, 0, none⟩) r.p.key.size r.ck), .iface 132 (.slice none 0 0)]) rfl Ty.ag172 rfl rfl rfl rfl (by simp) rfl) ?_
      rintro _ _ rfl
      refine WP.nx ?_
      refine WPc.seq ?_
      refine WPc.perm pl2 ?_
      refine WPc.conv (fun w h => enp_b r.p.key hck h) ?_
      show WPc _ _ _ _ _ _ (Enp (⟨ka r.p.key, 132, .slice (some ⟨r.kb, 0, none⟩) r.p.key.size r.ck⟩ : En) :: Blk b1 [.iface 132 (.slice (some ⟨r.kb, 0, none⟩) r.p.key.size r.ck), .iface 132 (.slice none 0 0)] 172 :: _)
      refine WPc.conv (fun w h => enp_nil h) ?_
      show WPc _ _ _ _ _ _ (Enp (⟨top, 132, .slice none 0 0⟩ : En) :: _)
      have hee : (⟨top, 132, .slice none 0 0⟩ : En).k = qE r.p.key r.p.fin := (qE_open (by omega) hc (Decidable.byContradiction (by assumption))).symm
      refine WPc.region ?_
      refine WP.val rfl rfl rfl (Val.move rfl rfl) ?_
      refine WP.val rfl rfl rfl (Val.nilCheck rfl rfl) ?_
      refine WP.val rfl rfl rfl (Val.fieldAddr (j := 0) rfl Ty.fo160_0 rfl rfl) ?_
      refine WP.val rfl rfl rfl (Val.load rfl Ty.sc111 rfl (fun w h => h.cell 3 rfl rfl)) ?_
      refine WP.nx ?_
      refine WPc.block ?_
      refine WPc.sr ?_
      refine WP.val rfl rfl rfl (Val.eql rfl rfl rfl) ?_
      refine WP.val rfl rfl rfl (Val.assign rfl rfl) ?_
      refine WP.nx ?_
      refine WPc.ifP rfl (fun h20 => ?_) (fun h20 => ?_)
      ·
       have h20 : (r.p.k = (2 : Int)) := h20
       refine WPc.sr ?_
       refine WP.val rfl rfl rfl (Val.move rfl rfl) ?_
       refine WP.val rfl rfl rfl (Val.loadAgg (cs := [.iface 132 (.slice (some ⟨r.kb, 0, none⟩) r.p.key.size r.ck), .iface 132 (.slice none 0 0)]) rfl Ty.ag172 rfl rfl (fun w h => h.range 2 rfl rfl)) ?_
       refine WP.val rfl rfl rfl (Val.mk (cs := []) rfl rfl (fun _ => by kernel_rfl)) ?_
       refine WP.val rfl rfl rfl (Val.iface rfl rfl Ty.ni210) ?_
       refine WP.perm pl7 ?_
       refine WP.perm pl1 ?_
       refine WP.perm pl2 ?_
       refine WP.eff rfl rfl rfl (Eff.invoke (f := 138) rfl rfl rfl (fun _ => by kernel_rfl) Try.call138 (ins0_does 132 tb1 q1 t1 hR1 htb1 (by omega) (⟨ka r.p.key, 132, .slice (some ⟨r.kb, 0, none⟩) r.p.key.size r.ck⟩ : En) (⟨top, 132, .slice none 0 0⟩ : En) rfl rfl (210, .agg #[]))) ?_
       rintro _ _ ⟨_, ⟨p1, z1, hP1, hpt1, rfl⟩, rfl⟩
       show WP _ _ _ _ _ _ _ (_ :: _ :: TM p1 :: _)
       refine WP.nx ?_
       refine WPc.region ?_
       refine WP.val rfl rfl rfl (Val.move rfl rfl) ?_
       refine WP.val rfl rfl rfl (Val.loadAgg (cs := [.iface 132 (.slice (some ⟨r.kb, 0, none⟩) r.p.key.size r.ck), .iface 132 (.slice none 0 0)]) rfl Ty.ag172 rfl rfl (fun w h => h.range 3 rfl rfl)) ?_
       refine WP.val rfl rfl rfl (Val.mk (cs := []) rfl rfl (fun _ => by kernel_rfl)) ?_
       refine WP.val rfl rfl rfl (Val.iface rfl rfl Ty.ni210) ?_
       refine WP.perm pl8 ?_
       refine WP.perm pl2 ?_
       refine WP.perm pl2 ?_
       refine WP.eff rfl rfl rfl (Eff.invoke (f := 138) rfl rfl rfl (fun _ => by kernel_rfl) Try.call138 (ins0_does 132 tb2 q2 t2 hR2 htb2 (by omega) (⟨ka r.p.key, 132, .slice (some ⟨r.kb, 0, none⟩) r.p.key.size r.ck⟩ : En) (⟨top, 132, .slice none 0 0⟩ : En) rfl rfl (210, .agg #[]))) ?_
       rintro _ _ ⟨_, ⟨p2, z2, hP2, hpt2, rfl⟩, rfl⟩
       show WP _ _ _ _ _ _ _ (_ :: _ :: TM p2 :: _)
       refine WP.nil ?_
       refine Out.block ?_
       refine Out.block ?_
       refine Out.next ?_
       refine WPc.region ?_
       refine WP.val rfl rfl rfl (Val.add (z := ((j + 1 : Nat) : Int)) rfl rfl rfl ((w64 (by omega) (by omega)).trans (by omega))) ?_
       refine WP.val rfl rfl rfl (Val.move rfl rfl) ?_
       refine WP.nil ?_
       refine Out.drop ?_
       iterate 3 (refine Out.drop ?_; refine Out.perm pl2 ?_)
       refine Out.drop ?_
       iterate 4 (refine Out.perm pl7 ?_)
       refine Out.perm pl4 ?_
       refine Out.perm pl5 ?_
       refine Out.perm pl6 ?_
       refine Out.perm pl7 ?_
       refine Out.again (j + 1, p1, p2, insT z1 ⟨(⟨ka r.p.key, 132, .slice (some ⟨r.kb, 0, none⟩) r.p.key.size r.ck⟩ : En), (⟨top, 132, .slice none 0 0⟩ : En), ((210, .agg #[]) : TypeId × Value).1, ((210, .agg #[]) : TypeId × Value).2⟩ t1, insT z2 ⟨(⟨ka r.p.key, 132, .slice (some ⟨r.kb, 0, none⟩) r.p.key.size r.ck⟩ : En), (⟨top, 132, .slice none 0 0⟩ : En), ((210, .agg #[]) : TypeId × Value).1, ((210, .agg #[]) : TypeId × Value).2⟩ t2) ?_ ?_ ?_ ?_
       ·
        exact ⟨by show j + 1 ≤ l.length; omega, hP1, hP2, by show Mem 0 (l.take (j + 1)) _; rw [take_more hx]; exact mem_yes (v := ((210, .agg #[]) : TypeId × Value)) hM1 hR1.srt (by unfold alw; omega) rfl hee, by show Mem 1 (l.take (j + 1)) _; rw [take_more hx]; exact mem_yes (v := ((210, .agg #[]) : TypeId × Value)) hM2 hR2.srt (by unfold alw; omega) rfl hee, hpt1, hpt2⟩
       ·
        (first | omega | (dsimp only; omega))
       ·
        exact (Sub.cons rfl (Sub.cons rfl (Sub.cons rfl (Sub.cons rfl (Sub.cons rfl (Sub.cons rfl (Sub.cons rfl (Sub.cons rfl (Sub.cons rfl (Sub.cons rfl (Sub.cons rfl (Sub.cons rfl Sub.nil))))))))))))
       ·
        exact (fun _ h => h)
      ·
       have h20 : ¬ (r.p.k = (2 : Int)) := h20
       refine WPc.sr ?_
       refine WP.val rfl rfl rfl (Val.eql rfl rfl rfl) ?_
       refine WP.val rfl rfl rfl (Val.assign rfl rfl) ?_
       refine WP.nx ?_
       refine WPc.ifP rfl (fun h21 => ?_) (fun h21 => ?_)
       ·
        have h21 : (r.p.k = (0 : Int)) := h21
        refine WPc.region ?_
        refine WP.val rfl rfl rfl (Val.move rfl rfl) ?_
        refine WP.val rfl rfl rfl (Val.loadAgg (cs := [.iface 132 (.slice (some ⟨r.kb, 0, none⟩) r.p.key.size r.ck), .iface 132 (.slice none 0 0)]) rfl Ty.ag172 rfl rfl (fun w h => h.range 2 rfl rfl)) ?_
        refine WP.val rfl rfl rfl (Val.mk (cs := []) rfl rfl (fun _ => by kernel_rfl)) ?_
        refine WP.val rfl rfl rfl (Val.iface rfl rfl Ty.ni210) ?_
        refine WP.perm pl7 ?_
        refine WP.perm pl1 ?_
        refine WP.perm pl2 ?_
        refine WP.eff rfl rfl rfl (Eff.invoke (f := 138) rfl rfl rfl (fun _ => by kernel_rfl) Try.call138 (ins0_does 132 tb1 q1 t1 hR1 htb1 (by omega) (⟨ka r.p.key, 132, .slice (some ⟨r.kb, 0, none⟩) r.p.key.size r.ck⟩ : En) (⟨top, 132, .slice none 0 0⟩ : En) rfl rfl (210, .agg #[]))) ?_
        rintro _ _ ⟨_, ⟨p1, z1, hP1, hpt1, rfl⟩, rfl⟩
        show WP _ _ _ _ _ _ _ (_ :: _ :: TM p1 :: _)
        refine WP.nil ?_
        refine Out.block ?_
        refine Out.block ?_
        refine Out.next ?_
        refine WPc.region ?_
        refine WP.val rfl rfl rfl (Val.add (z := ((j + 1 : Nat) : Int)) rfl rfl rfl ((w64 (by omega) (by omega)).trans (by omega))) ?_
        refine WP.val rfl rfl rfl (Val.move rfl rfl) ?_
        refine WP.nil ?_
        refine Out.drop ?_
        iterate 3 (refine Out.drop ?_; refine Out.perm pl1 ?_)
        refine Out.drop ?_
        iterate 5 (refine Out.perm pl7 ?_)
        refine Out.perm pl5 ?_
        refine Out.perm pl6 ?_
        refine Out.perm pl7 ?_
        refine Out.again (j + 1, p1, q2, insT z1 ⟨(⟨ka r.p.key, 132, .slice (some ⟨r.kb, 0, none⟩) r.p.key.size r.ck⟩ : En), (⟨top, 132, .slice none 0 0⟩ : En), ((210, .agg #[]) : TypeId × Value).1, ((210, .agg #[]) : TypeId × Value).2⟩ t1, t2) ?_ ?_ ?_ ?_
        ·
         exact ⟨by show j + 1 ≤ l.length; omega, hP1, hR2, by show Mem 0 (l.take (j + 1)) _; rw [take_more hx]; exact mem_yes (v := ((210, .agg #[]) : TypeId × Value)) hM1 hR1.srt (by unfold alw; omega) rfl hee, by show Mem 1 (l.take (j + 1)) _; rw [take_more hx]; exact mem_no hM2 (by unfold alw; omega), hpt1, htb2⟩
        ·
         (first | omega | (dsimp only; omega))
        ·
         exact (Sub.cons rfl (Sub.cons rfl (Sub.cons rfl (Sub.cons rfl (Sub.cons rfl (Sub.cons rfl (Sub.cons rfl (Sub.cons rfl (Sub.cons rfl (Sub.cons rfl (Sub.cons rfl (Sub.cons rfl Sub.nil))))))))))))
        ·
         exact (fun _ h => h)
       ·
        have h21 : ¬ (r.p.k = (0 : Int)) := h21
        refine WPc.sr ?_
        refine WP.val rfl rfl rfl (Val.eql rfl rfl rfl) ?_
        refine WP.val rfl rfl rfl (Val.assign rfl rfl) ?_
        refine WP.nx ?_
        refine WPc.ifP rfl (fun h22 => ?_) (fun h22 => ?_)
        ·
         have h22 : (r.p.k = (1 : Int)) := h22
         refine WPc.region ?_
         refine WP.val rfl rfl rfl (Val.move rfl rfl) ?_
         refine WP.val rfl rfl rfl (Val.loadAgg (cs := [.iface 132 (.slice (some ⟨r.kb, 0, none⟩) r.p.key.size r.ck), .iface 132 (.slice none 0 0)]) rfl Ty.ag172 rfl rfl (fun w h => h.range 2 rfl rfl)) ?_
         refine WP.val rfl rfl rfl (Val.mk (cs := []) rfl rfl (fun _ => by kernel_rfl)) ?_
         refine WP.val rfl rfl rfl (Val.iface rfl rfl Ty.ni210) ?_
         refine WP.perm pl8 ?_
         refine WP.perm pl1 ?_
         refine WP.perm pl2 ?_
         refine WP.eff rfl rfl rfl (Eff.invoke (f := 138) rfl rfl rfl (fun _ => by kernel_rfl) Try.call138 (ins0_does 132 tb2 q2 t2 hR2 htb2 (by omega) (⟨ka r.p.key, 132, .slice (some ⟨r.kb, 0, none⟩) r.p.key.size r.ck⟩ : En) (⟨top, 132, .slice none 0 0⟩ : En) rfl rfl (210, .agg #[]))) ?_
         rintro _ _ ⟨_, ⟨p2, z2, hP2, hpt2, rfl⟩, rfl⟩
         show WP _ _ _ _ _ _ _ (_ :: _ :: TM p2 :: _)
         refine WP.nil ?_
         refine Out.block ?_
         refine Out.block ?_
         refine Out.next ?_
         refine WPc.region ?_
         refine WP.val rfl rfl rfl (Val.add (z := ((j + 1 : Nat) : Int)) rfl rfl rfl ((w64 (by omega) (by omega)).trans (by omega))) ?_
         refine WP.val rfl rfl rfl (Val.move rfl rfl) ?_
         refine WP.nil ?_
         refine Out.drop ?_
         iterate 3 (refine Out.drop ?_; refine Out.perm pl1 ?_)
         refine Out.drop ?_
         iterate 4 (refine Out.perm pl7 ?_)
         refine Out.perm pl4 ?_
         refine Out.perm pl7 ?_
         refine Out.perm pl6 ?_
         refine Out.perm pl7 ?_
         refine Out.again (j + 1, q1, p2, t1, insT z2 ⟨(⟨ka r.p.key, 132, .slice (some ⟨r.kb, 0, none⟩) r.p.key.size r.ck⟩ : En), (⟨top, 132, .slice none 0 0⟩ : En), ((210, .agg #[]) : TypeId × Value).1, ((210, .agg #[]) : TypeId × Value).2⟩ t2) ?_ ?_ ?_ ?_
         ·
          exact ⟨by show j + 1 ≤ l.length; omega, hR1, hP2, by show Mem 0 (l.take (j + 1)) _; rw [take_more hx]; exact mem_no hM1 (by unfold alw; omega), by show Mem 1 (l.take (j + 1)) _; rw [take_more hx]; exact mem_yes (v := ((210, .agg #[]) : TypeId × Value)) hM2 hR2.srt (by unfold alw; omega) rfl hee, htb1, hpt2⟩
         ·
          (first | omega | (dsimp only; omega))
         ·
          exact (Sub.cons rfl (Sub.cons rfl (Sub.cons rfl (Sub.cons rfl (Sub.cons rfl (Sub.cons rfl (Sub.cons rfl (Sub.cons rfl (Sub.cons rfl (Sub.cons rfl (Sub.cons rfl (Sub.cons rfl Sub.nil))))))))))))
         ·
          exact (fun _ h => h)
        ·
         have h22 : ¬ (r.p.k = (1 : Int)) := h22
         exfalso; omega
     ·
      have h19 : ¬ (((r.p.fin.size : Nat) : Int) ≠ (0 : Int)) := h19
      refine WPc.region ?_
      refine WP.val rfl rfl rfl (Val.move rfl rfl) ?_
      refine WP.val rfl rfl rfl (Val.nilCheck rfl rfl) ?_
      refine WP.val rfl rfl rfl (Val.fieldAddr (j := 1) rfl Ty.fo160_1 rfl rfl) ?_
      refine WP.val rfl rfl rfl (Val.load rfl Ty.sc110 rfl (fun w h => h.cell 1 rfl rfl)) ?_
      refine WP.perm pl2 ?_
      refine WP.eff rfl rfl rfl (Eff.call rfl rfl Try.call105 (bap_does r.kb r.ck r.sk r.p.key (by omega) hck)) ?_
      rintro _ _ ⟨_, ⟨gp, rfl, rfl⟩, rfl⟩
      show WP _ _ _ _ _ _ _ (_ :: Blk gp (byteCells r.p.key ++ [Value.int .u8 0]) 5 :: Blk b1 [.nilIface, .nilIface] 172 :: _)
      refine WP.perm pl2 ?_
      refine WP.eff0 rfl rfl (Eff.storeAgg (cs := [.iface 132 (.slice (some ⟨r.kb, 0, none⟩) r.p.key.size r.ck), .iface 132 (.slice (some ⟨gp, 0, none⟩) ((r.p.key.size + 1)) ((r.p.key.size + 1)))]) (C' := [.iface 132 (.slice (some ⟨r.kb, 0, none⟩) r.p.key.size r.ck), .iface 132 (.slice (some ⟨gp, 0, none⟩) ((r.p.key.size + 1)) ((r.p.key.size + 1)))]) rfl Ty.ag172 rfl rfl rfl rfl (by simp) rfl) ?_
      rintro _ _ rfl
      refine WP.nx ?_
      refine WPc.seq ?_
      refine WPc.perm pl1 ?_
      refine WPc.conv (fun w h => enp_b r.p.key hck h) ?_
      show WPc _ _ _ _ _ _ (Enp (⟨ka r.p.key, 132, .slice (some ⟨r.kb, 0, none⟩) r.p.key.size r.ck⟩ : En) :: Blk b1 [.iface 132 (.slice (some ⟨r.kb, 0, none⟩) r.p.key.size r.ck), .iface 132 (.slice (some ⟨gp, 0, none⟩) ((r.p.key.size + 1)) ((r.p.key.size + 1)))] 172 :: _)
      refine WPc.perm pl2 ?_
      refine WPc.conv (fun w h => enp_0 r.p.key h) ?_
      show WPc _ _ _ _ _ _ (Enp (⟨ka (r.p.key ++ (⟨#[0]⟩ : ByteArray)), 132, .slice (some ⟨gp, 0, none⟩) (r.p.key.size + 1) (r.p.key.size + 1)⟩ : En) :: _)
      have hee : (⟨ka (r.p.key ++ (⟨#[0]⟩ : ByteArray)), 132, .slice (some ⟨gp, 0, none⟩) (r.p.key.size + 1) (r.p.key.size + 1)⟩ : En).k = qE r.p.key r.p.fin := (qE_pt (by omega)).symm
      refine WPc.region ?_
      refine WP.val rfl rfl rfl (Val.move rfl rfl) ?_
      refine WP.val rfl rfl rfl (Val.nilCheck rfl rfl) ?_
      refine WP.val rfl rfl rfl (Val.fieldAddr (j := 0) rfl Ty.fo160_0 rfl rfl) ?_
      refine WP.val rfl rfl rfl (Val.load rfl Ty.sc111 rfl (fun w h => h.cell 3 rfl rfl)) ?_
      refine WP.nx ?_
      refine WPc.block ?_
      refine WPc.sr ?_
      refine WP.val rfl rfl rfl (Val.eql rfl rfl rfl) ?_
      refine WP.val rfl rfl rfl (Val.assign rfl rfl) ?_
      refine WP.nx ?_
      refine WPc.ifP rfl (fun h23 => ?_) (fun h23 => ?_)
      ·
       have h23 : (r.p.k = (2 : Int)) := h23
       refine WPc.sr ?_
       refine WP.val rfl rfl rfl (Val.move rfl rfl) ?_
       refine WP.val rfl rfl rfl (Val.loadAgg (cs := [.iface 132 (.slice (some ⟨r.kb, 0, none⟩) r.p.key.size r.ck), .iface 132 (.slice (some ⟨gp, 0, none⟩) ((r.p.key.size + 1)) ((r.p.key.size + 1)))]) rfl Ty.ag172 rfl rfl (fun w h => h.range 2 rfl rfl)) ?_
       refine WP.val rfl rfl rfl (Val.mk (cs := []) rfl rfl (fun _ => by kernel_rfl)) ?_
       refine WP.val rfl rfl rfl (Val.iface rfl rfl Ty.ni210) ?_
       refine WP.perm pl7 ?_
       refine WP.perm pl1 ?_
       refine WP.perm pl2 ?_
       refine WP.eff rfl rfl rfl (Eff.invoke (f := 138) rfl rfl rfl (fun _ => by kernel_rfl) Try.call138 (ins0_does 132 tb1 q1 t1 hR1 htb1 (by omega) (⟨ka r.p.key, 132, .slice (some ⟨r.kb, 0, none⟩) r.p.key.size r.ck⟩ : En) (⟨ka (r.p.key ++ (⟨#[0]⟩ : ByteArray)), 132, .slice (some ⟨gp, 0, none⟩) (r.p.key.size + 1) (r.p.key.size + 1)⟩ : En) rfl rfl (210, .agg #[]))) ?_
       rintro _ _ ⟨_, ⟨p1, z1, hP1, hpt1, rfl⟩, rfl⟩
       show WP _ _ _ _ _ _ _ (_ :: _ :: TM p1 :: _)
       refine WP.nx ?_
       refine WPc.region ?_
       refine WP.val rfl rfl rfl (Val.move rfl rfl) ?_
       refine WP.val rfl rfl rfl (Val.loadAgg (cs := [.iface 132 (.slice (some ⟨r.kb, 0, none⟩) r.p.key.size r.ck), .iface 132 (.slice (some ⟨gp, 0, none⟩) ((r.p.key.size + 1)) ((r.p.key.size + 1)))]) rfl Ty.ag172 rfl rfl (fun w h => h.range 3 rfl rfl)) ?_
       refine WP.val rfl rfl rfl (Val.mk (cs := []) rfl rfl (fun _ => by kernel_rfl)) ?_
       refine WP.val rfl rfl rfl (Val.iface rfl rfl Ty.ni210) ?_
       refine WP.perm pl8 ?_
       refine WP.perm pl2 ?_
       refine WP.perm pl2 ?_
       refine WP.eff rfl rfl rfl (Eff.invoke (f := 138) rfl rfl rfl (fun _ => by kernel_rfl) Try.call138 (ins0_does 132 tb2 q2 t2 hR2 htb2 (by omega) (⟨ka r.p.key, 132, .slice (some ⟨r.kb, 0, none⟩) r.p.key.size r.ck⟩ : En) (⟨ka (r.p.key ++ (⟨#[0]⟩ : ByteArray)), 132, .slice (some ⟨gp, 0, none⟩) (r.p.key.size + 1) (r.p.key.size + 1)⟩ : En) rfl rfl (210, .agg #[]))) ?_
       rintro _ _ ⟨_, ⟨p2, z2, hP2, hpt2, rfl⟩, rfl⟩
       show WP _ _ _ _ _ _ _ (_ :: _ :: TM p2 :: _)
       refine WP.nil ?_
       refine Out.block ?_
       refine Out.block ?_
       refine Out.next ?_
       refine WPc.region ?_
       refine WP.val rfl rfl rfl (Val.add (z := ((j + 1 : Nat) : Int)) rfl rfl rfl ((w64 (by omega) (by omega)).trans (by omega))) ?_
       refine WP.val rfl rfl rfl (Val.move rfl rfl) ?_
       refine WP.nil ?_
       refine Out.drop ?_
       iterate 3 (refine Out.drop ?_; refine Out.perm pl2 ?_)
       refine Out.drop ?_
       iterate 4 (refine Out.perm pl7 ?_)
       refine Out.perm pl4 ?_
       refine Out.perm pl5 ?_
       refine Out.perm pl6 ?_
       refine Out.perm pl7 ?_
       refine Out.again (j + 1, p1, p2, insT z1 ⟨(⟨ka r.p.key, 132, .slice (some ⟨r.kb, 0, none⟩) r.p.key.size r.ck⟩ : En), (⟨ka (r.p.key ++ (⟨#[0]⟩ : ByteArray)), 132, .slice (some ⟨gp, 0, none⟩) (r.p.key.size + 1) (r.p.key.size + 1)⟩ : En), ((210, .agg #[]) : TypeId × Value).1, ((210, .agg #[]) : TypeId × Value).2⟩ t1, insT z2 ⟨(⟨ka r.p.key, 132, .slice (some ⟨r.kb, 0, none⟩) r.p.key.size r.ck⟩ : En), (⟨ka (r.p.key ++ (⟨#[0]⟩ : ByteArray)), 132, .slice (some ⟨gp, 0, none⟩) (r.p.key.size + 1) (r.p.key.size + 1)⟩ : En), ((210, .agg #[]) : TypeId × Value).1, ((210, .agg #[]) : TypeId × Value).2⟩ t2) ?_ ?_ ?_ ?_
       ·
        exact ⟨by show j + 1 ≤ l.length; omega, hP1, hP2, by show Mem 0 (l.take (j + 1)) _; rw [take_more hx]; exact mem_yes (v := ((210, .agg #[]) : TypeId × Value)) hM1 hR1.srt (by unfold alw; omega) rfl hee, by show Mem 1 (l.take (j + 1)) _; rw [take_more hx]; exact mem_yes (v := ((210, .agg #[]) : TypeId × Value)) hM2 hR2.srt (by unfold alw; omega) rfl hee, hpt1, hpt2⟩
       ·
        (first | omega | (dsimp only; omega))
       ·
        exact (Sub.cons rfl (Sub.cons rfl (Sub.cons rfl (Sub.cons rfl (Sub.cons rfl (Sub.cons rfl (Sub.cons rfl (Sub.cons rfl (Sub.cons rfl (Sub.cons rfl (Sub.cons rfl (Sub.cons rfl Sub.nil))))))))))))
       ·
        exact (fun _ h => h)
      ·
       have h23 : ¬ (r.p.k = (2 : Int)) := h23
       refine WPc.sr ?_
       refine WP.val rfl rfl rfl (Val.eql rfl rfl rfl) ?_
       refine WP.val rfl rfl rfl (Val.assign rfl rfl) ?_
       refine WP.nx ?_
       refine WPc.ifP rfl (fun h24 => ?_) (fun h24 => ?_)
       ·
        have h24 : (r.p.k = (0 : Int)) := h24
        refine WPc.region ?_
        refine WP.val rfl rfl rfl (Val.move rfl rfl) ?_
        refine WP.val rfl rfl rfl (Val.loadAgg (cs := [.iface 132 (.slice (some ⟨r.kb, 0, none⟩) r.p.key.size r.ck), .iface 132 (.slice (some ⟨gp, 0, none⟩) ((r.p.key.size + 1)) ((r.p.key.size + 1)))]) rfl Ty.ag172 rfl rfl (fun w h => h.range 2 rfl rfl)) ?_
        refine WP.val rfl rfl rfl (Val.mk (cs := []) rfl rfl (fun _ => by kernel_rfl)) ?_
        refine WP.val rfl rfl rfl (Val.iface rfl rfl Ty.ni210) ?_
        refine WP.perm pl7 ?_
        refine WP.perm pl1 ?_
        refine WP.perm pl2 ?_
        refine WP.eff rfl rfl rfl (Eff.invoke (f := 138) rfl rfl rfl (fun _ => by kernel_rfl) Try.call138 (ins0_does 132 tb1 q1 t1 hR1 htb1 (by omega) (⟨ka r.p.key, 132, .slice (some ⟨r.kb, 0, none⟩) r.p.key.size r.ck⟩ : En) (⟨ka (r.p.key ++ (⟨#[0]⟩ : ByteArray)), 132, .slice (some ⟨gp, 0, none⟩) (r.p.key.size + 1) (r.p.key.size + 1)⟩ : En) rfl rfl (210, .agg #[]))) ?_
        rintro _ _ ⟨_, ⟨p1, z1, hP1, hpt1, rfl⟩, rfl⟩
        show WP _ _ _ _ _ _ _ (_ :: _ :: TM p1 :: _)
        refine WP.nil ?_
        refine Out.block ?_
        refine Out.block ?_
        refine Out.next ?_
        refine WPc.region ?_
        refine WP.val rfl rfl rfl (Val.add (z := ((j + 1 : Nat) : Int)) rfl rfl rfl ((w64 (by omega) (by omega)).trans (by omega))) ?_
        refine WP.val rfl rfl rfl (Val.move rfl rfl) ?_
        refine WP.nil ?_
        refine Out.drop ?_
        iterate 3 (refine Out.drop ?_; refine Out.perm pl1 ?_)
        refine Out.drop ?_
        iterate 5 (refine Out.perm pl7 ?_)
        refine Out.perm pl5 ?_
        refine Out.perm pl6 ?_
        refine Out.perm pl7 ?_
        refine Out.again (j + 1, p1, q2, insT z1 ⟨(⟨ka r.p.key, 132, .slice (some ⟨r.kb, 0, none⟩) r.p.key.size r.ck⟩ : En), (⟨ka (r.p.key ++ (⟨#[0]⟩ : ByteArray)), 132, .slice (some ⟨gp, 0, none⟩) (r.p.key.size + 1) (r.p.key.size + 1)⟩ : En), ((210, .agg #[]) : TypeId × Value).1, ((210, .agg #[]) : TypeId × Value).2⟩ t1, t2) ?_ ?_ ?_ ?_
        ·
         exact ⟨by show j + 1 ≤ l.length; omega, hP1, hR2, by show Mem 0 (l.take (j + 1)) _; rw [take_more hx]; exact mem_yes (v := ((210, .agg #[]) : TypeId × Value)) hM1 hR1.srt (by unfold alw; omega) rfl hee, by show Mem 1 (l.take (j + 1)) _; rw [take_more hx]; exact mem_no hM2 (by unfold alw; omega), hpt1, htb2⟩
        ·
         (first | omega | (dsimp only; omega))
        ·
         exact (Sub.cons rfl (Sub.cons rfl (Sub.cons rfl (Sub.cons rfl (Sub.cons rfl (Sub.cons rfl (Sub.cons rfl (Sub.cons rfl (Sub.cons rfl (Sub.cons rfl (Sub.cons rfl (Sub.cons rfl Sub.nil))))))))))))
        ·
         exact (fun _ h => h)
       ·
        have h24 : ¬ (r.p.k = (0 : Int)) := h24
        refine WPc.sr ?_
        refine WP.val rfl rfl rfl (Val.eql rfl rfl rfl) ?_
        refine WP.val rfl rfl rfl (Val.assign rfl rfl) ?_
        refine WP.nx ?_
        refine WPc.ifP rfl (fun h25 => ?_) (fun h25 => ?_)
        ·
         have h25 : (r.p.k = (1 : Int)) := h25
         refine WPc.region ?_
         refine WP.val rfl rfl rfl (Val.move rfl rfl) ?_
         refine WP.val rfl rfl rfl (Val.loadAgg (cs := [.iface 132 (.slice (some ⟨r.kb, 0, none⟩) r.p.key.size r.ck), .iface 132 (.slice (some ⟨gp, 0, none⟩) ((r.p.key.size + 1)) ((r.p.key.size + 1)))]) rfl Ty.ag172 rfl rfl (fun w h => h.range 2 rfl rfl)) ?_
         refine WP.val rfl rfl rfl (Val.mk (cs := []) rfl rfl (fun _ => by kernel_rfl)) ?_
         refine WP.val rfl rfl rfl (Val.iface rfl rfl Ty.ni210) ?_
         refine WP.perm pl8 ?_
         refine WP.perm pl1 ?_
         refine WP.perm pl2 ?_
         refine WP.eff rfl rfl rfl (Eff.invoke (f := 138) rfl rfl rfl (fun _ => by kernel_rfl) Try.call138 (ins0_does 132 tb2 q2 t2 hR2 htb2 (by omega) (⟨ka r.p.key, 132, .slice (some ⟨r.kb, 0, none⟩) r.p.key.size r.ck⟩ : En) (⟨ka (r.p.key ++ (⟨#[0]⟩ : ByteArray)), 132, .slice (some ⟨gp, 0, none⟩) (r.p.key.size + 1) (r.p.key.size + 1)⟩ : En) rfl rfl (210, .agg #[]))) ?_
         rintro _ _ ⟨_, ⟨p2, z2, hP2, hpt2, rfl⟩, rfl⟩
         show WP _ _ _ _ _ _ _ (_ :: _ :: TM p2 :: _)
         refine WP.nil ?_
         refine Out.block ?_
         refine Out.block ?_
         refine Out.next ?_
         refine WPc.region ?_
         refine WP.val rfl rfl rfl (Val.add (z := ((j + 1 : Nat) : Int)) rfl rfl rfl ((w64 (by omega) (by omega)).trans (by omega))) ?_
         refine WP.val rfl rfl rfl (Val.move rfl rfl) ?_
         refine WP.nil ?_
         refine Out.drop ?_
         iterate 3 (refine Out.drop ?_; refine Out.perm pl1 ?_)
         refine Out.drop ?_
         iterate 4 (refine Out.perm pl7 ?_)
         refine Out.perm pl4 ?_
         refine Out.perm pl7 ?_
         refine Out.perm pl6 ?_
         refine Out.perm pl7 ?_
         refine Out.again (j + 1, q1, p2, t1, insT z2 ⟨(⟨ka r.p.key, 132, .slice (some ⟨r.kb, 0, none⟩) r.p.key.size r.ck⟩ : En), (⟨ka (r.p.key ++ (⟨#[0]⟩ : ByteArray)), 132, .slice (some ⟨gp, 0, none⟩) (r.p.key.size + 1) (r.p.key.size + 1)⟩ : En), ((210, .agg #[]) : TypeId × Value).1, ((210, .agg #[]) : TypeId × Value).2⟩ t2) ?_ ?_ ?_ ?_
         ·
          exact ⟨by show j + 1 ≤ l.length; omega, hR1, hP2, by show Mem 0 (l.take (j + 1)) _; rw [take_more hx]; exact mem_no hM1 (by unfold alw; omega), by show Mem 1 (l.take (j + 1)) _; rw [take_more hx]; exact mem_yes (v := ((210, .agg #[]) : TypeId × Value)) hM2 hR2.srt (by unfold alw; omega) rfl hee, htb1, hpt2⟩
         ·
          (first | omega | (dsimp only; omega))
         ·
          exact (Sub.cons rfl (Sub.cons rfl (Sub.cons rfl (Sub.cons rfl (Sub.cons rfl (Sub.cons rfl (Sub.cons rfl (Sub.cons rfl (Sub.cons rfl (Sub.cons rfl (Sub.cons rfl (Sub.cons rfl Sub.nil))))))))))))
         ·
          exact (fun _ h => h)
        ·
         have h25 : ¬ (r.p.k = (1 : Int)) := h25
         exfalso; omega
  ·
   have h2 : ¬ (((j : Nat) : Int) < ((l.length : Nat) : Int)) := h2
   refine WPc.exit ?_
   refine Out.then_exit ?_
   refine Out.then_exit ?_
   refine Out.block_exit ?_
   refine Out.block ?_
   refine Out.next ?_
   refine WPc.region ?_
   refine WP.val rfl rfl rfl (Val.add (z := ((i + 1 : Nat) : Int)) rfl rfl rfl ((w64 (by omega) (by omega)).trans (by omega))) ?_
   refine WP.val rfl rfl rfl (Val.move rfl rfl) ?_
   refine WP.nil ?_
   refine Out.perm pl7 ?_
   refine Out.drop ?_
   refine Out.again (i + 1, j, q1, q2, t1, t2) ?_ ?_ ?_ ?_
   ·
    exact ⟨⟨by show i + 1 ≤ 1; omega, (fun h => absurd h (Nat.succ_ne_zero i)), fun _ => (by first | omega | (show j = 0; omega))⟩, hR1, hR2, hM1, hM2, htb1, htb2⟩
   ·
    (first | omega | (dsimp only; omega))
   ·
    exact (Sub.cons rfl (Sub.cons rfl (Sub.cons rfl (Sub.cons rfl (Sub.cons rfl (Sub.cons rfl (Sub.cons rfl (Sub.cons rfl (Sub.cons rfl Sub.nil)))))))))
   ·
    exact (fun _ h => h)
 ·
  have h1 : ¬ (((i : Nat) : Int) < (1 : Int)) := h1
  refine WPc.exit ?_
  refine Out.then_exit ?_
  refine Out.then_exit ?_
  refine Out.block_exit ?_
  refine Out.next ?_
  refine WPc.sr ?_
  refine WP.val rfl rfl rfl (Val.move rfl rfl) ?_
  refine WP.val rfl rfl rfl (Val.move rfl rfl) ?_
  refine WP.val rfl rfl rfl (Val.mk (cs := [.iface 178 (.pointer (some ⟨tb1, 0, none⟩)), .iface 178 (.pointer (some ⟨tb2, 0, none⟩))]) rfl rfl (fun _ => by kernel_rfl)) ?_
  refine WP.eff rfl rfl rfl (Eff.box (C := [.iface 178 (.pointer (some ⟨tb1, 0, none⟩)), .iface 178 (.pointer (some ⟨tb2, 0, none⟩))]) rfl rfl rfl) ?_
  rintro _ _ ⟨b2, rfl, rfl⟩
  refine WP.val rfl rfl rfl (Val.assign rfl rfl) ?_
  refine WP.nx ?_
  refine WPc.ret ?_
  have hjn : j = l.length := hij1 (by omega)
  have htk : l.take j = l := List.take_of_length_le (by first | omega | exact Nat.zero_le _)
  rw [htk] at hM1 hM2
  subst htb1 htb2
  refine Out.perm pl1 ?_
  refine Out.drop ?_
  refine Out.perm pl1 ?_
  iterate 3 (refine Out.drop ?_; refine Out.perm pl3 ?_)
  refine Out.drop ?_
  exact Out.ret1 (L' := _) Try.results90 rfl ⟨_, q1, q2, t1, t2, rfl, hR1, hR2, hM1, hM2, rfl⟩ (fun _ h => h)

theorem merged_spec (n0 : ByteArray) (l : List PmR) (hl : l.length ≤ 1000) (hok : ∀ r ∈ l, (0 ≤ r.p.k ∧ r.p.k ≤ 2) ∧ r.p.key.size ≤ 1000 ∧ r.p.fin.size ≤ 1000) (va : Value) : Does Try.prog 90 [.iface 164 (.agg #[va]), .string n0] [Seq va l.length (flatOf ptr1 l), Kds PmP l] (fun v L => ∃ (b : Nat) (q1 q2 : TQ) (t1 t2 : T), v = .pointer (some ⟨b, 0, none⟩) ∧ Rep0 132 q1 t1 ∧ Rep0 132 q2 t2 ∧ Mem 0 l t1 ∧ Mem 1 l t2 ∧ L = [Blk b [.iface 178 (.pointer (some ⟨q1.tb, 0, none⟩)), .iface 178 (.pointer (some ⟨q2.tb, 0, none⟩))] 252, TM q1, TM q2]) := by
 refine Does.seqC (fun h0 h1 => ?_) (fun g cg sg Tg h0 h1 => ?_)
 ·
  obtain rfl := List.eq_nil_of_length_eq_zero h1
  subst h0
  exact merged_nil n0
 ·
  subst h0
  exact merged_row n0 l hl hok g cg sg Tg h1

end Go.Proofs.Ytbomnihiapjmpaa.Ag

