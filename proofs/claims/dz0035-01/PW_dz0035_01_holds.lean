import PyProof.Rows.All
import Wide.All
import OpenK.AllK
import Wide.FinOn
import Lean
import PySem.Challenge.RW_dz0035_01
set_option Elab.async false
section
open PySem PySem.W PyProof.Rows
namespace Mine
set_option maxRecDepth 100000 in
set_option maxHeartbeats 8000000 in
open_top hd for PySem.Challenge.rw_dz0035_01
end Mine
end
section
open PySem PySem.W PyProof.Rows
namespace Mine
theorem allLt_mem {d : Nat} {l : List (Addr × Obj)} (h : AllLt d l) : ∀ q ∈ l, q.1 < d := by
  induction l with
  | nil => intro q hq; cases hq
  | cons p r ih =>
    intro q hq
    rcases List.mem_cons.mp hq with e | hq
    · rw [e]; exact h.1
    · exact ih h.2 q hq
def thD (p : Int × Int) : Dat := .list [.int p.1, .int p.2]
def giv (fate cnt : Int) : Dat := if fate = 1 then .none else if fate = 3 then .bool false else if fate = 5 then .list [] else .list [.str "given", .int cnt]
set_option maxRecDepth 100000 in
set_option maxHeartbeats 8000000 in
theorem given_call {w : World} {dp un : Nat} {gd : Option (List Code)} {cn : Str} {cs : Scope} {a : Addr} {ccd : Value} {cl : List (Str × Addr)} {outer : List Env} {A₀ : Around} {base h₀ : Heap} {L : Addr} {m : Str → Option Value} {news : List (Addr × Obj)} {s : Shared} {Q E : Value → Shared → Prop} {mean : ExcName → Option Value} {mg mb : Str → Option Value} {p : Program} {loose : List Str}
  {fate cnt : Int} {t1 t2 : Tok}
  (B : Below A₀ base outer h₀) (F : Fr h₀ L s.heap m) (X : (Mine.hd.heap_39 w.params).In h₀) (N : News h₀ L s.heap news) (T : Top p loose mean mg mb h₀) (hk : cs.kind = .function) (hd : dp + 1 < recursionLimit) (hu : un + 8 < cLine)
  (ret : ∀ r tl h' tk', Fr h₀ L h' m → News h₀ L h' (tl ++ news) → (∀ q ∈ news, ∀ p ∈ tl, q.1 < p.1) → DatIn tl r (giv fate cnt) → Q r {s with heap := h', toks := tk'}) :
  wpAny (model PySem.Challenge.rw_dz0035_01.row.prog w) (ktrTop dp un gd cn cs L a ccd cl outer) (call (.ref 30) [.int fate t1, .int cnt t2]) Q E s := by
  w_on
  revert X
  k_fill
  intro X
  refine wpAny_call ?_
  k_dflt ktr_enter
  k_steps
  refine kdg_get2 (knd := intKind _ _) (by k_asm) (by k_mem) (by k_asm) (by k_asm) (intKind_is _ _ _ _) _ rfl ?_
  k_steps
  rename News h₀ L _ _ => kN
  refine ret _ [_, _, _] _ _ (by k_asm) kN ?_ ?_
  · rename _ < _ ∧ _ < _ ∧ AllLt _ _ => k2
    rename _ < _ ∧ AllLt _ _ => k1
    rename ∀ (p : Addr × Obj), p ∈ news → p.fst < _ => k0
    intro q hq p hp
    simp only [List.mem_cons, List.not_mem_nil, or_false] at hp
    rcases hp with rfl | rfl | rfl
    · exact allLt_mem k2.2.2 q hq
    · exact allLt_mem k1.2 q hq
    · exact k0 q hq
  · unfold giv
    by_cases h1 : fate = 1
    · subst h1
      simp only [if_true]
      exact DatIn.none
    · by_cases h3 : fate = 3
      · subst h3
        exact DatIn.bool _
      · by_cases h5 : fate = 5
        · subst h5
          exact DatIn.list (.tail _ (.head _)) .nil
        · rw [if_neg h1, if_neg h3, if_neg h5]
          have hv : ∀ a b c : Tok, ∀ r : Value, valueAt (intKeyPairs [(Value.int 1 a, Value.none), (Value.int 3 b, Value.bool false), (Value.int 5 c, r)]) fate = none := by
            intro a b c r
            simp [valueAt, intKeyPairs, List.find?, Ne.symm h1, Ne.symm h3, Ne.symm h5]
          rw [hv]
          exact DatIn.list (vs := [_, _]) (.head _) (.cons (.str _ _) (.cons (.int _ _) .nil))
end Mine
end
section
open PySem PySem.W PyProof.Rows PySem.Spec
namespace Mine

/-- data without bytes and tuples, of depth at most n -/
def okD : Nat → Dat → Bool
  | _, .none => true
  | _, .bool _ => true
  | _, .int _ => true
  | _, .str x => PyData.strOk x
  | n + 1, .list ds => ds.all (okD n)
  | _, _ => false

theorem ok_all {h : Heap} {news : List (Addr × Obj)} {n : Nat} (ih : ∀ v d, DatIn news v d → okD n d = true → ∃ as, Reads h v (kqdP d) as) :
    ∀ {vs : List Value} {ds : List Dat}, DatAll news vs ds → (∀ d ∈ ds, okD n d = true) → ∃ as, ReadsAll h vs (kqdPs ds) as := by
  intro vs
  induction vs with
  | nil => intro ds hd _; cases hd; exact ⟨_, ReadsAll.nil⟩
  | cons v vs hi =>
    intro ds hd hk
    cases hd with
    | cons h1 h2 =>
      obtain ⟨as, q⟩ := ih _ _ h1 (hk _ (.head _))
      obtain ⟨bs, p⟩ := hi h2 fun d hm => hk d (.tail _ hm)
      rw [kqdPs]
      exact ⟨_, ReadsAll.cons q p⟩
theorem ok_in {h : Heap} {news : List (Addr × Obj)} (N : ∀ p ∈ news, h.get? p.1 = some p.2) : ∀ (n : Nat) (v : Value) (d : Dat), DatIn news v d → okD n d = true → ∃ as, Reads h v (kqdP d) as := by
  intro n
  induction n with
  | zero =>
    intro v d hd hk
    cases hd with
    | none => exact ⟨_, Reads.none⟩
    | bool b => exact ⟨_, Reads.bool b⟩
    | int i t => exact ⟨_, Reads.int i t⟩
    | str x t => exact ⟨_, Reads.str x t⟩
    | bytes _ _ => simp [okD] at hk
    | tuple _ _ => simp [okD] at hk
    | list _ _ => simp [okD] at hk
  | succ n ih =>
    intro v d hd hk
    cases hd with
    | none => exact ⟨_, Reads.none⟩
    | bool b => exact ⟨_, Reads.bool b⟩
    | int i t => exact ⟨_, Reads.int i t⟩
    | str x t => exact ⟨_, Reads.str x t⟩
    | bytes _ _ => simp [okD] at hk
    | tuple _ _ => simp [okD] at hk
    | list hm r =>
      obtain ⟨as, q⟩ := ok_all ih r (by simpa [okD] using hk)
      rw [kqdP]
      exact ⟨_, reads_list_at (N _ hm) rfl rfl (by simpa [W.listOf] using q)⟩
theorem ok_lay : ∀ (n : Nat) (d : Dat), okD n d = true → (kqdP d).canLay0 = true ∧ (kqdP d).depth ≤ n := by
  have all : ∀ (n : Nat), (∀ d, okD n d = true → (kqdP d).canLay0 = true ∧ (kqdP d).depth ≤ n) → ∀ ds : List Dat, (∀ d ∈ ds, okD n d = true) → PyData.canLayAll0 (kqdPs ds) = true ∧ PyData.depthAll (kqdPs ds) ≤ n := by
    intro n ih ds
    induction ds with
    | nil => intro _; simp [kqdPs, PyData.canLayAll0, PyData.depthAll]
    | cons d ds hi =>
      intro h
      have h1 := ih d (h d (.head _))
      have h2 := hi fun e he => h e (.tail _ he)
      simp only [kqdPs, PyData.canLayAll0, PyData.depthAll, h1.1, h2.1, Bool.and_self, true_and]
      have a1 := h1.2
      have a2 := h2.2
      omega
  intro n
  induction n with
  | zero =>
    intro d h
    cases d <;> simp_all [okD, kqdP, PyData.canLay0, PyData.depth]
  | succ n ih =>
    intro d h
    cases d with
    | none => simp [kqdP, PyData.canLay0, PyData.depth]
    | bool b => simp [kqdP, PyData.canLay0, PyData.depth]
    | int i => simp [kqdP, PyData.canLay0, PyData.depth]
    | str x => simp [okD] at h; simp [kqdP, PyData.canLay0, PyData.depth, h]
    | bytes b => simp [okD] at h
    | tuple ds => simp [okD] at h
    | list ds =>
      have q := all n ih ds (by simpa [okD] using h)
      have q2 := q.2
      simp only [kqdP, PyData.canLay0, PyData.depth, q.1, true_and]
      omega
theorem ok_refl : ∀ (n : Nat) (d : Dat), okD n d = true → PyData.eqv (kqdP d) (kqdP d) = true := by
  have all : ∀ (n : Nat), (∀ d, okD n d = true → PyData.eqv (kqdP d) (kqdP d) = true) → ∀ ds : List Dat, (∀ d ∈ ds, okD n d = true) → PyData.eqvAll (kqdPs ds) (kqdPs ds) = true := by
    intro n ih ds
    induction ds with
    | nil => intro _; simp [kqdPs, PyData.eqvAll]
    | cons d ds hi =>
      intro h
      simp only [kqdPs, PyData.eqvAll, ih d (h d (.head _)), hi fun e he => h e (.tail _ he), Bool.and_self]
  intro n
  induction n with
  | zero => intro d h; cases d <;> simp_all [okD, kqdP, PyData.eqv]
  | succ n ih =>
    intro d h
    cases d with
    | list ds => simp only [kqdP, PyData.eqv]; exact all n ih ds (by simpa [okD] using h)
    | bytes b => simp [okD] at h
    | tuple ds => simp [okD] at h
    | _ => simp_all [okD, kqdP, PyData.eqv]

section
variable {prog : Program} {w : World} {A : Around} {E : Value → Shared → Prop} {s : Shared} {v u : Value} {d e : Dat} {na nb : List (Addr × Obj)} {Q : Value → Shared → Prop}
theorem dat_eq (ha : ∀ p ∈ na, s.heap.get? p.1 = some p.2) (hb : ∀ p ∈ nb, s.heap.get? p.1 = some p.2) (dv : DatIn na v d) (du : DatIn nb u e) (kd : okD 8 d = true) (ke : okD 8 e = true) (hu : A.units + 64 < cLine)
    (h : Q (.bool (PyData.eqv (kqdP d) (kqdP e))) s) : wpAny (model prog w) A (compareOp .Eq v u) Q E s := by
  obtain ⟨as, ra⟩ := ok_in ha 8 _ _ dv kd
  obtain ⟨bs, rb⟩ := ok_in hb 8 _ _ du ke
  have la := ok_lay 8 d kd
  have lb := ok_lay 8 e ke
  refine eq_dataH ra rb ?_ ?_ hu h
  · unfold SeqAt.shaped; rw [la.1, Bool.true_and]; exact decide_eq_true (Nat.le_trans la.2 (by decide))
  · unfold SeqAt.shaped; rw [lb.1, Bool.true_and]; exact decide_eq_true (Nat.le_trans lb.2 (by decide))
theorem dat_ne (ha : ∀ p ∈ na, s.heap.get? p.1 = some p.2) (hb : ∀ p ∈ nb, s.heap.get? p.1 = some p.2) (dv : DatIn na v d) (du : DatIn nb u e) (kd : okD 8 d = true) (ke : okD 8 e = true) (hu : A.units + 64 < cLine)
    (h : Q (.bool (!PyData.eqv (kqdP d) (kqdP e))) s) : wpAny (model prog w) A (compareOp .NotEq v u) Q E s := by
  obtain ⟨as, ra⟩ := ok_in ha 8 _ _ dv kd
  obtain ⟨bs, rb⟩ := ok_in hb 8 _ _ du ke
  have la := ok_lay 8 d kd
  have lb := ok_lay 8 e ke
  refine ne_dataH ra rb ?_ ?_ hu h
  · unfold SeqAt.shaped; rw [la.1, Bool.true_and]; exact decide_eq_true (Nat.le_trans la.2 (by decide))
  · unfold SeqAt.shaped; rw [lb.1, Bool.true_and]; exact decide_eq_true (Nat.le_trans lb.2 (by decide))
end

/-- how a fold ends -/
inductive En where
  | told (d : Dat)
  | broken (fate : Int)
def En.dat : En → Dat
  | .told d => .list [.str "told", d]
  | .broken f => .list [.str "broken", .int f]
def fateOf (x : Int) : Int := (x.fdiv 3).fmod 11
def takeOf (x : Int) : Nat := (x.fmod 3).toNat
def callD (v : Dat) (p : Int × Int) (r : List (Int × Int)) : Dat := .list [v, thD p, .list ((r.take (takeOf p.2)).map thD)]
/-- what the fold of what is left does: the calls, the end, what is left behind -/
def restS : List (Int × Int) → Dat → Int → List Dat × En × List (Int × Int)
  | [], v, _ => ([], .told v, [])
  | p :: r, v, c =>
    if 8 < fateOf p.2 then ([callD v p r], .broken (fateOf p.2), r.drop (takeOf p.2))
    else
      let q := restS (r.drop (takeOf p.2)) (giv (fateOf p.2) c) (c + 1)
      (callD v p r :: q.1, q.2.1, q.2.2)
termination_by ps => ps.length
decreasing_by simp only [List.length_drop, List.length_cons]; omega
def outD (q : List Dat × En × List (Int × Int)) : Dat := .list [.list q.1, q.2.1.dat, .list (q.2.2.map thD)]
end Mine
end
section
open PySem PySem.W PyProof.Rows PySem.Spec
namespace Mine
theorem fresh_nil {news : List (Addr × Obj)} : ∀ q ∈ news, ∀ p ∈ ([] : List (Addr × Obj)), q.1 < p.1 := fun _ _ _ h => nomatch h
theorem fresh_cons {news tl : List (Addr × Obj)} {x : Addr} {o : Obj} (h : AllLt x news) (r : ∀ q ∈ news, ∀ p ∈ tl, q.1 < p.1) : ∀ q ∈ news, ∀ p ∈ (x, o) :: tl, q.1 < p.1 := fun q hq p hp => by
  rcases List.mem_cons.mp hp with e | hp
  · rw [e]; exact allLt_mem h q hq
  · exact r q hq p hp
theorem news_sub {h₀ h : Heap} {L : Addr} {l l' : List (Addr × Obj)} (N : News h₀ L h l) (hs : ∀ p ∈ l', p ∈ l) : News h₀ L h l' := fun p hp => N p (hs p hp)
theorem mem_app {D news tl : List (Addr × Obj)} (hD : ∀ p ∈ D, p ∈ news) : ∀ p ∈ D, p ∈ tl ++ news := fun p hp => List.mem_append_right _ (hD p hp)
theorem item_mem {prog : Program} {w : World} {A : Around} {E : Value → Shared → Prop} {s : Shared} {h₀ : Heap} {L l : Addr} {news : List (Addr × Obj)} {value slice : PySem.Expr} {vs : List Value} {n : Nat} {k : Int} {u : Tok} {v : Value} {Q : Value → Shared → Prop}
    (N : News h₀ L s.heap news) (hm : (l, W.listOf vs.toArray n) ∈ news) (h0 : 0 ≤ k) (hhi : k < 2 ^ 63) (hx : vs[k.toNat]? = some v) (h : Q v s)
    (hs : subscripted slice false (.ref l) (.int k u) = operate [.ref l, .int k u] (getItem (.ref l) (.int k u))) :
    wpAny (model prog w) A (subscriptTail value slice (.ref l) (.int k u)) Q E s :=
  have hl : s.heap.IsList l vs.toArray := ⟨_, N.get hm, rfl, n, rfl⟩
  tail_any hl.typeIs slot_list_getitem.lookup (wpAny_getItem_list hl h0 hhi (by simpa using hx) h) hs
theorem datAll_take {D : List (Addr × Obj)} {vs : List Value} {ds : List Dat} (h : DatAll D vs ds) (k : Nat) : DatAll D (vs.take k) (ds.take k) := by
  induction vs generalizing ds k with
  | nil => cases h; simp only [List.take_nil]; exact .nil
  | cons v vs ih =>
    cases h with
    | cons h1 h2 =>
      cases k with
      | zero => exact .nil
      | succ k => exact .cons h1 (ih h2 k)
theorem datAll_drop {D : List (Addr × Obj)} {vs : List Value} {ds : List Dat} (h : DatAll D vs ds) (k : Nat) : DatAll D (vs.drop k) (ds.drop k) := by
  induction vs generalizing ds k with
  | nil => cases h; simp only [List.drop_nil]; exact .nil
  | cons v vs ih =>
    cases h with
    | cons h1 h2 =>
      cases k with
      | zero => exact .cons h1 h2
      | succ k => exact ih h2 k
theorem upR {X D : List (Addr × Obj)} : ∀ p ∈ D, p ∈ X ++ D := fun _ hp => List.mem_append_right _ hp
theorem upL {X D : List (Addr × Obj)} : ∀ p ∈ X, p ∈ X ++ D := fun _ hp => List.mem_append_left _ hp
theorem upA {X D D' : List (Addr × Obj)} (h : ∀ p ∈ D, p ∈ D') : ∀ p ∈ X ++ D, p ∈ X ++ D' := fun p hp => List.mem_append.mpr ((List.mem_append.mp hp).imp id (h p))
theorem pack {h₀ h : Heap} {L : Addr} {tl es news : List (Addr × Obj)} (N : News h₀ L h (tl ++ (es ++ news))) (hl : ∀ q ∈ es ++ news, ∀ p ∈ tl, q.1 < p.1) (he : ∀ q ∈ news, ∀ p ∈ es, q.1 < p.1) :
    ∃ tlA, News h₀ L h (tlA ++ news) ∧ (∀ p ∈ tl, p ∈ tlA) ∧ (∀ p ∈ es, p ∈ tlA) ∧ ∀ q ∈ news, ∀ p ∈ tlA, q.1 < p.1 :=
  ⟨tl ++ es, by rw [List.append_assoc]; exact N, fun p hp => List.mem_append_left _ hp, fun p hp => List.mem_append_right _ hp, fun q hq p hp => (List.mem_append.mp hp).elim (hl q (List.mem_append_right _ hq) p) (he q hq p)⟩
theorem size_of_64 {n : Nat} (h : n ≤ 64) : 1 + n ≤ sizeLine := by rw [sizeLine_eq]; omega
theorem news_as3 {h₀ h : Heap} {L : Addr} {e1 e2 e3 : Addr × Obj} {a b c : List (Addr × Obj)} (N : News h₀ L h (e1 :: e2 :: e3 :: (a ++ (b ++ c)))) : News h₀ L h (([e1, e2, e3] ++ (a ++ b)) ++ c) := by
  rw [List.append_assoc, List.append_assoc]; exact N
theorem restS_len : ∀ (ps : List (Int × Int)) (d : Dat) (c : Int), (restS ps d c).1.length ≤ ps.length := by
  have : ∀ (n : Nat) (ps : List (Int × Int)) (d : Dat) (c : Int), ps.length ≤ n → (restS ps d c).1.length ≤ ps.length := by
    intro n
    induction n with
    | zero => intro ps d c h; cases ps with
      | nil => rw [restS]; exact Nat.le_refl _
      | cons p r => simp at h
    | succ n ih =>
      intro ps d c h
      cases ps with
      | nil => rw [restS]; exact Nat.le_refl _
      | cons p r =>
        rw [restS]
        split
        · simp
        · have := ih (r.drop (takeOf p.2)) (giv (fateOf p.2) c) (c + 1) (by simp only [List.length_drop, List.length_cons] at *; omega)
          simp only [List.length_drop, List.length_cons] at *
          omega
  exact fun ps d c => this ps.length ps d c (Nat.le_refl _)
def RestOk (w : World) (p : Program) (loose : List Str) (mean : ExcName → Option Value) (mg mb : Str → Option Value) (ps : List (Int × Int)) : Prop :=
  ∀ {dp un : Nat} {gd : Option (List Code)} {cn : Str} {cs : Scope} {a : Addr} {ccd : Value} {cl : List (Str × Addr)} {outer : List Env} {A₀ : Around} {base h₀ : Heap} {L : Addr} {m : Str → Option Value} {news D : List (Addr × Obj)} {s : Shared} {Q E : Value → Shared → Prop}
  {ra : Addr} {vs : List Value} {n : Nat} {val : Value} {cnt : Int} {t : Tok} {d : Dat},
  Below A₀ base outer h₀ → Fr h₀ L s.heap m → (Mine.hd.heap_39 w.params).In h₀ → News h₀ L s.heap news → Top p loose mean mg mb h₀ → cs.kind = .function → dp + ps.length + 2 < recursionLimit → un + 8 * ps.length + 100 < cLine →
  (∀ p ∈ D, p ∈ news) → (ra, listOf vs.toArray n) ∈ news → DatAll D vs (ps.map thD) → ps.length ≤ 64 → DatIn D val d →
  (∀ r tl h' tk', Fr h₀ L h' m → News h₀ L h' (tl ++ news) → (∀ q ∈ news, ∀ p ∈ tl, q.1 < p.1) → DatIn (tl ++ D) r (outD (restS ps d cnt)) → Q r {s with heap := h', toks := tk'}) →
  wpAny (model PySem.Challenge.rw_dz0035_01.row.prog w) (ktrTop dp un gd cn cs L a ccd cl outer) (call (.ref 47) [.ref ra, val, .int cnt t]) Q E s
set_option maxRecDepth 100000 in
set_option maxHeartbeats 8000000 in
theorem rest_nil {w : World} {pg : Program} {loose : List Str} {mean : ExcName → Option Value} {mg mb : Str → Option Value} : RestOk w pg loose mean mg mb [] := by
  unfold RestOk
  intro dp un gd cn cs a ccd cl outer A₀ base h₀ L m news D s Q E ra vs n val cnt t d B F X N T hk hd hu hD hr hvs hlen hv ret
  revert X
  w_on
  k_fill
  intro X
  cases hvs
  refine wpAny_call ?_
  k_dflt ktr_enter
  k_steps
  refine dat_eq (na := news) (nb := [(_, W.listOf #[] 0)]) (d := .list []) (e := .list []) (fun p hp => (News.get (by k_asm) (List.mem_cons_of_mem _ hp))) (fun p hp => by cases hp with | head => exact News.get (by k_asm) (by k_mem) | tail _ h => cases h) (DatIn.list hr .nil) (DatIn.list (vs := []) (.head _) .nil) rfl rfl (by ktr_units) ?_
  dsimp only [kqdP, kqdPs, PyData.eqv, PyData.eqvAll]
  k_steps
  rename _ ∧ _ ∧ _ ∧ _ ∧ AllLt _ _ => k4
  rename _ ∧ _ ∧ _ ∧ AllLt _ _ => k3
  rename _ ∧ _ ∧ AllLt _ _ => k2
  rename _ ∧ AllLt _ _ => k1
  rename ∀ (p : Addr × Obj), p ∈ news → p.fst < _ => k0
  rename News h₀ L _ _ => kN
  refine ret _ [_, _, _, _, _] _ _ (by k_asm) kN (fresh_cons k4.2.2.2.2 (fresh_cons k3.2.2.2 (fresh_cons k2.2.2 (fresh_cons k1.2 (fresh_cons (allLt_of k0) fresh_nil))))) ?_
  rw [restS]
  exact DatIn.list (vs := [_, _, _]) (.head _) (.cons (DatIn.list (vs := []) (.tail _ (.tail _ (.tail _ (.head _)))) .nil) (.cons (DatIn.list (vs := [_, _]) (.tail _ (.tail _ (.head _))) (.cons (.str _ _) (.cons (hv.mono fun p hp => List.mem_append_right _ hp) .nil))) (.cons (DatIn.list (vs := []) (.tail _ (.head _)) .nil) .nil)))
theorem pick_take (v : Value) (vr : List Value) (x : Int) : kms_pick (v :: vr) (some 1) (some (1 + x.fmod 3)) = vr.take (takeOf x) := by
  have h := Int.fmod_nonneg_of_pos x (show (0 : Int) < 3 by decide)
  unfold kms_pick kms_lo kms_hi takeOf
  dsimp only
  rw [if_neg (show ¬ (1 : Int) < 0 by decide), if_neg (show ¬ (1 + x.fmod 3) < 0 by omega)]
  have e1 : min (Int.toNat 1) (v :: vr).length = 1 := by simp
  rw [e1]
  have e2 : (1 + x.fmod 3).toNat = (x.fmod 3).toNat + 1 := by omega
  rw [e2, List.drop_succ_cons, List.drop_zero, List.length_cons]
  have e3 : min ((x.fmod 3).toNat + 1) (vr.length + 1) - 1 = min (x.fmod 3).toNat vr.length := by omega
  rw [e3]
  exact kmk_take_min _ _
theorem pick_drop (v : Value) (vr : List Value) (x : Int) : kms_pick (v :: vr) (some (1 + x.fmod 3)) none = vr.drop (takeOf x) := by
  have h := Int.fmod_nonneg_of_pos x (show (0 : Int) < 3 by decide)
  unfold kms_pick kms_lo kms_hi takeOf
  dsimp only
  rw [if_neg (by omega)]
  have e2 : (1 + x.fmod 3).toNat = (x.fmod 3).toNat + 1 := by omega
  rw [e2, List.length_cons]
  have e3 : min ((x.fmod 3).toNat + 1) (vr.length + 1) = min (x.fmod 3).toNat vr.length + 1 := by omega
  rw [e3, List.drop_succ_cons, kmk_drop_min]
  refine List.take_of_length_le ?_
  rw [List.length_drop]
  omega
local macro_rules | `(tactic| k_mem) => `(tactic| first | exact List.Mem.head _ | (refine' List.Mem.tail _ ?_; k_mem) | assumption)
local macro_rules | `(tactic| walk_at "subscriptTail") => `(tactic| (k_here; (with_reducible show wpAny _ _ (subscriptTail _ _ (Value.ref _) (Value.int _ _)) _ _ _); (with_unfolding_all refine' item_mem ?k1 ?k2 ?k3 ?k4 ?k5 ?_ ?k6; (case k1 => k_asm); (case k2 => k_mem); (case k3 => decide); (case k4 => decide); (case k5 => rfl); (case k6 => with_unfolding_all rfl); k_whole)))
local macro_rules | `(tactic| walk_at "subscriptTail Name Slice ref ref") => `(tactic| (k_here; (with_reducible show wpAny _ _ (subscriptTail _ (PySem.Expr.Slice _ _ none _) (Value.ref _) (Value.ref _)) _ _ _); k_dflt (refine' kms_slice_lit ?F ?N ?l ?p ?q ?e ?_ ?s ?t ?z; (case F => k_asm); (case N => k_asm); (case l => kmk_list); (case p => kmk_part); (case q => kmk_part); (case e => first | exact pick_take _ _ _ | exact pick_drop _ _ _); (case s => with_unfolding_all rfl); (case t => kmk_pure); (case z => (simp only [List.size_toArray, List.length_cons]; rw [sizeLine_eq]; omega))); intro D' h' F' N' l1; (try k_lt l1); (try k_sweep)))
set_option maxRecDepth 100000 in
set_option maxHeartbeats 8000000 in
theorem rest_cons {w : World} {pg : Program} {loose : List Str} {mean : ExcName → Option Value} {mg mb : Str → Option Value} {p : Int × Int} {r : List (Int × Int)} (ih : RestOk w pg loose mean mg mb (r.drop (takeOf p.2))) : RestOk w pg loose mean mg mb (p :: r) := by
  unfold RestOk
  intro dp un gd cn cs a ccd cl outer A₀ base h₀ L m news D s Q E ra vs n val cnt t d B F X N T hk hd hu hD hr hvs hlen hv ret
  revert X
  w_on
  k_fill
  intro X
  obtain ⟨pl, x⟩ := p
  cases hvs with
  | @cons th vr _ _ hth hvr =>
  cases hth with
  | @list ta tvs tn _ htm htv =>
  cases htv with
  | @cons v1 tv1 _ _ h1 htv =>
  cases htv with
  | @cons v2 tv2 _ _ h2 htv =>
  cases htv
  cases h1 with
  | int _ t1 =>
  cases h2 with
  | int _ t2 =>
  have htn := hD _ htm
  have hvl := hvr.length
  rw [List.length_map] at hvl
  have hlv : vr.length ≤ 64 := by simp only [List.length_cons] at hlen; omega
  have hdl : (r.drop (takeOf x)).length ≤ r.length := by rw [List.length_drop]; omega
  have hd1 : dp + 1 + (r.drop (takeOf x)).length + 2 < recursionLimit := by simp only [List.length_cons] at hd; omega
  have hu1 : un + 3 + 8 * (r.drop (takeOf x)).length + 100 < cLine := by simp only [List.length_cons] at hu; omega
  have hl1 : (r.drop (takeOf x)).length ≤ 64 := by simp only [List.length_cons] at hlen; omega
  refine wpAny_call ?_
  k_dflt ktr_enter
  k_steps
  refine dat_eq (na := news) (nb := [(_, W.listOf #[] 0)]) (d := .list (thD (pl, x) :: r.map thD)) (e := .list []) (fun p hp => (News.get (by k_asm) (List.mem_cons_of_mem _ hp))) (fun p hp => by cases hp with | head => exact News.get (by k_asm) (by k_mem) | tail _ h => cases h) (DatIn.list hr ?dv) (DatIn.list (vs := []) (.head _) .nil) ?dk rfl (by ktr_units) ?_
  case dv => exact .cons (.list htn (.cons (.int _ _) (.cons (.int _ _) .nil))) (hvr.mono hD)
  case dk => simp [okD, thD]
  dsimp only [kqdP, kqdPs, PyData.eqv, PyData.eqvAll]
  k_steps
  · rename _ ∧ _ ∧ _ ∧ _ ∧ _ ∧ _ ∧ _ ∧ _ ∧ AllLt _ _ => k8
    rename _ ∧ _ ∧ _ ∧ _ ∧ _ ∧ _ ∧ _ ∧ AllLt _ _ => k7
    rename _ ∧ _ ∧ _ ∧ _ ∧ _ ∧ _ ∧ AllLt _ _ => k6
    rename _ ∧ _ ∧ _ ∧ _ ∧ _ ∧ AllLt _ _ => k5
    rename _ ∧ _ ∧ _ ∧ _ ∧ AllLt _ _ => k4
    rename _ ∧ _ ∧ _ ∧ AllLt _ _ => k3
    rename _ ∧ _ ∧ AllLt _ _ => k2
    rename _ ∧ AllLt _ _ => k1
    rename ∀ (p : Addr × Obj), p ∈ news → p.fst < _ => k0
    rename News h₀ L _ _ => kN
    rename 8 < _ => h8
    refine ret _ [_, _, _, _, _, _, _, _, _] _ _ (by k_asm) kN (fresh_cons k8.2.2.2.2.2.2.2.2 (fresh_cons k7.2.2.2.2.2.2.2 (fresh_cons k6.2.2.2.2.2.2 (fresh_cons k5.2.2.2.2.2 (fresh_cons k4.2.2.2.2 (fresh_cons k3.2.2.2 (fresh_cons k2.2.2 (fresh_cons k1.2 (fresh_cons (allLt_of k0) fresh_nil))))))))) ?_
    have e : restS ((pl, x) :: r) d cnt = ([callD d (pl, x) r], .broken (fateOf x), r.drop (takeOf x)) := by rw [restS]; exact if_pos h8
    rw [e]
    refine DatIn.list (vs := [_, _, _]) (.head _) (.cons (DatIn.list (vs := [_]) (by k_mem) (.cons (DatIn.list (vs := [_, _, _]) (by k_mem) (.cons (hv.mono upR) (.cons (DatIn.list (vs := [_, _]) (upR _ htm) (.cons (.int _ _) (.cons (.int _ _) .nil))) (.cons (DatIn.list (by k_mem) (DatAll.mono upR ?_)) .nil)))) .nil)) (.cons (DatIn.list (vs := [_, _]) (by k_mem) (.cons (.str _ _) (.cons (.int _ _) .nil))) (.cons (DatIn.list (by k_mem) (DatAll.mono upR ?_)) .nil)))
    · rw [List.map_take]; exact datAll_take hvr _
    · rw [List.map_drop]; exact datAll_drop hvr _
  · k_dflt (refine' given_call ?k1 ?k2 ?k3 ?k4 ?k5 ?kK ?kd ?ku ?_; (case k1 => k_asm); (case k2 => k_asm); (case k3 => k_asm); (case k4 => k_asm); (case k5 => k_asm); (case kK => exact rfl); (case kd => ktr_room); (case ku => ktr_units))
    intro r9 tl9 h9 tk9 F9 N9 hl9 ho9
    try dsimp only
    try k_fold
    rename _ ∧ _ ∧ _ ∧ _ ∧ _ ∧ AllLt _ _ => k5
    rename _ ∧ _ ∧ _ ∧ _ ∧ AllLt _ _ => k4
    rename _ ∧ _ ∧ _ ∧ AllLt _ _ => k3
    rename _ ∧ _ ∧ AllLt _ _ => k2
    rename _ ∧ AllLt _ _ => k1
    rename ∀ (p : Addr × Obj), p ∈ news → p.fst < _ => k0
    obtain ⟨tlA, NA, hA9, hAe, hAf⟩ := pack (es := [_, _, _, _, _, _]) N9 hl9 (fresh_cons k5.2.2.2.2.2 (fresh_cons k4.2.2.2.2 (fresh_cons k3.2.2.2 (fresh_cons k2.2.2 (fresh_cons k1.2 (fresh_cons (allLt_of k0) fresh_nil))))))
    clear N9 hl9
    rename_i gG LL _ FG BB XX TT aE _ aT1 _ _ _ _ aTk _ aC _ aBh _ aT2 _ _ _ _ F' N' hn8
    have mC := hAe (aC, _) (by k_mem)
    have mB := hAe (aBh, _) (by k_mem)
    have mT := hAe (aTk, _) (by k_mem)
    have mCn := upL (D := news) _ mC
    have mBn := upL (D := news) _ mB
    generalize hN0 : tlA ++ news = N0 at NA mCn mBn
    clear hAe
    k_steps
    unfold RestOk at ih
    have hD0 : ∀ p ∈ tlA ++ D, p ∈ N0 := by rw [← hN0]; exact upA hD
    k_dflt (refine' ih (D := tlA ++ D) ?k1 ?k2 ?k3 ?k4 ?k5 ?kK ?kd ?ku hD0 mBn ?kv ?kl (ho9.mono fun p hp => List.mem_append_left _ (hA9 p hp)) ?_; (case k1 => k_asm); (case k2 => k_asm); (case k3 => k_asm); (case k4 => k_asm); (case k5 => k_asm); (case kK => exact rfl))
    case kd => exact hd1
    case ku => exact hu1
    case kv => rw [List.map_drop]; exact (datAll_drop hvr _).mono upR
    case kl => exact hl1
    intro r10 tl10 h10 tk10 F10 N10 hl10 ho10
    try dsimp only
    try k_fold
    cases ho10 with
    | @list ra10 vs10 n10 _ hm10 hda10 =>
    cases hda10 with
    | @cons vc v10' _ _ hc10 hda10 =>
    cases hda10 with
    | @cons ve v10'' _ _ he10 hda10 =>
    cases hda10 with
    | @cons vl v10''' _ _ hl10' hda10 =>
    cases hda10
    cases hc10 with
    | @list rc vcs nc _ hmc hdc =>
    have hD1 : ∀ p ∈ tl10 ++ (tlA ++ D), p ∈ tl10 ++ N0 := upA hD0
    have hm10n := hD1 _ hm10
    have hmcn := hD1 _ hmc
    have mCn1 := upR (X := tl10) _ mCn
    generalize hN1 : tl10 ++ N0 = N1 at N10 hm10n hmcn mCn1 hD1
    k_steps
    have hcl := hdc.length
    have hcv : vcs.length ≤ 64 := by rw [hcl]; exact Nat.le_trans (restS_len _ _ _) hl1
    k_dflt (refine' kmk_add_lit (zs := Value.ref aC :: vcs) ?F ?N ?a ?b ?e ?_ ?z; (case F => k_asm); (case N => k_asm); (case a => kmk_list); (case b => kmk_list); (case e => simp))
    case z => exact size_of_64 hcv
    intro D' h' F' N' l1
    try k_lt l1
    k_steps
    rename _ ∧ _ ∧ AllLt _ N1 => k2
    rename _ ∧ AllLt _ N1 => k1
    rename ∀ (p : Addr × Obj), p ∈ N1 → p.fst < _ => k0
    rename News h₀ L _ _ => kN
    have kN3 := kN
    rw [← hN1, ← hN0] at kN3
    refine ret _ ([_, _, _] ++ (tl10 ++ tlA)) _ _ (by k_asm) (news_as3 kN3) ?_ ?_
    · have nN : ∀ q ∈ news, q ∈ N1 := fun q hq => by rw [← hN1, ← hN0]; exact upR _ (upR _ hq)
      intro q hq p hp
      rcases List.mem_append.mp hp with hp | hp
      · exact fresh_cons k2.2.2 (fresh_cons k1.2 (fresh_cons (allLt_of k0) fresh_nil)) q (nN q hq) p hp
      · rcases List.mem_append.mp hp with hp | hp
        · exact hl10 q (by rw [← hN0]; exact upR _ hq) p hp
        · exact hAf q hq p hp
    · have e : restS ((pl, x) :: r) d cnt = (callD d (pl, x) r :: (restS (r.drop (takeOf x)) (giv (fateOf x) cnt) (cnt + 1)).1, (restS (r.drop (takeOf x)) (giv (fateOf x) cnt) (cnt + 1)).2.1, (restS (r.drop (takeOf x)) (giv (fateOf x) cnt) (cnt + 1)).2.2) := by
        rw [restS]; exact if_neg hn8
      rw [e]
      rw [List.append_assoc, List.append_assoc]
      refine DatIn.list (vs := [_, _, _]) (.head _) (.cons (DatIn.list (vs := _ :: vcs) (.tail _ (.head _)) (.cons (DatIn.list (vs := [_, _, _]) (upR _ (upR _ (upL _ mC))) (.cons (hv.mono fun p hp => upR _ (upR _ (upR _ hp))) (.cons (DatIn.list (vs := [_, _]) (upR _ (upR _ (upR _ htm))) (.cons (.int _ _) (.cons (.int _ _) .nil))) (.cons (DatIn.list (upR _ (upR _ (upL _ mT))) ?_) .nil)))) (hdc.mono upR))) (.cons (he10.mono upR) (.cons (hl10'.mono upR) .nil)))
      rw [List.map_take]
      exact (datAll_take hvr _).mono fun p hp => upR _ (upR _ (upR _ hp))
theorem rest_ok {w : World} {pg : Program} {loose : List Str} {mean : ExcName → Option Value} {mg mb : Str → Option Value} : ∀ (n : Nat) (ps : List (Int × Int)), ps.length ≤ n → RestOk w pg loose mean mg mb ps := by
  intro n
  induction n with
  | zero => intro ps h; cases ps with
    | nil => exact rest_nil
    | cons p r => simp at h
  | succ n ih =>
    intro ps h
    cases ps with
    | nil => exact rest_nil
    | cons p r => exact rest_cons (ih _ (by simp only [List.length_drop, List.length_cons] at *; omega))
end Mine
end
section
open PySem PySem.W PyProof.Rows PySem.Spec PySem.Calls
namespace Mine
abbrev itO (l : Addr) (i : Nat) : Obj := { cls := .type "list_iterator", data := .fields #[.ref l, .int i 0] }
abbrev itE (i : Nat) : Obj := { cls := .type "list_iterator", data := .fields #[.none, .int i 0] }
/-- an iterator of a list, with what it will still give -/
def WkO (D : List (Addr × Obj)) (rem : List Value) (o : Obj) : Prop :=
  (∃ (l : Addr) (vs : List Value) (n i : Nat), o = itO l i ∧ (l, W.listOf vs.toArray n) ∈ D ∧ rem = vs.drop i) ∨ (rem = [] ∧ ∃ i, o = itE i)
theorem WkO.mono {D D' : List (Addr × Obj)} {rem : List Value} {o : Obj} (h : WkO D rem o) (hs : ∀ p ∈ D, p ∈ D') : WkO D' rem o :=
  h.imp (fun ⟨l, vs, n, i, a, b, c⟩ => ⟨l, vs, n, i, a, hs _ b, c⟩) id
theorem WkO.cls {D : List (Addr × Obj)} {rem : List Value} {o : Obj} (h : WkO D rem o) : o.cls = .type "list_iterator" := by
  rcases h with ⟨l, vs, n, i, rfl, _⟩ | ⟨_, i, rfl⟩ <;> rfl

theorem members_stop : ownMembersOf (.type "StopIteration") [] = #[] := by
  unfold ownMembersOf
  split <;> first | rfl | (rename_i h; revert h; decide) | simp_all
section
variable {prog : Program} {w : World} {A : Around} {E : Value → Shared → Prop} {s : Shared} {it : Addr}

theorem raise_stop {α : Type} {Q : α → Shared → Prop} (hh : A.handled = none) (hE : ∀ h' e, Heap.NewExc s.heap h' e "StopIteration" → E (.ref e) { s with heap := h' }) :
    wpAny (model prog w) A (do raiseNew (← newExc (.type "StopIteration") []) : Sem α) Q E s := by
  refine wpAny_bind ?_
  simp only [newExc, newTuple]
  refine wpAny_bind (wpAny_newObj_type ?_ (by size_fits))
  refine wpAny_bind (m := firstArgMember _ _) (wpAny_of_eq (a := Value.none) (by first | rfl | (simp only [firstArgMember]; rfl)) ?_)
  rw [members_stop]
  refine wpAny_newObj_type ?_ (by size_fits)
  simp only [raiseNew]
  refine wpAny_bind (wpAny_handled ?_)
  rw [hh]
  refine wpAny_bind (wpAny_pure (wpAny_throw ?_))
  exact hE _ _ ⟨fun b o hb => Heap.get?_push_of_some _ (Heap.get?_push_of_some _ hb), Heap.get?_none_of_le (by simp), _, .ref s.heap.objs.size, Heap.get?_push_size _ rfl, rfl, by simp⟩

theorem special_item {l : Addr} {i : Nat} {vs : List Value} {n : Nat} {x : Value} {Q : Option Value → Shared → Prop} (ho : s.heap.get? it = some (itO l i)) (hl : s.heap.get? l = some (W.listOf vs.toArray n)) (hx : vs[i]? = some x)
    (hQ : ∀ h', Heap.SameBut it s.heap h' → h'.get? it = some (itO l (i + 1)) → Q (some x) { s with heap := h' }) :
    wpAny (model prog w) A (callSpecial? (.ref it) (Str.ofString "__next__")) Q E s := by
  have hT : s.TypeIs (.ref it) "list_iterator" := ⟨_, ho, rfl⟩
  refine wpAny_callSpecial?_slot (name := Str.ofString "__next__") hT slot_listiter_next (wpAny_call_entry slot_listiter_next hT entry_listiter_next ?_ (args_listiter_next _))
  show wpAny _ _ (field (.ref it) 0 >>= _) _ _ s
  refine wpAny_bind (wpAny_field ho rfl (x := .ref l) rfl ?_)
  show wpAny _ _ (if (Value.ref l == Value.none) = true then _ else _) _ _ s
  rw [if_neg (show ¬ ((Value.ref l == Value.none) = true) from Bool.false_ne_true)]
  show wpAny _ _ (field (.ref it) 1 >>= _) _ _ s
  refine wpAny_bind (wpAny_field ho rfl (x := .int i 0) rfl ?_)
  show wpAny _ _ (seqItems? (.ref l) >>= _) _ _ s
  refine wpAny_bind (wpAny_seqItems hl rfl ?_)
  have hx' : vs.toArray[i]? = some x := by simpa using hx
  simp only [Int.toNat_natCast, hx']
  refine wpAny_bind (wpAny_setField ho rfl (by simp) (wpAny_pure ⟨x, rfl, hQ _ (Heap.SameBut.update ..) ?_⟩))
  exact Heap.get?_update_self _ ho rfl
theorem special_end {l : Addr} {i : Nat} {vs : List Value} {n : Nat} {Q : Option Value → Shared → Prop} (hh : A.handled = none) (ho : s.heap.get? it = some (itO l i)) (hl : s.heap.get? l = some (W.listOf vs.toArray n)) (hx : vs[i]? = none)
    (hE : ∀ h₁ h' e, Heap.SameBut it s.heap h₁ → h₁.get? it = some (itE i) → Heap.NewExc h₁ h' e "StopIteration" → E (.ref e) { s with heap := h' }) :
    wpAny (model prog w) A (callSpecial? (.ref it) (Str.ofString "__next__")) Q E s := by
  have hT : s.TypeIs (.ref it) "list_iterator" := ⟨_, ho, rfl⟩
  refine wpAny_callSpecial?_slot (name := Str.ofString "__next__") hT slot_listiter_next (wpAny_call_entry slot_listiter_next hT entry_listiter_next ?_ (args_listiter_next _))
  show wpAny _ _ (field (.ref it) 0 >>= _) _ _ s
  refine wpAny_bind (wpAny_field ho rfl (x := .ref l) rfl ?_)
  show wpAny _ _ (if (Value.ref l == Value.none) = true then _ else _) _ _ s
  rw [if_neg (show ¬ ((Value.ref l == Value.none) = true) from Bool.false_ne_true)]
  show wpAny _ _ (field (.ref it) 1 >>= _) _ _ s
  refine wpAny_bind (wpAny_field ho rfl (x := .int i 0) rfl ?_)
  show wpAny _ _ (seqItems? (.ref l) >>= _) _ _ s
  refine wpAny_bind (wpAny_seqItems hl rfl ?_)
  have hx' : vs.toArray[i]? = none := by simpa using hx
  simp only [Int.toNat_natCast, hx']
  refine wpAny_bind (wpAny_rule (wpAny_bind (wpAny_setField ho rfl (by simp) ?_)))
  exact raise_stop (s := { s with heap := s.heap.update it (Obj.mapFields fun x => x.setIfInBounds 0 Value.none) }) (show A.in1.handled = none from hh) fun h' e x => hE _ h' e (Heap.SameBut.update ..) (Heap.get?_update_self _ ho rfl) x
theorem special_over {i : Nat} {Q : Option Value → Shared → Prop} (hh : A.handled = none) (ho : s.heap.get? it = some (itE i))
    (hE : ∀ h' e, Heap.NewExc s.heap h' e "StopIteration" → E (.ref e) { s with heap := h' }) :
    wpAny (model prog w) A (callSpecial? (.ref it) (Str.ofString "__next__")) Q E s := by
  have hT : s.TypeIs (.ref it) "list_iterator" := ⟨_, ho, rfl⟩
  refine wpAny_callSpecial?_slot (name := Str.ofString "__next__") hT slot_listiter_next (wpAny_call_entry slot_listiter_next hT entry_listiter_next ?_ (args_listiter_next _))
  show wpAny _ _ (field (.ref it) 0 >>= _) _ _ s
  refine wpAny_bind (wpAny_field ho rfl (x := .none) rfl ?_)
  show wpAny _ _ (if (Value.none == Value.none) = true then _ else _) _ _ s
  rw [if_pos (show ((Value.none == Value.none) = true) from rfl)]
  refine wpAny_bind (wpAny_rule ?_)
  exact wpAny_bind (raise_stop (show A.in1.handled = none from hh) hE)

/-- one look at the iterator: an item, or the end, by what is left -/
theorem special_wk {D : List (Addr × Obj)} {rem : List Value} {o : Obj} {Q : Option Value → Shared → Prop} (hh : A.handled = none) (hW : WkO D rem o) (hD : ∀ p ∈ D, s.heap.get? p.1 = some p.2) (ho : s.heap.get? it = some o)
    (hQ : ∀ v r h' o', rem = v :: r → Heap.SameBut it s.heap h' → h'.get? it = some o' → WkO D r o' → Q (some v) { s with heap := h' })
    (hE : ∀ h₁ h' e o', rem = [] → Heap.SameBut it s.heap h₁ → h₁.get? it = some o' → WkO D [] o' → Heap.NewExc h₁ h' e "StopIteration" → E (.ref e) { s with heap := h' }) :
    wpAny (model prog w) A (callSpecial? (.ref it) (Str.ofString "__next__")) Q E s := by
  rcases hW with ⟨l, vs, n, i, rfl, hl, hr⟩ | ⟨hr, i, rfl⟩
  · cases hx : vs[i]? with
    | none =>
      have hd : rem = [] := by rw [hr]; exact List.drop_eq_nil_of_le (List.getElem?_eq_none_iff.mp hx)
      exact special_end hh ho (hD _ hl) hx fun h₁ h' e hs hi x => hE h₁ h' e _ hd hs hi (.inr ⟨rfl, i, rfl⟩) x
    | some x =>
      obtain ⟨hlt, e⟩ := List.getElem?_eq_some_iff.mp hx
      have hd : rem = x :: vs.drop (i + 1) := by rw [hr, List.drop_eq_getElem_cons hlt, e]
      exact special_item ho (hD _ hl) hx fun h' hs hi => hQ x _ h' _ hd hs hi (.inl ⟨l, vs, n, i + 1, rfl, hl, rfl⟩)
  · exact special_over hh ho fun h' e x => hE s.heap h' e _ hr ⟨rfl, fun _ _ => rfl⟩ ho (.inr ⟨rfl, i, rfl⟩) x
theorem pyNext_wk {D : List (Addr × Obj)} {rem : List Value} {o : Obj} {Q : Option Value → Shared → Prop} (hh : A.handled = none) (hW : WkO D rem o) (hD : ∀ p ∈ D, s.heap.get? p.1 = some p.2) (ho : s.heap.get? it = some o)
    (hQ : ∀ h' o', Heap.ExtBut it s.heap h' → h'.get? it = some o' → WkO D rem.tail o' → Q rem.head? { s with heap := h' }) :
    wpAny (model prog w) A (pyNext (.ref it)) Q E s := by
  unfold pyNext
  refine wpAny_bind (wpAny_attempt (special_wk hh hW hD ho (fun v r h' o' e hs hi hW' => ?_) fun h₁ h' e' o' e hs hi hW' x => ?_))
  · subst e
    exact wpAny_pure (hQ h' o' hs.extBut hi hW')
  · subst e
    obtain ⟨ob, tp, he, hc, _⟩ := x.there
    refine wpAny_bind (wpAny_isInstance (T := "StopIteration") (b := true) ⟨_, he, hc⟩ isSubtype_stop ?_)
    refine wpAny_pure (hQ h' o' (fun b o hb hn => x.keeps b o (hs.extBut b o hb hn)) (x.keeps _ _ hi) hW')

section
variable {h₀ : Heap} {L : Addr} {m : Str → Option Value} {news D : List (Addr × Obj)} {g : Obj → List (Addr × Obj)} {rem : List Value} {wo : Obj} {dflt : Value}
theorem upd_ext {h h' : Heap} {o' : Obj} (F : Fr h₀ L h m) (N : News h₀ L h news) (U : UpdF it wo news g) (hs : Heap.ExtBut it h h') (hi : h'.get? it = some o') : Fr h₀ L h' m ∧ News h₀ L h' (g o') := by
  obtain ⟨pre, post, hl, hg, a, b⟩ := U.split
  have hm := N (it, wo) (by rw [hl]; exact List.mem_append_right _ (.head _))
  obtain ⟨oL, a1, a2, hoL, a3⟩ := F.ns
  refine ⟨⟨⟨oL, a1, a2, hs L _ hm.2.1.symm hoL, a3⟩, fun b x e => hs b _ (fun q => ?_) (F.keep b x e), F.above⟩, ?_⟩
  · rw [q, hm.2.2] at e; cases e
  · rw [hg]
    intro p hp
    rcases List.mem_append.mp hp with hp | hp
    · have := N p (by rw [hl]; exact List.mem_append_left _ hp)
      exact ⟨hs _ _ (a p hp) this.1, this.2⟩
    · rcases List.mem_cons.mp hp with rfl | hp
      · exact ⟨hi, hm.2⟩
      · have := N p (by rw [hl]; exact List.mem_append_right _ (.tail _ hp))
        exact ⟨hs _ _ (b p hp) this.1, this.2⟩
/-- next(walker, d) -/
theorem next2_wk {Q : Value → Shared → Prop} (hh : A.handled = none) (F : Fr h₀ L s.heap m) (N : News h₀ L s.heap news) (U : UpdF it wo news g) (hW : WkO D rem wo) (hD : ∀ p ∈ D, p ∈ news)
    (h : ∀ h' o', Fr h₀ L h' m → News h₀ L h' (g o') → WkO D rem.tail o' → Q (rem.head?.getD dflt) { s with heap := h' }) :
    wpAny (model prog w) A (call (.builtin "next") [.ref it, dflt]) Q E s := by
  have ho : s.heap.get? it = some wo := by
    obtain ⟨pre, post, hl, hg, a, b⟩ := U.split
    exact (N (it, wo) (by rw [hl]; exact List.mem_append_right _ (.head _))).1
  have hT : s.TypeIs (.ref it) "list_iterator" := ⟨_, ho, hW.cls⟩
  refine call_function_entry (by decide +kernel) (by decide +kernel) kdk_entry_next (kdk_args_next2 _ _) ?_
  unfold Builtin.«next»
  refine wpAny_bind (m := someArgs "next" 1 2 _) (wpAny_of_eq (a := [Value.ref it, dflt]) (by first | rfl | kernel_rfl!) ?_)
  dsimp only
  refine wpAny_bind (wpAny_specialOf (name := Str.ofString "__next__") hT slot_listiter_next.lookup ?_)
  refine wpAny_ite_split (fun hab => absurd hab (by decide)) (fun _ => ?_)
  refine wpAny_bind (pyNext_wk hh hW (fun p hp => (N p (hD p hp)).1) ho fun h' o' hs hi hW' => ?_)
  obtain ⟨F', N'⟩ := upd_ext F N U hs hi
  exact wpAny_pure ⟨_, rfl, h h' o' F' N' hW'⟩
/-- next(walker), an item -/
theorem next1_wk {v : Value} {r : List Value} {Q : Value → Shared → Prop} (hh : A.handled = none) (F : Fr h₀ L s.heap m) (N : News h₀ L s.heap news) (U : UpdF it wo news g) (hW : WkO D (v :: r) wo) (hD : ∀ p ∈ D, p ∈ news)
    (h : ∀ h' o', Fr h₀ L h' m → News h₀ L h' (g o') → WkO D r o' → Q v { s with heap := h' }) :
    wpAny (model prog w) A (call (.builtin "next") [.ref it]) Q E s := by
  have ho : s.heap.get? it = some wo := by
    obtain ⟨pre, post, hl, hg, a, b⟩ := U.split
    exact (N (it, wo) (by rw [hl]; exact List.mem_append_right _ (.head _))).1
  have hT : s.TypeIs (.ref it) "list_iterator" := ⟨_, ho, hW.cls⟩
  refine call_function_entry (by decide +kernel) (by decide +kernel) kdk_entry_next (kdk_args_next _) ?_
  unfold Builtin.«next»
  refine wpAny_bind (m := someArgs "next" 1 2 _) (wpAny_of_eq (a := [Value.ref it]) (by first | rfl | kernel_rfl!) ?_)
  dsimp only
  refine wpAny_bind (wpAny_specialOf (name := Str.ofString "__next__") hT slot_listiter_next.lookup ?_)
  refine wpAny_ite_split (fun hab => absurd hab (by decide)) (fun _ => ?_)
  refine wpAny_bind (special_wk hh hW (fun p hp => (N p (hD p hp)).1) ho (fun v' r' h' o' e hs hi hW' => ?_) fun _ _ _ _ e => nomatch e)
  cases e
  obtain ⟨F', N'⟩ := upd_ext F N U hs.extBut hi
  exact wpAny_pure ⟨_, rfl, h h' o' F' N' hW'⟩
/-- next(walker), at the end -/
theorem next1_end {Q : Value → Shared → Prop} (hh : A.handled = none) (F : Fr h₀ L s.heap m) (N : News h₀ L s.heap news) (U : UpdF it wo news g) (hW : WkO D [] wo) (hD : ∀ p ∈ D, p ∈ news)
    (hE : ∀ h₁ h' e o', Fr h₀ L h₁ m → News h₀ L h₁ (g o') → WkO D [] o' → Heap.NewExc h₁ h' e "StopIteration" → E (.ref e) { s with heap := h' }) :
    wpAny (model prog w) A (call (.builtin "next") [.ref it]) Q E s := by
  have ho : s.heap.get? it = some wo := by
    obtain ⟨pre, post, hl, hg, a, b⟩ := U.split
    exact (N (it, wo) (by rw [hl]; exact List.mem_append_right _ (.head _))).1
  have hT : s.TypeIs (.ref it) "list_iterator" := ⟨_, ho, hW.cls⟩
  refine call_function_entry (by decide +kernel) (by decide +kernel) kdk_entry_next (kdk_args_next _) ?_
  unfold Builtin.«next»
  refine wpAny_bind (m := someArgs "next" 1 2 _) (wpAny_of_eq (a := [Value.ref it]) (by first | rfl | kernel_rfl!) ?_)
  dsimp only
  refine wpAny_bind (wpAny_specialOf (name := Str.ofString "__next__") hT slot_listiter_next.lookup ?_)
  refine wpAny_ite_split (fun hab => absurd hab (by decide)) (fun _ => ?_)
  refine wpAny_bind (special_wk hh hW (fun p hp => (N p (hD p hp)).1) ho (fun v' r' h' o' e => nomatch e) fun h₁ h' e o' _ hs hi hW' x => ?_)
  obtain ⟨F', N'⟩ := upd_ext F N U hs.extBut hi
  exact hE h₁ h' e o' F' N' hW' x
/-- iter(walker) is the walker -/
theorem pyIter_wk {o : Obj} {Q : Value → Shared → Prop} (ho : s.heap.get? it = some o) (hc : o.cls = .type "list_iterator") (h : Q (.ref it) s) : wpAny (model prog w) A (pyIter (.ref it)) Q E s := by
  have hT : s.TypeIs (.ref it) "list_iterator" := ⟨_, ho, hc⟩
  refine wpAny_pyIter_slot hT slot_listiter_iter (wpAny_call_entry slot_listiter_iter hT entry_listiter_iter ?_ (args_listiter_iter _))
  unfold Builtin.«dict_keyiterator.__iter__»
  refine wpAny_bind (wpAny_pure ?_)
  exact wpAny_pure ⟨_, rfl, "list_iterator", _, hT, slot_listiter_next.lookup, h⟩
theorem iter_wk {o : Obj} {Q : Value → Shared → Prop} (ho : s.heap.get? it = some o) (hc : o.cls = .type "list_iterator") (h : Q (.ref it) s) : wpAny (model prog w) A (call (.builtin "iter") [.ref it]) Q E s := by
  refine call_function_entry (by decide +kernel) (by decide +kernel) kdk_entry_iter (kdk_args_iter _) ?_
  unfold Builtin.«iter»
  refine wpAny_bind (m := someArgs "iter" 1 2 _) (wpAny_of_eq (a := [Value.ref it]) (by first | rfl | kernel_rfl!) ?_)
  show wpAny _ _ (pyIter (.ref it) >>= _) _ _ _
  exact wpAny_bind (pyIter_wk ho hc (wpAny_pure ⟨_, rfl, h⟩))
/-- iter(row) -/
theorem iter_list {l : Addr} {vs : List Value} {n : Nat} {Q : Value → Shared → Prop} (F : Fr h₀ L s.heap m) (N : News h₀ L s.heap news) (hl : (l, W.listOf vs.toArray n) ∈ news)
    (h : ∀ I h', Fr h₀ L h' m → News h₀ L h' ((I, itO l 0) :: news) → (∀ p ∈ news, p.1 < I) → Q (.ref I) { s with heap := h' }) : wpAny (model prog w) A (call (.builtin "iter") [.ref l]) Q E s := by
  refine call_function_entry (by decide +kernel) (by decide +kernel) kdk_entry_iter (kdk_args_iter _) ?_
  unfold Builtin.«iter»
  refine wpAny_bind (m := someArgs "iter" 1 2 _) (wpAny_of_eq (a := [Value.ref l]) (by first | rfl | kernel_rfl!) ?_)
  show wpAny _ _ (pyIter (.ref l) >>= _) _ _ _
  refine wpAny_bind (wpAny_pyIter_list (items := vs.toArray) ⟨_, N.get hl, rfl, n, rfl⟩ ?_)
  exact wpAny_pure ⟨_, rfl, h _ _ (F.push _) (News.push F N _ rfl) fun q hq => Heap.lt_size (N q hq).1⟩
end
end
end Mine
end
section
open PySem PySem.W PyProof.Rows PySem.Spec PySem.Calls
namespace Mine
/-- an exception has come into the frame (g, L, m) that stands on top of fr; the ledger's news still stand -/
def Exn (base g : Heap) (L : Addr) (m : Str → Option Value) (fr : List Env) (e : Addr) (cls a0 : Value) (news : List (Addr × Obj)) (h : Heap) : Prop :=
  (∃ B : Heap, base.StaysIn B ∧ (∀ b o, g.get? b = some o → b ∉ fr.filterMap (·.frame) → B.get? b = some o) ∧ (∀ q ∈ news, B.get? q.1 = some q.2) ∧ Heap.FlyingW B fr e cls a0 h) ∧
  (∀ q ∈ news, q.1 ≠ L ∧ g.get? q.1 = none) ∧ g.UpToSlots h ∧ h.Ns L m
/-- the same, noted in this very frame -/
def Held (base g : Heap) (L : Addr) (m : Str → Option Value) (fr : List Env) (e : Addr) (cls a0 : Value) (news : List (Addr × Obj)) (h : Heap) : Prop :=
  (∃ B : Heap, base.StaysIn B ∧ (∀ b o, g.get? b = some o → b ∉ fr.filterMap (·.frame) → B.get? b = some o) ∧ (∀ q ∈ news, B.get? q.1 = some q.2) ∧ Heap.HeldW B fr e cls a0 L h) ∧
  (∀ q ∈ news, q.1 ≠ L ∧ g.get? q.1 = none) ∧ g.UpToSlots h ∧ h.Ns L m

theorem frames_cons {env : Env} {L b : Addr} {outer : List Env} (hf : env.frame = some L) (hb : b ∈ (env :: outer).filterMap (·.frame)) : b = L ∨ b ∈ outer.filterMap (·.frame) := by
  rw [List.filterMap_cons, hf] at hb
  exact List.mem_cons.mp hb

section
variable {M : Model} {A : Around} {E : Value → Shared → Prop} {s' : Shared} {base h₀ g h : Heap} {env env' : Env} {outer : List Env} {L L' e : Addr} {m m' : Str → Option Value} {cls a0 : Value} {news : List (Addr × Obj)} {Q : Unit → Shared → Prop} {K : Value → Shared → Prop}

theorem none_of_stays {x y : Heap} {b : Addr} (k : ∀ b o, x.get? b = some o → y.get? b = some o) (e : y.get? b = none) : x.get? b = none := by
  cases q : x.get? b with
  | none => rfl
  | some o => have := k b o q; rw [e] at this; cases this

/-- what the caller sees, from what the callee saw -/
theorem exn_out {B : Heap} (FG : Fr h₀ L g m) (hf' : env'.frame = some L') (hL' : g.get? L' = none) (hB : base.StaysIn B)
    (hg : ∀ b o, g.get? b = some o → b ∉ (env' :: env :: outer).filterMap (·.frame) → B.get? b = some o) (hn : ∀ q ∈ news, B.get? q.1 = some q.2) (hn' : ∀ q ∈ news, q.1 ≠ L' ∧ g.get? q.1 = none)
    (hu : g.UpToSlots h) (hfl : Heap.FlyingW B (env :: outer) e cls a0 h) : Exn base h₀ L m (env :: outer) e cls a0 news h := by
  refine ⟨⟨B, hB, fun b o hb nm => hg b o (FG.keep b o hb) fun hm => ?_, hn, hfl⟩, fun q hq => ⟨fun z => ?_, none_of_stays FG.keep (hn' q hq).2⟩, (Heap.UpToSlots.of_keeps FG.keep).trans hu, hu.ns FG.ns⟩
  · rcases frames_cons hf' hm with z | z
    · rw [z] at hb; have := FG.keep _ _ hb; rw [hL'] at this; cases this
    · exact nm z
  · obtain ⟨oL, _, _, hL, _⟩ := FG.ns
    have := (hn' q hq).2
    rw [z, hL] at this; cases this

/-- it passes through a frame -/
theorem exn_pass (hfr : A.frames = some (env' :: env :: outer)) (hf' : env'.frame = some L') (FG : Fr h₀ L g m) (hL' : g.get? L' = none) (X : Exn base g L' m' (env' :: env :: outer) e cls a0 news s'.heap)
    (hQ : ∀ h', Exn base h₀ L m (env :: outer) e cls a0 news h' → Q () { s' with heap := h' }) : wpAny M A (leaving env' (.ref e)) Q E s' := by
  obtain ⟨⟨B, hB, hg, hn, hfl⟩, hn', hu, hns⟩ := X
  exact wpAny_leaves_onW hfr hf' hfl fun h' x1 x2 => hQ h' (exn_out FG hf' hL' hB hg hn hn' (hu.trans x2) x1)

/-- it is noted in a frame (a loop's, a suite's own activation) -/
theorem exn_noted (hfr : A.frames = some (env :: outer)) (hf : env.frame = some L) (X : Exn base g L m (env :: outer) e cls a0 news s'.heap)
    (hK : ∀ h', Held base g L m (env :: outer) e cls a0 news h' → K (.ref e) { s' with heap := h' }) : notedBy M A env K (.ref e) s' := by
  obtain ⟨⟨B, hB, hg, hn, hfl⟩, hn', hu, hns⟩ := X
  exact wpAny_looks_onW hfr hf hfl fun h' x1 x2 => hK h' ⟨⟨B, hB, hg, hn, x1⟩, hn', hu.trans x2, x2.ns hns⟩
theorem setFlight_held {B : Heap} {l : List Env} (R : Heap.HeldW B l e cls a0 L s'.heap)
    (hQ : ∀ h', Heap.HeldW B l e cls a0 L h' → s'.heap.UpToSlots h' → Q () { s' with heap := h' }) : wpAny M A (setFlight (.ref e) (some L)) Q E s' := by
  obtain ⟨hkb, hen, hl, oe, vs, T, oT, ts, he, hcls, hd, h1, hnT, hTe, hT, hdT, h3⟩ := R
  have hsz3 : 3 < ts.size := (Array.getElem?_eq_some_iff.mp h3).1
  have other : ∀ b, b ≠ T → (s'.heap.update T (Obj.mapFields (·.setIfInBounds 3 ((some L).elim Value.none fun f => rawInt f)))).get? b = s'.heap.get? b :=
    fun b hb => Heap.get?_update_other _ _ (Ne.symm hb)
  have noRecord : ∀ b o, s'.heap.get? b = some o → (∀ vs, o.data ≠ .fields vs) → b ≠ T := fun b o hb hnf q => by
    rw [q, hT] at hb; injection hb with hb; subst hb; exact hnf ts hdT
  unfold setFlight
  refine wpAny_bind (wpAny_field he hd h1 ?_)
  rw [if_pos (show (Value.ref T != Value.none) = true from by simp)]
  refine wpAny_setField hT hdT hsz3 (hQ _ ⟨fun b o hbo => (other b fun q => by rw [q, hnT] at hbo; cases hbo).trans (hkb b o hbo), hen,
    hl.of_keeps fun b o hb hnf => ⟨o, (other b (noRecord b o hb hnf)).trans hb, rfl⟩, ?_⟩ fun b o hb hnf => ⟨o.slots, (other b (noRecord b o hb hnf)).trans hb⟩)
  exact ⟨oe, vs, T, _, _, (other e (Ne.symm hTe)).trans he, hcls, hd, h1, hnT, hTe, Heap.get?_update_self _ hT (Obj.isFreed_of_fields (Obj.data_mapFields hdT _)), Obj.data_mapFields hdT _, by simp [hsz3]⟩
/-- it comes back from an own activation -/
theorem held_came (hf : env.frame = some L) (X : Held base g L m (env :: outer) e cls a0 news s'.heap)
    (hK : ∀ h', Held base g L m (env :: outer) e cls a0 news h' → K (.ref e) { s' with heap := h' }) : cameBackBy M A env K (.ref e) s' := by
  obtain ⟨⟨B, hB, hg, hn, hh⟩, hn', hu, hns⟩ := X
  obtain ⟨_, _, _, oe, ws, T, oT, ts, he, hc, hd, h1, _⟩ := id hh
  unfold cameBackBy
  refine wpAny_bind (wpAny_field he hd h1 ?_)
  rw [if_neg (show ¬ ((Value.ref T == Value.none) = true) from by simp), hf]
  have z := setFlight_held (M := M) (A := A) (E := K) (Q := fun _ s'' => K (.ref e) s'') hh fun h' x1 x2 => hK h' ⟨⟨B, hB, hg, hn, x1⟩, hn', hu.trans x2, x2.ns hns⟩
  first | exact wpAny_bind (wpAny_pure z) | exact z
/-- it leaves the frame in which it is noted -/
theorem held_leave (hf' : env'.frame = some L') (FG : Fr h₀ L g m) (hL' : g.get? L' = none) (X : Held base g L' m' (env' :: env :: outer) e cls a0 news s'.heap)
    (hQ : ∀ h', Exn base h₀ L m (env :: outer) e cls a0 news h' → Q () { s' with heap := h' }) : wpAny M A (leaving env' (.ref e)) Q E s' := by
  obtain ⟨⟨B, hB, hg, hn, hh⟩, hn', hu, hns⟩ := X
  unfold leaving
  refine wpAny_bind (wpAny_noteFrame_againW hf' hh.2.2.2 ?_)
  refine wpAny_landsW hh fun h' hfl hs => ?_
  obtain ⟨k1, k2, ⟨_, _, k3⟩, k4⟩ := hfl
  exact hQ h' (exn_out FG hf' hL' hB hg hn hn' (hu.trans hs) ⟨k1, k2, k3, k4⟩)

/-- it is made in a frame, and leaves it -/
theorem exn_made {cn : String} (B' : Below A base (env :: outer) g) (hf' : env'.frame = some L') (hk' : env'.scope.kind = .function) (F' : Fr g L' h m') (N' : News g L' h news) (hx : Heap.NewExc h s'.heap e cn) (FG : Fr h₀ L g m)
    (hQ : ∀ h' a0, Exn base h₀ L m (env :: outer) e (.type cn) a0 news h' → Q () { s' with heap := h' }) : wpAny M (A.deeper env') (leaving env' (.ref e)) Q E s' := by
  have K' := pushX (env := env') B' F' hf' hk'
  have hL' : g.get? L' = none := kts_self F'
  have hin : ∀ env₁ ∈ (env' :: env :: outer), ∀ b, env₁.frame = some b → b ∈ (env' :: env :: outer).filterMap (·.frame) := fun env₁ he b hb => List.mem_filterMap.mpr ⟨env₁, he, hb⟩
  have hmem : ∀ b ∈ (env' :: env :: outer).filterMap (·.frame), b ∉ news.map (·.1) := fun b hb hq => by
    obtain ⟨q, hqn, rfl⟩ := List.mem_map.mp hq
    rcases frames_cons hf' hb with z | z
    · exact (N' q hqn).2.1 z
    · obtain ⟨_, o, ho, _⟩ := B'.frames.mem z
      rw [(N' q hqn).2.2] at ho; cases ho
  obtain ⟨ob, tp, he, hcls, hd⟩ := hx.there
  have hen : (hideAll h ((env' :: env :: outer).filterMap (·.frame))).get? e = none := none_of_stays (fun b o q => of_hideAll _ q) hx.new
  refine wpAny_leaving_firstW (a0 := tp) K'.stack ((funFrames_hide K'.frames hin).of_keeps fun b o hb _ => ⟨o, hx.keeps b o hb, rfl⟩) hf' he (fun b o hb => hx.keeps b o (of_hideAll _ hb)) hen hd rfl rfl fun h' hL => ?_
  obtain ⟨k1, ⟨_, _, k2⟩, k3, k4⟩ := hL
  refine hQ h' tp (exn_out FG hf' hL' (fun b o q => hideAll_get _ (K'.stays b o q) fun hm => ?_) (fun b o hb nm => hideAll_get _ (F'.keep b o hb) nm) (fun q hq => hideAll_get _ (N' q hq).1 fun hm => hmem _ hm (List.mem_map_of_mem hq)) (fun q hq => (N' q hq).2) (((Heap.UpToSlots.of_keeps F'.keep).trans (Heap.UpToSlots.of_keeps hx.keeps)).trans k4) ⟨k1, hen, k2, by rw [← hcls]; exact k3⟩)
  rw [(K'.frames.mem hm).1] at q; cases q
end
end Mine
end
section
open PySem PySem.W PyProof.Rows PySem.Spec PySem.Calls
namespace Mine
/-- one call of the operation, with a fold within it -/
def stepS (p : Int × Int) (r : List (Int × Int)) (v : Dat) (c : Int) : List Dat × En × List (Int × Int) :=
  if 8 < fateOf p.2 then ([callD v p r], .broken (fateOf p.2), r.drop (takeOf p.2))
  else if 6 < fateOf p.2 then
    (callD v p r :: (restS (r.drop (takeOf p.2)) (giv (fateOf p.2) c) (c + 1)).1, (restS (r.drop (takeOf p.2)) (giv (fateOf p.2) c) (c + 1)).2.1, (restS (r.drop (takeOf p.2)) (giv (fateOf p.2) c) (c + 1)).2.2)
  else ([callD v p r], .told (giv (fateOf p.2) c), r.drop (takeOf p.2))
theorem restS_nil (v : Dat) (c : Int) : restS [] v c = ([], .told v, []) := by rw [restS]
theorem restS_left : ∀ (n : Nat) (ps : List (Int × Int)) (d : Dat) (c : Int), ps.length ≤ n → ∀ v, (restS ps d c).2.1 = .told v → (restS ps d c).2.2 = [] := by
  intro n
  induction n with
  | zero => intro ps d c h v _; cases ps with
    | nil => rw [restS]
    | cons p r => simp at h
  | succ n ih =>
    intro ps d c h v hv
    cases ps with
    | nil => rw [restS]
    | cons p r =>
      rw [restS] at hv ⊢
      split at hv
      · cases hv
      · rename_i hn
        rw [if_neg hn]
        exact ih _ _ _ (by simp only [List.length_drop, List.length_cons] at *; omega) v hv
/-- the fold is its first call and then the fold of what that call left -/
theorem restS_told {p : Int × Int} {r : List (Int × Int)} {v d : Dat} {c : Int} (h : (stepS p r v c).2.1 = .told d) :
    restS (p :: r) v c = ((stepS p r v c).1 ++ (restS (stepS p r v c).2.2 d (c + (stepS p r v c).1.length)).1, (restS (stepS p r v c).2.2 d (c + (stepS p r v c).1.length)).2.1, (restS (stepS p r v c).2.2 d (c + (stepS p r v c).1.length)).2.2) := by
  rw [restS]
  unfold stepS at h ⊢
  split at h
  · cases h
  · rename_i h8
    rw [if_neg h8, if_neg h8]
    split at h
    · rename_i h6
      rw [if_pos h6]
      have hl := restS_left _ _ _ _ (Nat.le_refl _) d h
      dsimp only at h ⊢
      rw [hl, restS_nil, h]
      simp
    · rename_i h6
      rw [if_neg h6]
      dsimp only at h ⊢
      cases h
      rfl
theorem restS_broken {p : Int × Int} {r : List (Int × Int)} {v : Dat} {f c : Int} (h : (stepS p r v c).2.1 = .broken f) : restS (p :: r) v c = stepS p r v c := by
  rw [restS]
  unfold stepS at h ⊢
  split
  · rfl
  · split at h
    · rename_i h8 h6; exact absurd h6 h8
    · split at h
      · rename_i h6; rw [if_pos h6]
      · cases h
theorem stepS_len (p : Int × Int) (r : List (Int × Int)) (v : Dat) (c : Int) : (stepS p r v c).2.2.length ≤ r.length ∧ (stepS p r v c).1.length + (stepS p r v c).2.2.length ≤ r.length + 1 := by
  have key : ∀ (n : Nat) (ps : List (Int × Int)) (d : Dat) (c : Int), ps.length ≤ n → (restS ps d c).2.2.length ≤ ps.length ∧ (restS ps d c).1.length + (restS ps d c).2.2.length ≤ ps.length := by
    intro n
    induction n with
    | zero => intro ps d c h; cases ps with
      | nil => rw [restS]; exact ⟨Nat.le_refl _, Nat.le_refl _⟩
      | cons p r => simp at h
    | succ n ih =>
      intro ps d c h
      cases ps with
      | nil => rw [restS]; exact ⟨Nat.le_refl _, Nat.le_refl _⟩
      | cons p r =>
        rw [restS]
        split
        · simp only [List.length_drop, List.length_cons, List.length_nil]; omega
        · have := ih (r.drop (takeOf p.2)) (giv (fateOf p.2) c) (c + 1) (by simp only [List.length_drop, List.length_cons] at *; omega)
          simp only [List.length_drop, List.length_cons] at *
          omega
  unfold stepS
  have k := key _ (r.drop (takeOf p.2)) (giv (fateOf p.2) c) (c + 1) (Nat.le_refl _)
  split
  · simp only [List.length_drop, List.length_cons, List.length_nil]; omega
  · split
    · simp only [List.length_drop, List.length_cons] at *; omega
    · simp only [List.length_drop, List.length_cons, List.length_nil]; omega
theorem fateOf_range (x : Int) : 0 ≤ fateOf x ∧ fateOf x < 11 := ⟨Int.fmod_nonneg_of_pos _ (by decide), Int.fmod_lt_of_pos _ (by decide)⟩

def Off (D : List (Addr × Obj)) (a b c : Addr) : Prop := ∀ p ∈ D, p.1 ≠ a ∧ p.1 ≠ b ∧ p.1 ≠ c
theorem off1 {D : List (Addr × Obj)} {a b c : Addr} (h : Off D a b c) : ∀ p ∈ D, p.1 ≠ a := fun p hp => (h p hp).1
theorem off2 {D : List (Addr × Obj)} {a b c : Addr} (h : Off D a b c) : ∀ p ∈ D, p.1 ≠ b := fun p hp => (h p hp).2.1
theorem off3 {D : List (Addr × Obj)} {a b c : Addr} (h : Off D a b c) : ∀ p ∈ D, p.1 ≠ c := fun p hp => (h p hp).2.2

/-- the table of _law_step's nested code: empty, or with the lambda's code -/
def Tab32 (D : List (Addr × Obj)) (ps : Array Value) : Prop :=
  ps = #[] ∨ ∃ (c : Addr) (oc : Obj) (vs : Array Value) (t : Tok), ps = #[rawInt 27, rawInt 22, .ref c] ∧ (c, oc) ∈ D ∧ oc.data = .fields vs ∧ vs[1]? = some (.str (Str.ofString "_law_step" ++ Str.ofString ".<locals>." ++ Str.ofString "<lambda>") t)
theorem Tab32.mono {D D' : List (Addr × Obj)} {ps : Array Value} (h : Tab32 D ps) (hs : ∀ p ∈ D, p ∈ D') : Tab32 D' ps :=
  h.imp id fun ⟨c, oc, vs, t, a, b, r⟩ => ⟨c, oc, vs, t, a, hs _ b, r⟩

abbrev lamPar (q1 q2 : Pos) : Arguments := { posonlyargs := [], args := [{ arg := "one", annotation := none, pos := q1 }, { arg := "two", annotation := none, pos := q2 }], vararg := none, kwonlyargs := [], kw_defaults := [], kwarg := none, defaults := [] }
abbrev lamBody (p1 p2 p3 p4 p5 p6 : Pos) : Expr := .Call (.Name "_law_step" p1) [.Name "walker" p2, .Name "calls" p3, .Name "one" p4, .Name "two" p5] [] p6
abbrev lamScope : Scope := { kind := .function, names := [(Str.ofString "one", .local), (Str.ofString "two", .local), (Str.ofString "calls", .free), (Str.ofString "walker", .free), (Str.ofString "_law_step", .globalImplicit)], isGenerator := false, isCoroutine := false, more := [] }
/-- f is such a lambda over walker and calls -/
def LamIn (D : List (Addr × Obj)) (wk cl f : Addr) : Prop :=
  ∃ (qual : Str) (q1 q2 p1 p2 p3 p4 p5 p6 : Pos) (cw cc : Addr) (pm : Value) (c' : Addr) (ctv : Value) (oc : Obj) (vs : Array Value) (t : Tok) (ow o2 : Obj),
    (f, kla_obj "<lambda>" qual (lamPar q1 q2) (lamBody p1 p2 p3 p4 p5 p6) lamScope [(Str.ofString "walker", cw), (Str.ofString "calls", cc)] pm c' ctv) ∈ D ∧ (c', oc) ∈ D ∧ oc.data = .fields vs ∧ vs[1]? = some (.str qual t) ∧
    (cw, ow) ∈ D ∧ ow.data = .cell (some (.ref wk)) ∧ (cc, o2) ∈ D ∧ o2.data = .cell (some (.ref cl))
theorem LamIn.mono {D D' : List (Addr × Obj)} {wk cl f : Addr} (h : LamIn D wk cl f) (hs : ∀ p ∈ D, p ∈ D') : LamIn D' wk cl f := by
  obtain ⟨qual, q1, q2, p1, p2, p3, p4, p5, p6, cw, cc, pm, c', ctv, oc, vs, t, ow, o2, a1, a2, a3, a4, a5, a6, a7, a8⟩ := h
  exact ⟨qual, q1, q2, p1, p2, p3, p4, p5, p6, cw, cc, pm, c', ctv, oc, vs, t, ow, o2, hs _ a1, hs _ a2, a3, a4, hs _ a5, a6, hs _ a7, a8⟩

abbrev Led (wk : Addr) (wo : Obj) (cl : Addr) (cvs : List Value) (k : Nat) (ps : Array Value) (D : List (Addr × Obj)) : List (Addr × Obj) := (wk, wo) :: (cl, W.listOf cvs.toArray k) :: (32, tabObj ps) :: D
/-- how things stand ahead of a call: what is left in the walker, the calls so far -/
structure Bef (D : List (Addr × Obj)) (wk cl : Addr) (wo : Obj) (cvs : List Value) (ps : Array Value) (rp : List (Int × Int)) (dcs : List Dat) : Prop where
  off : Off D wk cl 32
  ne : (@Ne Nat wk cl) ∧ (@Ne Nat wk 32) ∧ (@Ne Nat cl 32)
  wkr : ∃ rem, WkO D rem wo ∧ DatAll D rem (rp.map thD)
  calls : DatAll D cvs dcs
  tab : Tab32 D ps
  len : dcs.length + rp.length ≤ 63
/-- how things stand behind it -/
structure Aft (D : List (Addr × Obj)) (wk cl : Addr) (dcs : List Dat) (q : List Dat × En × List (Int × Int)) (wo : Obj) (cvs : List Value) (ps : Array Value) (D' : List (Addr × Obj)) : Prop where
  sub : ∀ p ∈ D, p ∈ D'
  off : Off D' wk cl 32
  wkr : ∃ rem, WkO D' rem wo ∧ DatAll D' rem (q.2.2.map thD)
  calls : DatAll D' cvs (dcs ++ q.1)
  tab : Tab32 D' ps
def excN (f : Int) : String := if f = 9 then "ValueError" else "StopIteration"
/-- the tree t does what q says -/
def Does (w : World) (pg : Program) (loose : List Str) (mean : ExcName → Option Value) (mg mb : Str → Option Value) (need : Nat) (q : List Dat × En × List (Int × Int)) (t : Sem Value)
    (D : List (Addr × Obj)) (wk cl : Addr) (wo : Obj) (cvs : List Value) (k : Nat) (ps : Array Value) (dcs : List Dat) : Prop :=
  ∀ {dp un : Nat} {gd : Option (List Code)} {cn : Str} {cs : Scope} {a : Addr} {ccd : Value} {cls : List (Str × Addr)} {outer : List Env} {A₀ : Around} {base h₀ : Heap} {L : Addr} {m : Str → Option Value} {s : Shared} {Q E : Value → Shared → Prop},
  Below A₀ base outer h₀ → Fr h₀ L s.heap m → (Mine.hd.heap_39 w.params).In h₀ → News h₀ L s.heap (Led wk wo cl cvs k ps D) → Top pg loose mean mg mb h₀ → CodeHd h₀ 34 32 → cs.kind = .function → dp + need + 10 < recursionLimit → un + 16 * need + 200 < cLine →
  (∀ v d h' tk' wo' cvs' k' ps' D', q.2.1 = .told d → Aft D wk cl dcs q wo' cvs' ps' D' → DatIn D' v d → Fr h₀ L h' m → News h₀ L h' (Led wk wo' cl cvs' k' ps' D') → Q v { s with heap := h', toks := tk' }) →
  (∀ f e a0 h' tk' wo' cvs' k' ps' D', q.2.1 = .broken f → Aft D wk cl dcs q wo' cvs' ps' D' → Exn base h₀ L m (envX cn cs L a ccd cls :: outer) e (.type (excN f)) a0 (Led wk wo' cl cvs' k' ps' D') h' → E (.ref e) { s with heap := h', toks := tk' }) →
  wpAny (model PySem.Challenge.rw_dz0035_01.row.prog w) (ktrTop dp un gd cn cs L a ccd cls outer) t Q E s
def StepOk (w : World) (pg : Program) (loose : List Str) (mean : ExcName → Option Value) (mg mb : Str → Option Value) (n : Nat) : Prop :=
  ∀ D wk cl wo cvs k ps rp dcs val d ta pl x t1 t2 tn, Bef D wk cl wo cvs ps rp dcs → rp.length ≤ n → dcs.length + rp.length + 1 ≤ 63 → (ta, W.listOf [Value.int pl t1, Value.int x t2].toArray tn) ∈ D → DatIn D val d →
    Does w pg loose mean mg mb (4 * rp.length + 1) (stepS (pl, x) rp d dcs.length) (call (.ref 35) [.ref wk, .ref cl, val, .ref ta]) D wk cl wo cvs k ps dcs
def LamOk (w : World) (pg : Program) (loose : List Str) (mean : ExcName → Option Value) (mg mb : Str → Option Value) (n : Nat) : Prop :=
  ∀ D wk cl wo cvs k ps rp dcs val d ta pl x t1 t2 tn f, Bef D wk cl wo cvs ps rp dcs → rp.length ≤ n → dcs.length + rp.length + 1 ≤ 63 → (ta, W.listOf [Value.int pl t1, Value.int x t2].toArray tn) ∈ D → DatIn D val d → LamIn D wk cl f →
    Does w pg loose mean mg mb (4 * rp.length + 2) (stepS (pl, x) rp d dcs.length) (call (.ref f) [val, .ref ta]) D wk cl wo cvs k ps dcs
def RedOk (w : World) (pg : Program) (loose : List Str) (mean : ExcName → Option Value) (mg mb : Str → Option Value) (n : Nat) : Prop :=
  ∀ D wk cl wo cvs k ps rp dcs val d f, Bef D wk cl wo cvs ps rp dcs → rp.length ≤ n → DatIn D val d → val ≠ .ref 15 → LamIn D wk cl f →
    Does w pg loose mean mg mb (4 * rp.length) (restS rp d dcs.length) (call (.ref 23) [.ref f, .ref wk, val]) D wk cl wo cvs k ps dcs
end Mine
end
section
open PySem PySem.W PyProof.Rows PySem.Spec PySem.Calls
namespace Mine
theorem led_tab {h₀ h : Heap} {L : Addr} {wk cl : Addr} {wo : Obj} {cvs : List Value} {k : Nat} {ps : Array Value} {D : List (Addr × Obj)} {es : List (Addr × Obj)}
    (N : News h₀ L h (es ++ Led wk wo cl cvs k ps D)) : News h₀ L h (Led wk wo cl cvs k ps (es ++ D)) := by
  refine news_sub N fun p hp => ?_
  simp only [Led, List.mem_cons, List.mem_append] at hp ⊢
  rcases hp with h | h | h | h | h <;> simp [h]
theorem off_app {wk cl : Addr} {D es : List (Addr × Obj)} (off : Off D wk cl 32) (h : ∀ p ∈ es, wk < p.1 ∧ cl < p.1 ∧ 32 < p.1) : Off (es ++ D) wk cl 32 := by
  intro p hp
  rcases List.mem_append.mp hp with hp | hp
  · have := h p hp
    exact ⟨Nat.ne_of_gt this.1, Nat.ne_of_gt this.2.1, Nat.ne_of_gt this.2.2⟩
  · exact off p hp
theorem off_fresh {wk cl : Addr} {wo : Obj} {cvs : List Value} {k : Nat} {ps : Array Value} {D es : List (Addr × Obj)} (h : ∀ q ∈ Led wk wo cl cvs k ps D, ∀ p ∈ es, q.1 < p.1) : ∀ p ∈ es, wk < p.1 ∧ cl < p.1 ∧ 32 < p.1 :=
  fun p hp => ⟨h (wk, wo) (.head _) p hp, h (cl, _) (.tail _ (.head _)) p hp, h (32, _) (.tail _ (.tail _ (.head _))) p hp⟩
section
variable {M : Model} {A : Around} {E : Value → Shared → Prop} {s : Shared} {h₀ : Heap} {L a : Addr} {m mg mb : Str → Option Value} {cn : Str} {cs : Scope} {clz : List (Str × Addr)} {p : Program} {loose : List Str} {mean : ExcName → Option Value}
  {wk cl cw cc : Addr} {wo ow oc : Obj} {cvs : List Value} {k : Nat} {ps : Array Value} {D : List (Addr × Obj)} {q1 q2 p1 p2 p3 p4 p5 p6 : Pos} {Q : Value → Shared → Prop}
theorem updF_led (off : Off D wk cl 32) (hne : (@Ne Nat wk cl) ∧ (@Ne Nat wk 32) ∧ (@Ne Nat cl 32)) : UpdF 32 (tabObj ps) (Led wk wo cl cvs k ps D) (fun o => (wk, wo) :: (cl, W.listOf cvs.toArray k) :: (32, o) :: D) :=
  .tail hne.2.1 (.tail hne.2.2 (.head (off3 off)))
/-- the lambda of _law_step is made -/
theorem lam_eval (F : Fr h₀ L s.heap m) (N : News h₀ L s.heap (Led wk wo cl cvs k ps D)) (T : Top p loose mean mg mb h₀) (C : CodeHd h₀ 34 32) (off : Off D wk cl 32) (hne : (@Ne Nat wk cl) ∧ (@Ne Nat wk 32) ∧ (@Ne Nat cl 32)) (tab : Tab32 D ps)
    (hcl : closureFor lamScope (envX (Str.ofString "_law_step") cs L a (.ref 34) clz) = pure [(Str.ofString "walker", cw), (Str.ofString "calls", cc)])
    (mw : (cw, ow) ∈ D) (dw : ow.data = .cell (some (.ref wk))) (mc : (cc, oc) ∈ D) (dc : oc.data = .cell (some (.ref cl)))
    (h : ∀ f h' tk' ps' D', (∀ p ∈ D, p ∈ D') → Off D' wk cl 32 → Tab32 D' ps' → LamIn D' wk cl f → Fr h₀ L h' m → News h₀ L h' (Led wk wo cl cvs k ps' D') → Q (.ref f) { s with heap := h', toks := tk' }) :
    wpAny M A (eval (.Lambda (lamPar q1 q2) (lamBody p1 p2 p3 p4 p5 p6) lamScope ⟨27, 22, 27, 73⟩) (envX (Str.ofString "_law_step") cs L a (.ref 34) clz)) Q E s := by
  refine kla_eval rfl ?_
  rcases tab with rfl | ⟨c, oc', vs, t, rfl, hc, hd, hv⟩
  · refine kla_nest F N T C rfl (updF_led off hne) (by first | exact trivial | decide | rfl) (by rfl) hcl ?_
    intro f c' oc' vs t ctv h' tk F' N' hd hv hlt hcf
    have N2 : News h₀ L h' (Led wk wo cl cvs k #[rawInt 27, rawInt 22, .ref c'] ([(f, _), (c', oc')] ++ D)) := led_tab (es := [_, _]) N'
    refine h f h' tk _ _ upR (off_app off (fun q hq => ?_)) (.inr ⟨c', oc', vs, t, rfl, List.mem_append_left _ (.tail _ (.head _)), hd, hv⟩) ?_ F' N2
    · have h1 := hlt (wk, wo) (.head _)
      have h2 := hlt (cl, _) (.tail _ (.head _))
      have h3 := hlt (32, _) (.tail _ (.tail _ (.head _)))
      simp only [List.mem_cons, List.not_mem_nil, or_false] at hq
      rcases hq with rfl | rfl
      · exact ⟨Nat.lt_trans h1 hcf, Nat.lt_trans h2 hcf, Nat.lt_trans h3 hcf⟩
      · exact ⟨h1, h2, h3⟩
    · exact ⟨_, q1, q2, p1, p2, p3, p4, p5, p6, cw, cc, _, c', ctv, oc', vs, t, ow, oc, List.mem_append_left _ (.head _), List.mem_append_left _ (.tail _ (.head _)), hd, hv, upR _ mw, dw, upR _ mc, dc⟩
  · refine kla_hit F N T C rfl (c' := c) (.tail _ (.tail _ (.head _))) (by first | exact trivial | decide | rfl) (by rfl) hcl ?_
    intro f ctv h' tk F' N' hlt
    have N2 : News h₀ L h' (Led wk wo cl cvs k #[rawInt 27, rawInt 22, .ref c] ([(f, _)] ++ D)) := led_tab (es := [_]) N'
    refine h f h' tk _ _ upR (off_app off (fun q hq => ?_)) (.inr ⟨c, oc', vs, t, rfl, upR _ hc, hd, hv⟩) ?_ F' N2
    · have h1 := hlt (wk, wo) (.head _)
      have h2 := hlt (cl, _) (.tail _ (.head _))
      have h3 := hlt (32, _) (.tail _ (.tail _ (.head _)))
      simp only [List.mem_cons, List.not_mem_nil, or_false] at hq
      subst hq
      exact ⟨h1, h2, h3⟩
    · exact ⟨_, q1, q2, p1, p2, p3, p4, p5, p6, cw, cc, _, c, ctv, oc', vs, t, ow, oc, List.mem_append_left _ (.head _), upR _ hc, hd, hv, upR _ mw, dw, upR _ mc, dc⟩
end
end Mine
end
section
open PySem PySem.W PyProof.Rows PySem.Spec
namespace Mine
def padT : Nat → List Value → List Value
  | 0, _ => []
  | k + 1, rem => rem.head?.getD .none :: padT k rem.tail
theorem updF_self {d : Addr} {o : Obj} : ∀ {l : List (Addr × Obj)} {g : Obj → List (Addr × Obj)}, UpdF d o l g → g o = l
  | _, _, .head _ => rfl
  | _, _, .tail _ r => by show _ :: _ = _; rw [updF_self r]
theorem updF_next {d : Addr} {o : Obj} (o' : Obj) : ∀ {l : List (Addr × Obj)} {g : Obj → List (Addr × Obj)}, UpdF d o l g → UpdF d o' (g o') g
  | _, _, .head h => .head h
  | _, _, .tail h r => .tail h (updF_next o' r)
theorem updF_off {I C Dd d : Addr} {o : Obj} (o' : Obj) : ∀ {l : List (Addr × Obj)} {g : Obj → List (Addr × Obj)}, UpdF d o l g → LCg.Off3 I C Dd l → LCg.Off3 I C Dd (g o')
  | _, _, .head _, h => h
  | _, _, .tail _ r, h => ⟨h.1, updF_off o' r h.2⟩
theorem comp_induct {prog : Program} {w : World} {A : Around} {h₀ : Heap} {L it : Addr} {m : Str → Option Value} {env : Env} {elt : Expr} {x : Str} {scope : Scope} {cl : List (Str × Addr)} {s : Shared} {P : Nat → Value → Prop} {Fin : List Value → List (Addr × Obj) → Prop} {D : List (Addr × Obj)} {g : Obj → List (Addr × Obj)}
    (turn : ∀ wo rem news, UpdF it wo news g → WkO D rem wo → ∀ v I oI C oC Dd m₂ h tk (E' : Value → Shared → Prop) ys, LCg.NsObj oC m₂ → m₂ x = some v → Fr h₀ L h m → News h₀ L h ((I, oI) :: (C, oC) :: (Dd, LCg.lst ys) :: news) → LCg.Off3 I C Dd news → ((@Ne Nat I C) ∧ (@Ne Nat I Dd) ∧ (@Ne Nat C Dd)) →
      ∀ Q : Value → Shared → Prop, (∀ h' tk' wo', WkO D rem.tail wo' → Fr h₀ L h' m → News h₀ L h' ((I, oI) :: (C, oC) :: (Dd, LCg.lst ys) :: g wo') → Q (rem.head?.getD .none) { s with heap := h', toks := tk' }) →
      wpAny (model prog w) A (eval elt (compEnvC scope cl C env)) Q E' { s with heap := h, toks := tk }) :
    ∀ (kk i : Nat) (ys : List Value) (wo : Obj) (rem : List Value) (news : List (Addr × Obj)), UpdF it wo news g → WkO D rem wo → (∀ wo', WkO D (rem.drop kk) wo' → UpdF it wo' (g wo') g → Fin (ys ++ padT kk rem) (g wo')) → LCg.CompRest prog w A h₀ L m env elt x scope cl s (fun _ => True) P Fin kk i ys news := by
  intro kk
  induction kk with
  | zero =>
    intro i ys wo rem news U hW h
    refine LCg.CompRest.zero ?_
    have := h wo hW (updF_next wo U)
    rw [padT, List.append_nil, updF_self U] at this
    exact this
  | succ kk ih =>
    intro i ys wo rem news U hW h
    refine LCg.CompRest.succ fun v I oI C oC Dd m₂ h' tk E' _ hC hx F N off ne => ?_
    refine turn wo rem news U hW v I oI C oC Dd m₂ h' tk E' ys hC hx F N off ne _ fun h'' tk' wo' hW' F' N' => ?_
    refine LCg.CompEnd.intro F' N' (g wo') (fun p hp => hp) (updF_off wo' U off) trivial ?_
    refine ih (i + 1) _ wo' rem.tail (g wo') (updF_next wo' U) hW' fun wo'' hW'' => ?_
    rw [List.drop_tail] at hW''
    have := h wo'' hW''
    rw [padT] at this
    rw [List.append_assoc]
    exact this
theorem filt_induct {prog : Program} {w : World} {A : Around} {h₀ : Heap} {L ax : Addr} {m : Str → Option Value} {env : Env} {ct elt : Expr} {x : Str} {scope : Scope} {cl : List (Str × Addr)} {s : Shared} {Fin : List Value → List (Addr × Obj) → Prop} {its : List Value} {news : List (Addr × Obj)} {keep : Value → Bool}
    (hS : LCg.SrcAt h₀ ax its.toArray news)
    (test : ∀ v, v ∈ its → ∀ I oI C oC Dd m₂ h tk (E' : Value → Shared → Prop) ys, LCg.NsObj oC m₂ → m₂ x = some v → Fr h₀ L h m → News h₀ L h ((I, oI) :: (C, oC) :: (Dd, LCg.lst ys) :: news) → LCg.Off3 I C Dd news → ((@Ne Nat I C) ∧ (@Ne Nat I Dd) ∧ (@Ne Nat C Dd)) →
      ∀ Q : Bool → Shared → Prop, (∀ tk', Q (keep v) { s with heap := h, toks := tk' }) → wpAny (model prog w) A (isTrue ct (compEnvC scope cl C env) (eval ct (compEnvC scope cl C env))) Q E' { s with heap := h, toks := tk })
    (give : ∀ v, v ∈ its → ∀ I oI C oC Dd m₂ h tk (E' : Value → Shared → Prop) ys, LCg.NsObj oC m₂ → m₂ x = some v → Fr h₀ L h m → News h₀ L h ((I, oI) :: (C, oC) :: (Dd, LCg.lst ys) :: news) → LCg.Off3 I C Dd news → ((@Ne Nat I C) ∧ (@Ne Nat I Dd) ∧ (@Ne Nat C Dd)) →
      ∀ Q : Value → Shared → Prop, (∀ tk', Q v { s with heap := h, toks := tk' }) → wpAny (model prog w) A (eval elt (compEnvC scope cl C env)) Q E' { s with heap := h, toks := tk }) :
    ∀ (kk i : Nat) (ys : List Value), i + kk = its.length → Fin (ys ++ (its.drop i).filter keep) news → LCt.CompRestT prog w A h₀ L m env ct elt x scope cl s (LCg.SrcAt h₀ ax its.toArray) (fun i v => its.toArray[i]? = some v) Fin kk i ys news := by
  intro kk
  induction kk with
  | zero =>
    intro i ys hl h
    refine LCt.CompRestT.zero ?_
    rw [List.drop_eq_nil_of_le (by omega), List.filter_nil, List.append_nil] at h
    exact h
  | succ kk ih =>
    intro i ys hl h
    refine LCt.CompRestT.succ fun v I oI C oC Dd m₂ h' tk E' hv hC hx F N off ne => ?_
    have hv' : its[i]? = some v := by simpa using hv
    obtain ⟨hlt, e⟩ := List.getElem?_eq_some_iff.mp hv'
    have hm : v ∈ its := by rw [← e]; exact List.getElem_mem hlt
    have hd : its.drop i = v :: its.drop (i + 1) := by rw [List.drop_eq_getElem_cons hlt, e]
    refine test v hm I oI C oC Dd m₂ h' tk E' ys hC hx F N off ne _ fun tk' => ?_
    rw [hd] at h
    cases hk : keep v with
    | true =>
      rw [List.filter_cons_of_pos hk] at h
      refine (if_pos rfl).mpr ?_
      refine give v hm I oI C oC Dd m₂ h' tk' E' ys hC hx F N off ne _ fun tk'' => ?_
      refine LCg.CompEnd.intro F N news (fun p hp => hp) off hS ?_
      exact ih (i + 1) _ (by omega) (by rw [List.append_assoc]; exact h)
    | false =>
      rw [List.filter_cons_of_neg (by rw [hk]; exact Bool.false_ne_true)] at h
      refine (if_neg Bool.false_ne_true).mpr ?_
      refine LCg.CompEnd.intro F N news (fun p hp => hp) off hS ?_
      exact ih (i + 1) _ (by omega) h
theorem padT_mem (P : Value → Prop) (h0 : P .none) : ∀ (k : Nat) (rem : List Value), (∀ v ∈ rem, P v) → ∀ v ∈ padT k rem, P v
  | 0, _, _, _, hv => nomatch hv
  | k + 1, rem, h, v, hv => by
    rw [padT] at hv
    rcases List.mem_cons.mp hv with e | hv
    · rw [e]
      cases rem with
      | nil => exact h0
      | cons u r => exact h u (.head _)
    · exact padT_mem P h0 k rem.tail (fun u hu => h u (List.mem_of_mem_tail hu)) v hv
theorem padT_len : ∀ (k : Nat) (rem : List Value), (padT k rem).length = k
  | 0, _ => rfl
  | k + 1, rem => by rw [padT, List.length_cons, padT_len k]
def isNone : Value → Bool
  | .none => true
  | _ => false
theorem padT_filter : ∀ (k : Nat) (rem : List Value), (∀ v ∈ rem, isNone v = false) → (padT k rem).filter (fun v => !isNone v) = rem.take k
  | 0, _, _ => rfl
  | k + 1, rem, h => by
    rw [padT]
    cases rem with
    | nil =>
      rw [List.filter_cons_of_neg (by simp [isNone]), padT_filter k _ (by simp)]
      simp
    | cons u r =>
      rw [List.filter_cons_of_pos (by simp [h u (.head _)]), List.tail_cons, padT_filter k r fun v hv => h v (.tail _ hv)]
      rfl
theorem datAll_refs {D : List (Addr × Obj)} {rem : List Value} {rp : List (Int × Int)} (h : DatAll D rem (rp.map thD)) : ∀ v ∈ rem, ∃ a, v = .ref a := by
  induction rem generalizing rp with
  | nil => intro v hv; cases hv
  | cons u r ih =>
    intro v hv
    cases rp with
    | nil => cases h
    | cons p rp =>
      rw [List.map_cons] at h
      cases h with
      | cons h1 h2 =>
        rcases List.mem_cons.mp hv with e | hv
        · cases h1; exact ⟨_, e⟩
        · exact ih h2 v hv
theorem regroup {h₀ h : Heap} {L : Addr} {e1 e2 e3 e4 e5 e6 : Addr × Obj} {wk cl : Addr} {wo : Obj} {cvs : List Value} {v : Value} {k : Nat} {ps : Array Value} {D : List (Addr × Obj)}
    (N : News h₀ L h (e1 :: e2 :: e3 :: e4 :: e5 :: e6 :: (wk, wo) :: (cl, W.listOf (cvs.toArray.push v) (k + 1)) :: (32, tabObj ps) :: D)) : News h₀ L h (Led wk wo cl (cvs ++ [v]) (k + 1) ps ([e1, e2, e3, e4, e5, e6] ++ D)) := by
  have e : cvs.toArray.push v = (cvs ++ [v]).toArray := by simp
  rw [e] at N
  refine news_sub N fun p hp => ?_
  simp only [Led, List.mem_cons, List.mem_append, List.not_mem_nil, or_false] at hp ⊢
  rcases hp with h | h | h | (h | h | h | h | h | h) | h <;> simp [h]
theorem off_six {wk cl : Addr} {D : List (Addr × Obj)} {a1 a2 a3 a4 a5 a6 : Addr} {o1 o2 o3 o4 o5 o6 : Obj} (off : Off D wk cl 32)
    (h1 : (@Ne Nat a1 wk) ∧ (@Ne Nat a1 cl) ∧ (@Ne Nat a1 32)) (h2 : (@Ne Nat a2 wk) ∧ (@Ne Nat a2 cl) ∧ (@Ne Nat a2 32)) (h3 : (@Ne Nat a3 wk) ∧ (@Ne Nat a3 cl) ∧ (@Ne Nat a3 32)) (h4 : (@Ne Nat a4 wk) ∧ (@Ne Nat a4 cl) ∧ (@Ne Nat a4 32)) (h5 : (@Ne Nat a5 wk) ∧ (@Ne Nat a5 cl) ∧ (@Ne Nat a5 32)) (h6 : (@Ne Nat a6 wk) ∧ (@Ne Nat a6 cl) ∧ (@Ne Nat a6 32)) :
    Off ([(a1, o1), (a2, o2), (a3, o3), (a4, o4), (a5, o5), (a6, o6)] ++ D) wk cl 32 := by
  intro p hp
  rcases List.mem_append.mp hp with hp | hp
  · simp only [List.mem_cons, List.not_mem_nil, or_false] at hp
    rcases hp with rfl | rfl | rfl | rfl | rfl | rfl <;> assumption
  · exact off p hp
theorem takeOf_lt (x : Int) : takeOf x < 3 := by
  have h1 := Int.fmod_nonneg_of_pos x (show (0 : Int) < 3 by decide)
  have h2 := Int.fmod_lt_of_pos x (show (0 : Int) < 3 by decide)
  unfold takeOf
  omega
theorem range_small (x : Int) : Builtin.Range.small 0 (x.fmod 3) 1 = true := by
  have h1 := Int.fmod_nonneg_of_pos x (show (0 : Int) < 3 by decide)
  have h2 := Int.fmod_lt_of_pos x (show (0 : Int) < 3 by decide)
  have : x.fmod 3 = 0 ∨ x.fmod 3 = 1 ∨ x.fmod 3 = 2 := by omega
  rcases this with e | e | e <;> rw [e] <;> decide
theorem range_take (x : Int) : Builtin.Range.rangeSize 0 (x.fmod 3) 1 = ((takeOf x : Nat) : Int) := by
  have h1 := Int.fmod_nonneg_of_pos x (show (0 : Int) < 3 by decide)
  unfold takeOf Builtin.Range.rangeSize
  simp
  omega
local macro_rules | `(tactic| k_mem) => `(tactic| first | exact List.Mem.head _ | (refine' List.Mem.tail _ ?_; k_mem) | assumption)
local macro_rules | `(tactic| k_all) => `(tactic| first | exact off1 (by assumption) | exact off2 (by assumption) | exact off3 (by assumption) | exact List.forall_mem_nil _ | (refine' List.forall_mem_cons.mpr ⟨?a, ?b⟩; (case a => k_ne); (case b => k_all)))
local macro_rules | `(tactic| walk_at "subscriptTail") => `(tactic| (k_here; (with_reducible show wpAny _ _ (subscriptTail _ _ (Value.ref _) (Value.int _ _)) _ _ _); (with_unfolding_all refine' item_mem ?k1 ?k2 ?k3 ?k4 ?k5 ?_ ?k6; (case k1 => k_asm); (case k2 => k_mem); (case k3 => decide); (case k4 => decide); (case k5 => rfl); (case k6 => with_unfolding_all rfl); k_whole)))
local macro_rules | `(tactic| walk_at "fence") => `(tactic| (with_reducible show wpAny _ _ (exec (Stmt.Assign _ (Expr.ListComp _ _ _ _) _) _) _ _ _))
local macro_rules | `(tactic| walk_at "fence") => `(tactic| (with_reducible show LCg.CompSrc _ _ _ _ _ _ _ _ _ _ _ _ _ _))
local macro_rules | `(tactic| walk_at "fence") => `(tactic| (with_reducible show LCt.CompSrcT _ _ _ _ _ _ _ _ _ _ _ _ _ _ _))
local macro_rules | `(tactic| walk_at "fence") => `(tactic| (with_reducible show wpAny _ _ (eval (Expr.ListComp _ _ _ _) _) _ _ _))
local macro_rules | `(tactic| walk_at "fence") => `(tactic| (with_reducible show wpAny _ _ (call (Value.ref _) _) _ _ _))
local macro_rules | `(tactic| walk_at "fence") => `(tactic| (with_reducible show wpAny _ _ (eval (Expr.Lambda _ _ _ _) _) _ _ _))
local macro_rules | `(tactic| walk_at "fence") => `(tactic| (with_reducible show wpAny _ _ (leaving _ _) _ _ _))
local macro_rules | `(tactic| walk_at "fence") => `(tactic| (with_reducible show (ite _ _ _)))
local macro_rules | `(tactic| walk_at "fence") => `(tactic| (with_reducible show wpAny _ _ (exec (Stmt.Raise _ _ _) _) _ _ _))
local macro_rules | `(tactic| walk_at "go") => `(tactic| repeat' ((fail_if_success (walk_at "fence")); (first | (k_unfold; (try dsimp only)) | walk1 | (dsimp only; walk1) | (leave1; walk_say "STEP leave1"; try dsimp only) | fail "no step")))
set_option maxRecDepth 100000 in
set_option maxHeartbeats 8000000 in
theorem step_ok {w : World} {pg : Program} {loose : List Str} {mean : ExcName → Option Value} {mg mb : Str → Option Value} {n : Nat} (ih : RedOk w pg loose mean mg mb n) : StepOk w pg loose mean mg mb n := by
  unfold StepOk Does
  intro D wk cl wo cvs k ps rp dcs val d ta pl x t1 t2 tn bef hn hlen1 hth hval dp un gd cn cs a ccd cls outer A₀ base h₀ L m s Q E B F X N T C hk hd hu ret exc
  obtain ⟨off, hne, ⟨rem, hW, hrd⟩, hcd, htab, hlen⟩ := bef
  have hrem : ∀ v ∈ rem, ∃ a, v = .ref a := datAll_refs hrd
  have hcv : cvs.length ≤ 64 := by have := hcd.length; omega
  w_on
  revert X
  k_fill
  intro X
  refine wpAny_call ?_
  k_dflt (refine' code_defC ?k1 ?k2 ?k3 ?k4 ?k5 ?kA ?kF ?kK ?k6 ?k7 ?k8 ?k9 ?kB ?kD ?_ ?c2 ?c3 ?c4; (case kA => exact rfl); (case kF => exact rfl); (case kK => assumption); (case k1 => k_asm); (case k2 => k_asm); (case k3 => k_asm); (case k4 => k_asm); (case k5 => k_asm); (case k6 => k_is); (case k7 => k_is); (case k8 => ktr_room); (case k9 => exact BindsTo.of_eq (binds := [("walker", .ref wk), ("calls", .ref cl), ("value", val), ("thing", .ref ta)]) rfl); (case kB => exact rfl); (case kD => decide +kernel); (case c2 => exact rfl); (case c3 => exact rfl); (case c4 => exact rfl); k_whole; intro g' L' h' tk' cells' FG' F' N' Y' B' X' T' l1; (try k_lt l1); k_cells Y'; (try simp only [List.cons_append, List.nil_append] at N'); (try dsimp only); (try k_lift B'); (try k_fold))
  walk_at "go"
  k_dflt (refine LCg.Assign_ListComp_U (F₀ := by k_asm) (by rfl) (by with_unfolding_all rfl) (by with_unfolding_all rfl) (by decide) (by rfl) (by decide) (by rfl) (by rfl) (by rfl) ?_)
  walk_at "go"
  k_dflt (refine LCg.CompSrc.range (n := takeOf x) (by rfl) (by k_asm) (by k_asm) (by assumption) ?small (range_take x) ?sz ?_)
  rotate_left 2
  intro g9
  dsimp only
  refine comp_induct (it := wk) (D := D) ?turn _ _ _ wo rem _ (by k_updF) hW ?fin
  case turn =>
    intro wo9 rem9 news9 U9 hW9 v9 I9 oI9 C9 oC9 Dd9 m9 h9 tk9 E9 ys9 hC9 hx9 F9 N9 off9 ne9 Q9 hQ9
    have e9 := updF_self U9
    try dsimp only at e9
    subst e9
    try dsimp only at N9
    walk_at "go"
    try simp only [LCg.Off3, and_true] at off9
    refine next2_wk rfl F9 N9 (by k_updF) hW9 (fun p hp => by (repeat' apply List.mem_cons_of_mem); exact hp) ?_
    intro h8 o8 F8 N8 hW8
    exact hQ9 h8 _ o8 hW8 F8 N8
  case small => exact range_small x
  case sz => rw [sizeLine_eq]; have := takeOf_lt x; omega
  case fin =>
    intro wo1 hW1 U1
    unfold LCg.FinA
    intro D1 h1 tk1 F1 N1 o1
    simp only [LCg.Off1, List.nil_append] at o1 N1
    dsimp only
    walk_at "go"
    k_dflt (refine LCt.ListComp_T (F₀ := by k_asm) (by with_unfolding_all rfl) (by decide) (by rfl) (by decide) (by rfl) ?_)
    walk_at "go"
    k_dflt (refine LCt.CompSrcT.ledger (its := (padT (takeOf x) rem).toArray) (by rfl) (by k_asm) (by k_asm) (List.Mem.head _) ?sz2 ?_)
    case sz2 => rw [List.size_toArray, padT_len, sizeLine_eq]; have := takeOf_lt x; omega
    intro g8
    dsimp only
    refine filt_induct (keep := fun v => !isNone v) (.inr ⟨_, List.Mem.head _, rfl, _, rfl⟩) ?test ?give _ _ _ (by rw [List.size_toArray, Nat.zero_add]) ?fin
    case test =>
      intro v9 hm9 I9 oI9 C9 oC9 Dd9 m9 h9 tk9 E9 ys9 hC9 hx9 F9 N9 off9 ne9 Q9 hQ9
      rcases padT_mem (fun v => v = .none ∨ ∃ a, v = .ref a) (.inl rfl) _ _ (fun v hv => .inr (hrem v hv)) v9 hm9 with e | ⟨a9, e⟩
      · subst e
        walk_at "go"
        exact hQ9 _
      · subst e
        walk_at "go"
        exact hQ9 _
    case give =>
      intro v9 hm9 I9 oI9 C9 oC9 Dd9 m9 h9 tk9 E9 ys9 hC9 hx9 F9 N9 off9 ne9 Q9 hQ9
      walk_at "go"
      exact hQ9 _
    case fin =>
      unfold LCg.FinE
      intro D2 h2 tk2 F2 N2 o2
      simp only [LCg.Off1, List.nil_append] at o2 N2
      rw [List.drop_zero, padT_filter _ _ (fun v hv => by obtain ⟨a, e⟩ := hrem v hv; rw [e]; rfl)] at N2
      dsimp only
      walk_at "go"
      refine append_K (its := cvs.toArray) (n := k) (by k_asm) (by k_asm) (by k_upd) ?_ (by rw [List.size_toArray, sizeLine_eq]; omega)
      intro h3 F3 N3
      rename_i oC oW dC dW aT _ lt1 _ _ _ _ _ _ _ _ _ _ _ aL _ _ _ lt2
      have N4 := regroup N3
      have off4 := off_six (o1 := W.listOf #[val, Value.ref ta, Value.ref D2] 0) (o2 := LCg.lst (List.take (takeOf x) rem)) (o3 := LCg.lst (padT (takeOf x) rem)) (o4 := { cls := .type "tuple", data := .seq #[Value.int x t2, Value.int ((x.fdiv 3).fmod 11) (tk' + 1 + 1 + 1 + 1 + 1), Value.int (dcs.length : Int) (tk' + 1 + 1 + 1 + 1 + 1 + 1 + 1)] }) (a1 := aL) (a2 := D2) (a3 := D1) (a4 := aT) (a5 := L' + 1 + 1) (a6 := L' + 1) (o5 := oC) (o6 := oW) off (by omega) (by omega) (by omega) (by omega) (by omega) (by omega)
      clear N3
      have sub4 : ∀ p ∈ D, p ∈ [(aL, W.listOf #[val, Value.ref ta, Value.ref D2] 0), (D2, LCg.lst (List.take (takeOf x) rem)), (D1, LCg.lst (padT (takeOf x) rem)), (aT, ({ cls := .type "tuple", data := .seq #[Value.int x t2, Value.int ((x.fdiv 3).fmod 11) (tk' + 1 + 1 + 1 + 1 + 1), Value.int (dcs.length : Int) (tk' + 1 + 1 + 1 + 1 + 1 + 1 + 1)] } : Obj)), (L' + 1 + 1, oC), (L' + 1, oW)] ++ D := upR
      have mem4 : ∀ p ∈ [(aL, W.listOf #[val, Value.ref ta, Value.ref D2] 0), (D2, LCg.lst (List.take (takeOf x) rem)), (D1, LCg.lst (padT (takeOf x) rem)), (aT, ({ cls := .type "tuple", data := .seq #[Value.int x t2, Value.int ((x.fdiv 3).fmod 11) (tk' + 1 + 1 + 1 + 1 + 1), Value.int (dcs.length : Int) (tk' + 1 + 1 + 1 + 1 + 1 + 1 + 1)] } : Obj)), (L' + 1 + 1, oC), (L' + 1, oW)], p ∈ [(aL, W.listOf #[val, Value.ref ta, Value.ref D2] 0), (D2, LCg.lst (List.take (takeOf x) rem)), (D1, LCg.lst (padT (takeOf x) rem)), (aT, ({ cls := .type "tuple", data := .seq #[Value.int x t2, Value.int ((x.fdiv 3).fmod 11) (tk' + 1 + 1 + 1 + 1 + 1), Value.int (dcs.length : Int) (tk' + 1 + 1 + 1 + 1 + 1 + 1 + 1)] } : Obj)), (L' + 1 + 1, oC), (L' + 1, oW)] ++ D := upL
      have mC := mem4 _ (.head _)
      have mT := mem4 _ (.tail _ (.head _))
      have mcC := mem4 (L' + 1 + 1, oC) (by simp)
      have mcW := mem4 (L' + 1, oW) (by simp)
      clear mem4
      generalize hD4 : [(aL, W.listOf #[val, Value.ref ta, Value.ref D2] 0), (D2, LCg.lst (List.take (takeOf x) rem)), (D1, LCg.lst (padT (takeOf x) rem)), (aT, ({ cls := .type "tuple", data := .seq #[Value.int x t2, Value.int ((x.fdiv 3).fmod 11) (tk' + 1 + 1 + 1 + 1 + 1), Value.int (dcs.length : Int) (tk' + 1 + 1 + 1 + 1 + 1 + 1 + 1)] } : Obj)), (L' + 1 + 1, oC), (L' + 1, oW)] ++ D = D4 at N4 off4 sub4 mC mT mcC mcW
      clear hD4
      have hcall : DatAll D4 (cvs ++ [.ref aL]) (dcs ++ [callD d (pl, x) rp]) := by
        refine (hcd.mono sub4).append (.one ?_)
        refine DatIn.list (vs := [_, _, _]) mC (.cons (hval.mono sub4) (.cons (DatIn.list (vs := [_, _]) (sub4 _ hth) (.cons (.int _ _) (.cons (.int _ _) .nil))) (.cons (DatIn.list mT ?_) .nil)))
        rw [List.map_take]
        exact (datAll_take hrd _).mono sub4
      have hrd4 : DatAll D4 (rem.drop (takeOf x)) ((rp.drop (takeOf x)).map thD) := by rw [List.map_drop]; exact (datAll_drop hrd _).mono sub4
      have hW4 := hW1.mono sub4
      have htab4 := htab.mono sub4
      walk_at "go"
      by_cases h9 : (x.fdiv 3).fmod 11 = 9
      · refine (if_pos (show (((x.fdiv 3).fmod 11 == 9) = true) by rw [h9]; rfl)).mpr ?_
        walk_at "go"
        refine Raise_new rfl ?_
        walk_at "go"
        rename Heap.NewExc _ _ _ _ => hx
        refine exn_made B' rfl rfl F3 N4 hx FG' ?_
        intro h5 a5 hX
        have hq : stepS (pl, x) rp d dcs.length = ([callD d (pl, x) rp], .broken 9, rp.drop (takeOf x)) := by
          unfold stepS; rw [if_pos (show 8 < fateOf x by unfold fateOf; omega)]; show (_, En.broken (fateOf x), _) = _; rw [show fateOf x = 9 from h9]
        rw [hq] at exc
        exact exc 9 _ a5 h5 _ wo1 _ _ ps D4 rfl ⟨sub4, off4, ⟨_, hW4, hrd4⟩, hcall, htab4⟩ hX
      refine (if_neg (show ¬(((x.fdiv 3).fmod 11 == 9) = true) by simpa using h9)).mpr ?_
      walk_at "go"
      by_cases h10 : (x.fdiv 3).fmod 11 = 10
      · refine (if_pos (show (((x.fdiv 3).fmod 11 == 10) = true) by rw [h10]; rfl)).mpr ?_
        walk_at "go"
        refine owsi_raiseC rfl ?hx ?_
        case hx => (refine' nameX_B F3 ?k1 (topRead_of T') ?k3 ?k4 ?k5 ?_; (case k1 => k_asm); (case k3 => k_is); (case k4 => boot_by_name); (case k5 => decide); exact ⟨rfl, rfl⟩)
        intro h6 e6 hx
        refine exn_made B' rfl rfl F3 N4 hx.newExc FG' ?_
        intro h5 a5 hX
        have hq : stepS (pl, x) rp d dcs.length = ([callD d (pl, x) rp], .broken 10, rp.drop (takeOf x)) := by
          unfold stepS; rw [if_pos (show 8 < fateOf x by unfold fateOf; omega)]; show (_, En.broken (fateOf x), _) = _; rw [show fateOf x = 10 from h10]
        rw [hq] at exc
        exact exc 10 _ a5 h5 _ wo1 _ _ ps D4 rfl ⟨sub4, off4, ⟨_, hW4, hrd4⟩, hcall, htab4⟩ hX
      refine (if_neg (show ¬(((x.fdiv 3).fmod 11 == 10) = true) by simpa using h10)).mpr ?_
      have hfr := fateOf_range x
      unfold fateOf at hfr
      walk_at "go"
      by_cases h6 : 6 < (x.fdiv 3).fmod 11
      · refine (if_pos (show (decide (6 < (x.fdiv 3).fmod 11) = true) by simpa using h6)).mpr ?_
        walk_at "go"
        k_dflt (refine lam_eval F3 N4 T' (C.keeps FG'.keep) off4 hne htab4 rfl mcW dW mcC dC ?_)
        intro f6 h6' tk6 ps6 D6 sub6 off6 tab6 lam6 F6 N6
        have mcW6 := sub6 _ mcW
        have mcC6 := sub6 _ mcC
        try dsimp only
        walk_at "go"
        k_dflt (refine' given_call ?k1 F6 ?k3 N6 ?k5 ?kK ?kd ?ku ?_; (case k1 => k_asm); (case k3 => k_asm); (case k5 => k_asm); (case kK => exact rfl); (case kd => ktr_room); (case ku => ktr_units))
        intro r9 tl9 h9' tk9 F9 N9 hl9 ho9
        try dsimp only
        have N7 := led_tab N9
        walk_at "go"
        unfold RedOk Does at ih
        have hdl : (rp.drop (takeOf x)).length ≤ rp.length := by rw [List.length_drop]; omega
        have hr15 : r9 ≠ .ref 15 := by
          intro e
          subst e
          generalize giv ((x.fdiv 3).fmod 11) dcs.length = gg at ho9
          cases ho9 with
          | list hm _ => exact absurd (hl9 (32, _) (.tail _ (.tail _ (.head _))) _ hm) (show ¬ ((32 : Nat) < 15) by decide)
          | tuple hm _ => exact absurd (hl9 (32, _) (.tail _ (.tail _ (.head _))) _ hm) (show ¬ ((32 : Nat) < 15) by decide)
        have hq : stepS (pl, x) rp d dcs.length = (callD d (pl, x) rp :: (restS (rp.drop (takeOf x)) (giv (fateOf x) dcs.length) (dcs.length + 1)).1, (restS (rp.drop (takeOf x)) (giv (fateOf x) dcs.length) (dcs.length + 1)).2.1, (restS (rp.drop (takeOf x)) (giv (fateOf x) dcs.length) (dcs.length + 1)).2.2) := by
          unfold stepS; rw [if_neg (show ¬ 8 < fateOf x by unfold fateOf; omega), if_pos (show 6 < fateOf x from h6)]
        have hcl7 : ((dcs ++ [callD d (pl, x) rp]).length : Int) = dcs.length + 1 := by simp
        k_dflt (refine' ih (tl9 ++ D6) wk cl wo1 (cvs ++ [.ref aL]) (k + 1) ps6 (rp.drop (takeOf x)) (dcs ++ [callD d (pl, x) rp]) r9 (giv (fateOf x) dcs.length) f6 ?bef ?len (ho9.mono upL) hr15 (lam6.mono upR) ?k1 ?k2 ?k3 ?k4 ?k5 ?kC ?kK ?kd ?ku ?_ ?_; (case k1 => k_asm); (case k2 => k_asm); (case k3 => k_asm); (case k4 => exact N7); (case k5 => k_asm); (case kC => exact C.keeps FG'.keep); (case kK => exact rfl))
        case bef => exact ⟨off_app off6 (off_fresh hl9), hne, ⟨_, hW4.mono fun p hp => upR _ (sub6 p hp), hrd4.mono fun p hp => upR _ (sub6 p hp)⟩, hcall.mono fun p hp => upR _ (sub6 p hp), tab6.mono upR, by simp only [List.length_append, List.length_cons, List.length_nil]; omega⟩
        case len => omega
        case kd => show dp + 1 + _ + 10 < _; omega
        case ku => show un + 3 + _ + 200 < _; omega
        · rw [hcl7]
          intro v9 d9 h8 tk8 wo8 cvs8 k8 ps8 D8 hd8 aft8 hv8 F8 N8
          try dsimp only
          walk_at "go"
          rename News h₀ L _ _ => kN
          obtain ⟨a1, a2, a3, a4, a5⟩ := aft8
          rw [hq] at ret
          exact ret v9 d9 h8 _ wo8 cvs8 k8 ps8 D8 hd8 ⟨fun p hp => a1 _ (upR _ (sub6 _ (sub4 p hp))), a2, a3, by rw [List.append_assoc] at a4; exact a4, a5⟩ hv8 (by k_asm) kN
        · rw [hcl7]
          intro f8 e8 a08 h8 tk8 wo8 cvs8 k8 ps8 D8 hb8 aft8 hX8
          refine exn_pass rfl rfl FG' (kts_self F3) hX8 ?_
          intro h88 hX88
          obtain ⟨a1, a2, a3, a4, a5⟩ := aft8
          rw [hq] at exc
          exact exc f8 e8 a08 h88 _ wo8 cvs8 k8 ps8 D8 hb8 ⟨fun p hp => a1 _ (upR _ (sub6 _ (sub4 p hp))), a2, a3, by rw [List.append_assoc] at a4; exact a4, a5⟩ hX88
      · refine (if_neg (show ¬(decide (6 < (x.fdiv 3).fmod 11) = true) by simpa using h6)).mpr ?_
        walk_at "go"
        k_dflt (refine' given_call ?k1 F3 ?k3 N4 ?k5 ?kK ?kd ?ku ?_; (case k1 => k_asm); (case k3 => k_asm); (case k5 => k_asm); (case kK => exact rfl); (case kd => ktr_room); (case ku => ktr_units))
        intro r9 tl9 h9' tk9 F9 N9 hl9 ho9
        try dsimp only
        walk_at "go"
        rename News h₀ L _ _ => kN
        have hq : stepS (pl, x) rp d dcs.length = ([callD d (pl, x) rp], .told (giv (fateOf x) dcs.length), rp.drop (takeOf x)) := by
          unfold stepS; rw [if_neg (show ¬ 8 < fateOf x by unfold fateOf; omega), if_neg (show ¬ 6 < fateOf x from h6)]
        rw [hq] at ret
        exact ret r9 _ h9' _ wo1 _ _ ps (tl9 ++ D4) rfl ⟨fun p hp => upR _ (sub4 p hp), off_app off4 (off_fresh hl9), ⟨_, hW4.mono upR, hrd4.mono upR⟩, hcall.mono upR, htab4.mono upR⟩ (ho9.mono upL) (by k_asm) (led_tab kN)
end Mine
end
section
open PySem PySem.W PyProof.Rows PySem.Spec PySem.Calls
namespace Mine
local macro_rules | `(tactic| k_mem) => `(tactic| first | exact List.Mem.head _ | (refine' List.Mem.tail _ ?_; k_mem) | assumption)
local macro_rules | `(tactic| walk_at "fence") => `(tactic| (with_reducible show wpAny _ _ (call (Value.ref _) _) _ _ _))
local macro_rules | `(tactic| walk_at "fence") => `(tactic| (with_reducible show wpAny _ _ (leaving _ _) _ _ _))
local macro_rules | `(tactic| walk_at "fence") => `(tactic| (with_reducible show (ite _ _ _)))
local macro_rules | `(tactic| walk_at "go") => `(tactic| repeat' ((fail_if_success (walk_at "fence")); (first | (k_unfold; (try dsimp only)) | walk1 | (dsimp only; walk1) | (leave1; walk_say "STEP leave1"; try dsimp only) | fail "no step")))
set_option maxRecDepth 100000 in
set_option maxHeartbeats 8000000 in
theorem lam_ok {w : World} {pg : Program} {loose : List Str} {mean : ExcName → Option Value} {mg mb : Str → Option Value} {n : Nat} (ih : StepOk w pg loose mean mg mb n) : LamOk w pg loose mean mg mb n := by
  unfold LamOk Does
  intro D wk cl wo cvs k ps rp dcs val d ta pl x t1 t2 tn f bef hn hlen1 hth hval hlam dp un gd cn cs a ccd cls outer A₀ base h₀ L m s Q E B F X N T C hk hd hu ret exc
  obtain ⟨qual, q1, q2, p1, p2, p3, p4, p5, p6, cw, cc, pm, c', ctv, oc, vs, t, ow, o2, mf, mc, dc, vc, mw, dw, mcc, dcc⟩ := hlam
  w_on
  revert X
  k_fill
  intro X
  have mf' := List.mem_cons_of_mem (wk, wo) (List.mem_cons_of_mem (cl, W.listOf cvs.toArray k) (List.mem_cons_of_mem (32, tabObj ps) mf))
  have mc' := List.mem_cons_of_mem (wk, wo) (List.mem_cons_of_mem (cl, W.listOf cvs.toArray k) (List.mem_cons_of_mem (32, tabObj ps) mc))
  refine wpAny_call ?_
  k_dflt (refine' kla_code B F X N T ?kA ?kF ?kK mf' (codeRec_news N mc' dc vc) ?k8 (binds := [("one", val), ("two", .ref ta)]) ?k9 ?kB ?_ ?c2 ?c3 ?c4 ?c5; (case kA => exact rfl); (case kF => exact rfl); (case kK => assumption); (case k8 => ktr_room); (case k9 => exact rfl); (case c5 => decide); (case kB => exact locs rfl); (case c2 => exact rfl); (case c3 => exact rfl); (case c4 => exact rfl); k_whole; intro g' L' h' FG' F' N' B' X' T'; (try dsimp only))
  walk_at "go"
  unfold StepOk Does at ih
  k_dflt (refine' ih D wk cl wo cvs k ps rp dcs val d ta pl x t1 t2 tn bef hn hlen1 hth hval ?k1 ?k2 ?k3 ?k4 ?k5 ?kC ?kK ?kd ?ku ?_ ?_; (case k1 => k_asm); (case k2 => k_asm); (case k3 => k_asm); (case k4 => exact N'); (case k5 => k_asm); (case kC => exact C.keeps FG'.keep); (case kK => exact rfl))
  case kd => show dp + 1 + _ + 10 < _; omega
  case ku => show un + 3 + _ + 200 < _; omega
  · intro v9 d9 h8 tk8 wo8 cvs8 k8 ps8 D8 hd8 aft8 hv8 F8 N8
    try dsimp only
    walk_at "go"
    rename News h₀ L _ _ => kN
    exact ret v9 d9 h8 _ wo8 cvs8 k8 ps8 D8 hd8 aft8 hv8 (by k_asm) kN
  · intro f8 e8 a08 h8 tk8 wo8 cvs8 k8 ps8 D8 hb8 aft8 hX8
    refine exn_pass rfl rfl FG' (kts_self F') hX8 ?_
    intro h88 hX88
    exact exc f8 e8 a08 h88 _ wo8 cvs8 k8 ps8 D8 hb8 aft8 hX88
end Mine
end
section
open PySem PySem.W PyProof.Rows PySem.Spec PySem.Calls
namespace Mine
section
variable {prog : Program} {w : World} {A : Around} {E : Value → Shared → Prop} {s : Shared} {D : List (Addr × Obj)} {v : Value} {d : Dat} {Q : Value → Shared → Prop}
/-- no datum is the mark of a missing start -/
theorem is_missing (hv : DatIn D v d) (hD : ∀ p ∈ D, s.heap.get? p.1 = some p.2) (h15 : s.heap.get? 15 = some { cls := .type "object" }) (hne : v ≠ .ref 15) (h : Q (.bool false) s) : wpAny (model prog w) A (compareOp .Is v (.ref 15)) Q E s := by
  show wpAny _ _ (isSame v (.ref 15) >>= fun b => pure (Value.bool b)) _ _ _
  refine wpAny_bind ?_
  have two : ∀ (a : Addr) (o : Obj), v = .ref a → s.heap.get? a = some o → wpAny (model prog w) A (isSame v (.ref 15)) (fun b s' => wpAny (model prog w) A (pure (Value.bool b)) Q E s') E s := by
    intro a o e ho
    subst e
    have hn : a ≠ 15 := fun q => hne (by rw [q])
    unfold isSame
    dsimp only
    rw [if_neg (show ¬ ((a == 15) = true) by simpa using hn)]
    refine wpAny_bind (wpAny_load ho (wpAny_bind (wpAny_load h15 ?_)))
    split <;> first | exact wpAny_pure (wpAny_pure h) | (rename_i h1 _ _; cases h1) | simp_all
  cases hv with
  | none => exact wpAny_pure (wpAny_pure h)
  | bool b => exact wpAny_pure (wpAny_pure h)
  | int i t => exact wpAny_pure (wpAny_pure h)
  | str x t => exact wpAny_pure (wpAny_pure h)
  | bytes b t => exact wpAny_pure (wpAny_pure h)
  | tuple hm _ => exact two _ _ rfl (hD _ hm)
  | list hm _ => exact two _ _ rfl (hD _ hm)
end
local macro_rules | `(tactic| k_mem) => `(tactic| first | exact List.Mem.head _ | (refine' List.Mem.tail _ ?_; k_mem) | assumption)
local macro_rules | `(tactic| walk_at "fence") => `(tactic| (with_reducible show wpAny _ _ (call (Value.ref _) _) _ _ _))
local macro_rules | `(tactic| walk_at "fence") => `(tactic| (with_reducible show wpAny _ _ (call (Value.builtin "iter") _) _ _ _))
local macro_rules | `(tactic| walk_at "fence") => `(tactic| (with_reducible show wpAny _ _ (pyIter _) _ _ _))
local macro_rules | `(tactic| walk_at "fence") => `(tactic| (with_reducible show wpAny _ _ (exec (Stmt.For _ _ _ _ _) _) _ _ _))
local macro_rules | `(tactic| walk_at "fence") => `(tactic| (with_reducible show wpAny _ _ (compareOp CmpOp.Is _ _) _ _ _))
local macro_rules | `(tactic| walk_at "fence") => `(tactic| (with_reducible show wpAny _ _ (leaving _ _) _ _ _))
local macro_rules | `(tactic| walk_at "fence") => `(tactic| (with_reducible show (Exists _)))
local macro_rules | `(tactic| walk_at "go") => `(tactic| repeat' ((fail_if_success (walk_at "fence")); (first | (k_unfold; (try dsimp only)) | walk1 | (dsimp only; walk1) | (leave1; walk_say "STEP leave1"; try dsimp only) | fail "no step")))
abbrev redScope : Scope := { kind := .function, names := [(Str.ofString "function", .local), (Str.ofString "sequence", .local), (Str.ofString "initial", .local), (Str.ofString "it", .local), (Str.ofString "value", .local), (Str.ofString "element", .local), (Str.ofString "iter", .globalImplicit), (Str.ofString "_initial_missing", .globalImplicit), (Str.ofString "next", .globalImplicit), (Str.ofString "StopIteration", .globalImplicit), (Str.ofString "TypeError", .globalImplicit)], isGenerator := false, isCoroutine := false, more := [] }
abbrev redEnv (L' : Addr) : Env := envOf (Str.ofString "reduce") redScope L' 23 (.ref 22)
abbrev redTurn : List Stmt := [.Assign [.Name (Str.ofString "value") ⟨13, 8, 13, 13⟩] (.Call (.Name (Str.ofString "function") ⟨13, 16, 13, 24⟩) [.Name (Str.ofString "value") ⟨13, 25, 13, 30⟩, .Name (Str.ofString "element") ⟨13, 32, 13, 39⟩] [] ⟨13, 16, 13, 40⟩) ⟨13, 8, 13, 40⟩]
set_option maxRecDepth 100000 in
set_option maxHeartbeats 8000000 in
theorem loop_ok {w : World} {pg : Program} {loose : List Str} {mean : ExcName → Option Value} {mg mb : Str → Option Value} {n : Nat} (ih : ∀ m, m < n → LamOk w pg loose mean mg mb m)
    {dp un : Nat} {gd : Option (List Code)} {cn : Str} {cs : Scope} {a : Addr} {ccd : Value} {cls : List (Str × Addr)} {outer : List Env} {base g' : Heap} {L L' : Addr} {s : Shared} {R : Result → Shared → Prop}
    {D : List (Addr × Obj)} {wk cl f : Addr} {wo : Obj} {cvs : List Value} {k : Nat} {ps : Array Value} {rp : List (Int × Int)} {dcs : List Dat} {val : Value} {d : Dat} {m' : Str → Option Value}
    (bef : Bef D wk cl wo cvs ps rp dcs) (hn : rp.length ≤ n) (hval : DatIn D val d) (hlam : LamIn D wk cl f)
    (B' : Below (ktrTop dp un gd cn cs L a ccd cls outer) base (envX cn cs L a ccd cls :: outer) g') (F' : Fr g' L' s.heap m') (X' : (Mine.hd.heap_39 w.params).In g') (N' : News g' L' s.heap (Led wk wo cl cvs k ps D)) (T' : Top pg loose mean mg mb g') (C' : CodeHd g' 34 32)
    (hv : m' (Str.ofString "value") = some val) (hf : m' (Str.ofString "function") = some (.ref f))
    (hd : dp + 4 * rp.length + 10 < recursionLimit) (hu : un + 16 * (4 * rp.length) + 200 < cLine)
    (done : ∀ v d' h' tk' wo' cvs' k' ps' D' m2, (restS rp d dcs.length).2.1 = .told d' → Aft D wk cl dcs (restS rp d dcs.length) wo' cvs' ps' D' → DatIn D' v d' → Fr g' L' h' m2 → m2 (Str.ofString "value") = some v → News g' L' h' (Led wk wo' cl cvs' k' ps' D') → R (.ok .next) { s with heap := h', toks := tk' })
    (fail : ∀ f' e a0 h' tk' wo' cvs' k' ps' D' m2, (restS rp d dcs.length).2.1 = .broken f' → Aft D wk cl dcs (restS rp d dcs.length) wo' cvs' ps' D' → Held base g' L' m2 (redEnv L' :: envX cn cs L a ccd cls :: outer) e (.type (excN f')) a0 (Led wk wo' cl cvs' k' ps' D') h' → R (.error (.ref e)) { s with heap := h', toks := tk' }) :
    codeAny (model PySem.Challenge.rw_dz0035_01.row.prog w) ((ktrTop dp un gd cn cs L a ccd cls outer).deeper (redEnv L')) (.forLoop (.Name (Str.ofString "element") ⟨12, 8, 12, 15⟩) (.ref wk) redTurn [] (redEnv L')) R s := by
  w_on
  revert X'
  k_fill
  intro X'
  refine codeAny_forLoop (I := fun n9 s9 => ∃ D9 wo9 cvs9 k9 ps9 rp9 dcs9 v9 d9 m9 h9 tk9, s9 = { s with heap := h9, toks := tk9 } ∧ n9 = rp9.length ∧ rp9.length ≤ rp.length ∧ Bef D9 wk cl wo9 cvs9 ps9 rp9 dcs9 ∧ DatIn D9 v9 d9 ∧ LamIn D9 wk cl f ∧ (∀ p ∈ D, p ∈ D9) ∧ Fr g' L' h9 m9 ∧ m9 (Str.ofString "value") = some v9 ∧ m9 (Str.ofString "function") = some (.ref f) ∧ News g' L' h9 (Led wk wo9 cl cvs9 k9 ps9 D9) ∧
      ∃ dn, dcs9 = dcs ++ dn ∧ restS rp d dcs.length = (dn ++ (restS rp9 d9 dcs9.length).1, (restS rp9 d9 dcs9.length).2.1, (restS rp9 d9 dcs9.length).2.2)) ?turn rp.length ⟨D, wo, cvs, k, ps, rp, dcs, val, d, m', s.heap, s.toks, rfl, rfl, Nat.le_refl _, bef, hval, hlam, fun p hp => hp, F', hv, hf, N', [], (List.append_nil _).symm, rfl⟩
  intro n9 s9 hI
  obtain ⟨D9, wo9, cvs9, k9, ps9, rp9, dcs9, v9, d9, m9, h9, tk9, rfl, rfl, hle, bef9, hval9, hlam9, sub9, F9, hv9, hf9, N9, dn, hdn, hspec⟩ := hI
  obtain ⟨off9, ne9, ⟨rem9, hW9, hrd9⟩, hcd9, tab9, hlen9⟩ := bef9
  refine pyNext_wk rfl hW9 (fun p hp => News.get N9 (List.mem_cons_of_mem _ (List.mem_cons_of_mem _ (List.mem_cons_of_mem _ hp)))) (News.get N9 (.head _)) ?_
  intro h8 o8 hs8 hi8 hW8
  have U9 : UpdF wk wo9 (Led wk wo9 cl cvs9 k9 ps9 D9) (fun o => Led wk o cl cvs9 k9 ps9 D9) := .head (List.forall_mem_cons.mpr ⟨fun e => ne9.1 e.symm, List.forall_mem_cons.mpr ⟨fun e => ne9.2.1 e.symm, off1 off9⟩⟩)
  obtain ⟨F8, N8⟩ := upd_ext F9 N9 U9 hs8 hi8
  cases rp9 with
  | nil =>
    cases hrd9
    rw [restS_nil] at hspec
    dsimp only [List.head?]
    walk_at "go"
    have hq : (restS rp d dcs.length).2.1 = .told d9 := by rw [hspec]
    refine done v9 d9 _ _ o8 cvs9 k9 ps9 D9 m9 hq ⟨sub9, off9, ⟨[], hW8, by rw [hspec]; exact .nil⟩, by rw [hspec, List.append_nil, ← hdn]; exact hcd9, tab9⟩ hval9 F8 hv9 N8
  | cons p9 rp9 =>
    cases hrd9 with
    | @cons th vr _ _ hth hvr =>
    dsimp only [List.head?, List.tail] at hW8 ⊢
    obtain ⟨pl, x⟩ := p9
    cases hth with
    | @list ta tvs tn _ htm htv =>
    cases htv with
    | @cons v1 tv1 _ _ h1 htv =>
    cases htv with
    | @cons v2 tv2 _ _ h2 htv =>
    cases htv
    cases h1 with
    | int _ t1 =>
    cases h2 with
    | int _ t2 =>
    obtain ⟨qual, q1, q2, p1, p2, p3, p4, p5, p6, cw, cc, pm, c', ctv, oc, vs, t, ow, o2, mf, mc, dc, vc, mw, dw, mcc, dcc⟩ := id hlam9
    walk_at "go"
    refine ld (v := .ref f) (by k_asm) ((if_neg (show ¬ (Str.ofString "function" = Str.ofString "element") by decide)).trans hf9) ?_
    walk_at "go"
    refine ld (v := v9) (by k_asm) ((if_neg (show ¬ (Str.ofString "value" = Str.ofString "element") by decide)).trans hv9) ?_
    walk_at "go"
    have hlt9 : rp9.length < n := by simp only [List.length_cons] at hle; omega
    have ih9 := ih rp9.length hlt9
    unfold LamOk Does at ih9
    have hcl9 : rp9.length + 1 ≤ rp.length := hle
    have hl63 : dcs9.length + rp9.length + 1 ≤ 63 := by simp only [List.length_cons] at hlen9; omega
    k_dflt (refine' ih9 D9 wk cl o8 cvs9 k9 ps9 rp9 dcs9 v9 d9 ta pl x t1 t2 tn f ⟨off9, ne9, ⟨vr, hW8, hvr⟩, hcd9, tab9, by omega⟩ (Nat.le_refl _) hl63 htm hval9 hlam9 ?k1 ?k2 ?k3 ?k4 ?k5 C' ?kK ?kd ?ku ?_ ?_; (case k1 => k_asm); (case k2 => k_asm); (case k3 => k_asm); (case k4 => k_asm); (case k5 => k_asm); (case kK => exact rfl))
    case kd => show dp + 1 + _ + 10 < _; omega
    case ku => show un + 3 + _ + 200 < _; omega
    · intro v7 d7 h7 tk7 wo7 cvs7 k7 ps7 D7 hd7 aft7 hv7 F7 N7
      try dsimp only
      walk_at "go"
      rename Fr g' L' _ (fun _ => _) => F6
      rename News g' L' _ (Led wk wo7 cl cvs7 k7 ps7 D7) => N6
      obtain ⟨a1, a2, a3, a4, a5⟩ := aft7
      have hsl := stepS_len (pl, x) rp9 d9 dcs9.length
      have hst := restS_told hd7
      refine ⟨(stepS (pl, x) rp9 d9 dcs9.length).2.2.length, by simp only [List.length_cons]; omega, D7, wo7, cvs7, k7, ps7, (stepS (pl, x) rp9 d9 dcs9.length).2.2, dcs9 ++ (stepS (pl, x) rp9 d9 dcs9.length).1, v7, d7, _, _, _, rfl, rfl, by omega, ⟨a2, ne9, a3, a4, a5, by rw [List.length_append]; omega⟩, hv7, hlam9.mono a1, fun p hp => a1 _ (sub9 p hp), F6, ?_, ?_, N6, dn ++ (stepS (pl, x) rp9 d9 dcs9.length).1, by rw [hdn, List.append_assoc], ?_⟩
      · exact if_pos rfl
      · exact (if_neg (show ¬ (Str.ofString "function" = Str.ofString "value") by decide)).trans ((if_neg (show ¬ (Str.ofString "function" = Str.ofString "element") by decide)).trans hf9)
      · rw [hspec, hst, List.append_assoc]
        rw [List.length_append]
        rfl
    · intro f8 e8 a08 h7 tk7 wo7 cvs7 k7 ps7 D7 hb7 aft7 hX7
      obtain ⟨a1, a2, a3, a4, a5⟩ := aft7
      have hst := restS_broken hb7
      rw [hst] at hspec
      have hq : (restS rp d dcs.length).2.1 = .broken f8 := by rw [hspec]; exact hb7
      refine exn_noted rfl rfl hX7 ?_
      intro h6 hH6
      refine fail f8 e8 a08 h6 _ wo7 cvs7 k7 ps7 D7 _ hq ⟨fun p hp => a1 _ (sub9 p hp), a2, ?_, ?_, a5⟩ hH6
      · rw [hspec]; exact a3
      · rw [hspec]; dsimp only; rw [← List.append_assoc, ← hdn]; exact a4
set_option maxRecDepth 100000 in
set_option maxHeartbeats 8000000 in
theorem red_ok {w : World} {pg : Program} {loose : List Str} {mean : ExcName → Option Value} {mg mb : Str → Option Value} {n : Nat} (ih : ∀ m, m < n → LamOk w pg loose mean mg mb m) : RedOk w pg loose mean mg mb n := by
  unfold RedOk Does
  intro D wk cl wo cvs k ps rp dcs val d f bef hn hval h15 hlam dp un gd cn cs a ccd cls outer A₀ base h₀ L m s Q E B F X N T C hk hd hu ret exc
  w_on
  revert X
  k_fill
  intro X
  refine wpAny_call ?_
  k_dflt (refine' code_def ?k1 ?k2 ?k3 ?k4 ?k5 ?kA ?kF ?kK ?k6 ?k7 ?k8 (binds := [("function", .ref f), ("sequence", .ref wk), ("initial", val)]) ?k9 ?kB ?_ ?c2 ?c3 ?c4 ?c5; (case kA => exact rfl); (case kF => exact rfl); (case kK => assumption); (case k1 => k_asm); (case k2 => k_asm); (case k3 => k_asm); (case k4 => k_asm); (case k5 => k_asm); (case k6 => k_is); (case k7 => k_is); (case k8 => ktr_room); (case k9 => first | exact BindsTo.of_eq rfl | exact binds_K (by k_in) rfl (by k_is) rfl rfl rfl); (case c5 => decide); (case kB => exact locs rfl); (case c2 => exact rfl); (case c3 => exact rfl); (case c4 => exact rfl); k_whole; intro g' L' h' FG' F' N' B' X' T'; (try dsimp only))
  walk_at "go"
  obtain ⟨rem, hW, hrd⟩ := bef.wkr
  refine iter_wk (News.get N' (.head _)) hW.cls ?_
  walk_at "go"
  refine is_missing hval (fun p hp => News.get (by k_asm) (List.mem_cons_of_mem _ (List.mem_cons_of_mem _ (List.mem_cons_of_mem _ hp)))) ((X'.keeps (Fr.keep (by k_asm))) 15 _ (by k_is)) h15 ?_
  walk_at "go"
  refine wpAny_For ?_
  walk_at "go"
  refine pyIter_wk (News.get (by k_asm) (.head _)) hW.cls ?_
  rename Fr g' L' _ _ => F2
  rename News g' L' _ _ => N2
  k_dflt (refine loop_ok ih bef hn hval hlam B' F2 X' N2 T' (C.keeps FG'.keep) rfl rfl hd hu ?done ?fail)
  case done =>
    intro v9 d9 h9 tk9 wo9 cvs9 k9 ps9 D9 m9 hq aft hv9 F9 hm9 N9
    try dsimp only
    walk_at "go"
    refine ld (by k_asm) hm9 ?_
    walk_at "go"
    rename News h₀ L _ _ => kN
    exact ret v9 d9 h9 _ wo9 cvs9 k9 ps9 D9 hq aft hv9 (by k_asm) kN
  case fail =>
    intro f9 e9 a9 h9 tk9 wo9 cvs9 k9 ps9 D9 m9 hq aft hH
    refine held_came rfl hH ?_
    intro h8 hH8
    refine held_leave rfl FG' (kts_self F2) hH8 ?_
    intro h7 hX7
    exact exc f9 e9 a9 h7 _ wo9 cvs9 k9 ps9 D9 hq aft hX7
theorem all_ok {w : World} {pg : Program} {loose : List Str} {mean : ExcName → Option Value} {mg mb : Str → Option Value} : ∀ n, RedOk w pg loose mean mg mb n ∧ LamOk w pg loose mean mg mb n := by
  intro n
  induction n using Nat.strongRecOn with
  | ind n ih =>
    have h1 : RedOk w pg loose mean mg mb n := red_ok fun m hm => (ih m hm).2
    exact ⟨h1, lam_ok (step_ok h1)⟩
end Mine
end
section
open PySem PySem.W PyProof.Rows PySem.Spec PySem.Calls
namespace Mine
/-- behind a caught exception: the ground anew (the outer frames' slots may have turned), the frame and the ledger upon it -/
theorem exn_ground {A₀ : Around} {base g h : Heap} {env : Env} {outer : List Env} {L e : Addr} {m : Str → Option Value} {cls a0 : Value} {news : List (Addr × Obj)}
    (X : Exn base g L m (env :: outer) e cls a0 news h) (hf : env.frame = some L) (K : Below A₀ base outer g) (ha : g.objs.size ≤ L) :
    ∃ g', KtsTurn (outer.filterMap (·.frame)) g g' ∧ Fr g' L h m ∧ Below A₀ base outer g' ∧ News g' L h news := by
  obtain ⟨⟨B, hB, hg, hn, hfl⟩, hn', hu, hns⟩ := X
  have hL : g.get? L = none := Heap.get?_none_of_le ha
  obtain ⟨T, S⟩ := kts_turn_at (h := h) (fs := outer.filterMap (·.frame)) (g := g)
    (fun b hb => by
      obtain ⟨_, o, ho, _⟩ := K.frames.mem hb
      exact ⟨o, ho⟩)
    (fun b o e' nm => hfl.1 b o (hg b o e' (fun hm => by
      rcases frames_cons hf hm with z | z
      · rw [z, hL] at e'; cases e'
      · exact nm z)))
    (fun b o e' hm => by
      obtain ⟨_, o', ho', hd⟩ := K.frames.mem hm
      rw [e'] at ho'
      cases ho'
      exact hu b o e' hd)
  refine ⟨_, T, ⟨hns, S, by rw [T.size]; exact ha⟩, ⟨K.stack, fun b o e' => T.other b o (K.stays b o e') (fun hm => by rw [(K.frames.mem hm).1] at e'; cases e'), K.frames.of_keeps fun b o e' _ => ?_⟩, fun q hq => ⟨hfl.1 _ _ (hn q hq), (hn' q hq).1, T.none_ _ (hn' q hq).2⟩⟩
  obtain ⟨sl, hs⟩ := T.up e'
  exact ⟨_, hs, rfl⟩

/-- an exception that is made in this frame and not yet noted anywhere -/
def Made (base g : Heap) (L : Addr) (m : Str → Option Value) (fr : List Env) (e : Addr) (cls a0 : Value) (news : List (Addr × Obj)) (h : Heap) : Prop :=
  (∃ (B : Heap) (oe : Obj) (vs : Array Value), base.StaysIn B ∧ (∀ b o, g.get? b = some o → b ∉ fr.filterMap (·.frame) → B.get? b = some o) ∧ (∀ q ∈ news, B.get? q.1 = some q.2) ∧ B.StaysIn h ∧ B.get? e = none ∧ h.FunFrames B fr ∧
    h.get? e = some oe ∧ oe.cls = cls ∧ oe.data = .fields vs ∧ vs[0]? = some a0 ∧ vs[1]? = some .none) ∧ (∀ q ∈ news, q.1 ≠ L ∧ g.get? q.1 = none) ∧ g.UpToSlots h ∧ h.Ns L m
section
variable {M : Model} {A : Around} {E : Value → Shared → Prop} {s' : Shared} {base h₀ g h : Heap} {env env' : Env} {outer : List Env} {L L' e : Addr} {m m' : Str → Option Value} {cls a0 : Value} {news : List (Addr × Obj)} {Q : Unit → Shared → Prop} {K : Value → Shared → Prop}
/-- made from a frame's own state -/
theorem made_of {oe : Obj} {vs : Array Value} (B' : Below A base outer g) (hf : env.frame = some L) (hk : env.scope.kind = .function) (F : Fr g L h m) (N : News g L h news) {h' : Heap} (hkeep : ∀ b o, h.get? b = some o → h'.get? b = some o) (hnew : h.get? e = none)
    (he : h'.get? e = some oe) (hc : oe.cls = cls) (hd : oe.data = .fields vs) (h0 : vs[0]? = some a0) (h1 : vs[1]? = some .none) : Made base g L m (env :: outer) e cls a0 news h' := by
  have K' := pushX (env := env) B' F hf hk
  have hL : g.get? L = none := kts_self F
  have hin : ∀ env₁ ∈ (env :: outer), ∀ b, env₁.frame = some b → b ∈ (env :: outer).filterMap (·.frame) := fun env₁ he b hb => List.mem_filterMap.mpr ⟨env₁, he, hb⟩
  have hmem : ∀ q ∈ news, q.1 ∉ (env :: outer).filterMap (·.frame) := fun q hq hb => by
    rcases frames_cons hf hb with z | z
    · exact (N q hq).2.1 z
    · obtain ⟨_, o, ho, _⟩ := B'.frames.mem z
      rw [(N q hq).2.2] at ho; cases ho
  obtain ⟨oL, a1, a2, hoL, a3⟩ := F.ns
  refine ⟨⟨hideAll h ((env :: outer).filterMap (·.frame)), oe, vs, fun b o q => hideAll_get _ (K'.stays b o q) fun hm => ?_, fun b o hb nm => hideAll_get _ (F.keep b o hb) nm, fun q hq => hideAll_get _ (N q hq).1 (hmem q hq), fun b o q => hkeep b o (of_hideAll _ q), none_of_stays (fun b o q => of_hideAll _ q) hnew, (funFrames_hide K'.frames hin).of_keeps fun b o hb _ => ⟨o, hkeep b o hb, rfl⟩, he, hc, hd, h0, h1⟩, fun q hq => (N q hq).2, Heap.UpToSlots.of_keeps fun b o q => hkeep b o (F.keep b o q), ⟨oL, a1, a2, hkeep _ _ hoL, a3⟩⟩
  rw [(K'.frames.mem hm).1] at q; cases q
/-- noted for the first time -/
theorem made_noted (hfr : A.frames = some (env :: outer)) (hf : env.frame = some L) (X : Made base g L m (env :: outer) e cls a0 news s'.heap)
    (hK : ∀ h', Held base g L m (env :: outer) e cls a0 news h' → Q () { s' with heap := h' }) : wpAny M A (noteFrame (.ref e) env) Q E s' := by
  obtain ⟨⟨B, oe, vs, hB, hg, hn, hst, hen, hff, he, hc, hd, h0, h1⟩, hn', hu, hns⟩ := X
  unfold noteFrame
  simp only [hf]
  refine wpAny_bind (wpAny_field he hd h1 ?_)
  rw [if_neg (by decide)]
  refine wpAny_entryW hfr hff hf he hst hen hd (Array.getElem?_eq_some_iff.mp h1).1 h0 fun h' hN => ?_
  obtain ⟨k1, k2, k3, k4⟩ := hN
  rw [hc] at k3
  exact hK h' ⟨⟨B, hB, hg, hn, ⟨k1, hen, k2, k3⟩⟩, hn', hu.trans k4, Heap.UpToSlots.ns k4 hns⟩
/-- a held exception is let go on: it flies again in this frame -/
theorem held_lands (X : Held base g L m (env :: outer) e cls a0 news s'.heap) (hK : ∀ h', Exn base g L m (env :: outer) e cls a0 news h' → Q () { s' with heap := h' }) : wpAny M A (setFlight (.ref e) none) Q E s' := by
  obtain ⟨⟨B, hB, hg, hn, hh⟩, hn', hu, hns⟩ := X
  exact wpAny_landsW hh fun h' hfl hs => hK h' ⟨⟨B, hB, hg, hn, hfl⟩, hn', hu.trans hs, hs.ns hns⟩
theorem exn_lands (X : Exn base g L m (env :: outer) e cls a0 news s'.heap) (hK : ∀ h', Exn base g L m (env :: outer) e cls a0 news h' → Q () { s' with heap := h' }) : wpAny M A (setFlight (.ref e) none) Q E s' := by
  obtain ⟨⟨B, hB, hg, hn, hfl⟩, hn', hu, hns⟩ := X
  exact lands_againW hfl fun h' hfl hs => hK h' ⟨⟨B, hB, hg, hn, hfl⟩, hn', hu.trans hs, hs.ns hns⟩
end
end Mine
end
section
open PySem PySem.W PyProof.Rows PySem.Spec PySem.Calls
namespace Mine
local macro_rules | `(tactic| k_mem) => `(tactic| first | exact List.Mem.head _ | (refine' List.Mem.tail _ ?_; k_mem) | assumption)
local macro_rules | `(tactic| walk_at "fence") => `(tactic| (with_reducible show wpAny _ _ (call (Value.ref _) _) _ _ _))
local macro_rules | `(tactic| walk_at "fence") => `(tactic| (with_reducible show wpAny _ _ (call (Value.builtin "iter") _) _ _ _))
local macro_rules | `(tactic| walk_at "fence") => `(tactic| (with_reducible show wpAny _ _ (pyIter _) _ _ _))
local macro_rules | `(tactic| walk_at "fence") => `(tactic| (with_reducible show wpAny _ _ (exec (Stmt.For _ _ _ _ _) _) _ _ _))
local macro_rules | `(tactic| walk_at "fence") => `(tactic| (with_reducible show wpAny _ _ (compareOp CmpOp.Is _ _) _ _ _))
local macro_rules | `(tactic| walk_at "fence") => `(tactic| (with_reducible show wpAny _ _ (leaving _ _) _ _ _))
local macro_rules | `(tactic| walk_at "fence") => `(tactic| (with_reducible show (Exists _)))
local macro_rules | `(tactic| walk_at "go") => `(tactic| repeat' ((fail_if_success (walk_at "fence")); (first | (k_unfold; (try dsimp only)) | walk1 | (dsimp only; walk1) | (leave1; walk_say "STEP leave1"; try dsimp only) | fail "no step")))
local macro_rules | `(tactic| walk_at "fence") => `(tactic| (with_reducible show wpAny _ _ (exec (Stmt.Try _ _ _ _ _) _) _ _ _))
local macro_rules | `(tactic| walk_at "fence") => `(tactic| (with_reducible show wpAny _ _ (exec (Stmt.Raise _ _ _) _) _ _ _))
local macro_rules | `(tactic| walk_at "fence") => `(tactic| (with_reducible show wpAny _ _ (call (Value.builtin "next") _) _ _ _))
local macro_rules | `(tactic| walk_at "fence") => `(tactic| (with_reducible show wpAny _ _ (handleBy _ _ _) _ _ _))
local macro_rules | `(tactic| walk_at "fence") => `(tactic| (with_reducible show wpAny _ _ (noteFrame _ _) _ _ _))
set_option maxRecDepth 100000 in
set_option maxHeartbeats 8000000 in
/-- without a start: the first thing is the start -/
theorem red_first {w : World} {pg : Program} {loose : List Str} {mean : ExcName → Option Value} {mg mb : Str → Option Value} {D wk cl wo cvs k ps p r dcs f} (bef : Bef D wk cl wo cvs ps (p :: r) dcs) (hlam : LamIn D wk cl f) :
    Does w pg loose mean mg mb (4 * r.length) (restS r (thD p) dcs.length) (call (.ref 23) [.ref f, .ref wk]) D wk cl wo cvs k ps dcs := by
  unfold Does
  intro dp un gd cn cs a ccd cls outer A₀ base h₀ L m s Q E B F X N T C hk hd hu ret exc
  w_on
  revert X
  k_fill
  intro X
  refine wpAny_call ?_
  k_dflt (refine' code_def ?k1 ?k2 ?k3 ?k4 ?k5 ?kA ?kF ?kK ?k6 ?k7 ?k8 (binds := [("function", .ref f), ("sequence", .ref wk), ("initial", .ref 15)]) ?k9 ?kB ?_ ?c2 ?c3 ?c4 ?c5; (case kA => exact rfl); (case kF => exact rfl); (case kK => assumption); (case k1 => k_asm); (case k2 => k_asm); (case k3 => k_asm); (case k4 => k_asm); (case k5 => k_asm); (case k6 => k_is); (case k7 => k_is); (case k8 => ktr_room); (case k9 => first | exact BindsTo.of_eq rfl | exact binds_K (by k_in) rfl (by k_is) rfl rfl rfl); (case c5 => decide); (case kB => exact locs rfl); (case c2 => exact rfl); (case c3 => exact rfl); (case c4 => exact rfl); k_whole; intro g' L' h' FG' F' N' B' X' T'; (try dsimp only))
  walk_at "go"
  obtain ⟨rem, hW, hrd⟩ := bef.wkr
  cases hrd with
  | @cons th vr _ _ hth hvr =>
  refine iter_wk (News.get N' (.head _)) hW.cls ?_
  walk_at "go"
  refine wpAny_is_ref_self ?_
  walk_at "go"
  refine wpAny_Try_except ?_
  walk_at "go"
  rename Fr g' L' _ _ => F2
  rename News g' L' _ _ => N2
  have U : UpdF wk wo (Led wk wo cl cvs k ps D) (fun o => Led wk o cl cvs k ps D) := .head (List.forall_mem_cons.mpr ⟨fun e => bef.ne.1 e.symm, List.forall_mem_cons.mpr ⟨fun e => bef.ne.2.1 e.symm, off1 bef.off⟩⟩)
  refine next1_wk rfl F2 N2 U hW (fun p hp => List.mem_cons_of_mem _ (List.mem_cons_of_mem _ (List.mem_cons_of_mem _ hp))) ?_
  intro h3 o3 F3 N3 hW3
  walk_at "go"
  refine wpAny_For ?_
  walk_at "go"
  rename Fr g' L' _ _ => F2
  rename News g' L' _ _ => N2
  refine pyIter_wk (News.get N2 (.head _)) hW3.cls ?_
  k_dflt (refine loop_ok (fun m _ => (all_ok m).2) ⟨bef.off, bef.ne, ⟨vr, hW3, hvr⟩, bef.calls, bef.tab, by have := bef.len; simp only [List.length_cons] at this; omega⟩ (Nat.le_refl _) hth hlam B' F2 X' N2 T' (C.keeps FG'.keep) rfl rfl hd hu ?done ?fail)
  case done =>
    intro v9 d9 h9 tk9 wo9 cvs9 k9 ps9 D9 m9 hq aft hv9 F9 hm9 N9
    try dsimp only
    walk_at "go"
    refine ld (by k_asm) hm9 ?_
    walk_at "go"
    rename News h₀ L _ _ => kN
    exact ret v9 d9 h9 _ wo9 cvs9 k9 ps9 D9 hq aft hv9 (by k_asm) kN
  case fail =>
    intro f9 e9 a9 h9 tk9 wo9 cvs9 k9 ps9 D9 m9 hq aft hH
    refine held_came rfl hH ?_
    intro h8 hH8
    refine held_leave rfl FG' (kts_self F2) hH8 ?_
    intro h7 hX7
    exact exc f9 e9 a9 h7 _ wo9 cvs9 k9 ps9 D9 hq aft hX7
end Mine
end
section
open PySem PySem.W PyProof.Rows PySem.Spec PySem.Calls
namespace Mine
/-- the exception stands there, with no context of its own -/
def Alone (e : Addr) (h : Heap) : Prop := ∃ o vs, h.get? e = some o ∧ o.data = .fields vs ∧ vs[2]? = some .none
section
variable {M : Model} {A : Around} {E : Value → Shared → Prop} {s' : Shared} {base h₀ g h : Heap} {env env' : Env} {outer : List Env} {L L' e : Addr} {m m' : Str → Option Value} {cls a0 : Value} {news : List (Addr × Obj)} {Q : Unit → Shared → Prop} {K : Value → Shared → Prop}
theorem lands_same {B : Heap} {l : List Env} {fl : Value} (f1 : B.StaysIn s'.heap) (f2 : B.get? e = none) (f3 : s'.heap.FunFrames B l) (f4 : s'.heap.TracedAtW B e cls a0 fl)
    (hQ : ∀ h', Heap.FlyingW B l e cls a0 h' → s'.heap.UpToSlots h' → h'.get? e = s'.heap.get? e → Q () { s' with heap := h' }) : wpAny M A (setFlight (.ref e) none) Q E s' := by
  obtain ⟨oe, vs, T, oT, ts, he, hcls, hd, h1, hnT, hTe, hT, hdT, h3⟩ := f4
  have hsz3 : 3 < ts.size := (Array.getElem?_eq_some_iff.mp h3).1
  have other : ∀ b, b ≠ T → (s'.heap.update T (Obj.mapFields (·.setIfInBounds 3 ((none : Option Addr).elim Value.none fun f => rawInt f)))).get? b = s'.heap.get? b :=
    fun b hb => Heap.get?_update_other _ _ (Ne.symm hb)
  have noRecord : ∀ b o, s'.heap.get? b = some o → (∀ vs, o.data ≠ .fields vs) → b ≠ T := fun b o hb hnf q => by
    rw [q, hT] at hb; injection hb with hb; subst hb; exact hnf ts hdT
  unfold setFlight
  refine wpAny_bind (wpAny_field he hd h1 ?_)
  rw [if_pos (show (Value.ref T != Value.none) = true from by simp)]
  refine wpAny_setField hT hdT hsz3 (hQ _ ⟨fun b o hbo => (other b fun q => by rw [q, hnT] at hbo; cases hbo).trans (f1 b o hbo), f2,
    f3.of_keeps fun b o hb hnf => ⟨o, (other b (noRecord b o hb hnf)).trans hb, rfl⟩, ?_⟩ (fun b o hb hnf => ⟨o.slots, (other b (noRecord b o hb hnf)).trans hb⟩) (other e (Ne.symm hTe)))
  exact ⟨oe, vs, T, _, _, (other e (Ne.symm hTe)).trans he, hcls, hd, h1, hnT, hTe, Heap.get?_update_self _ hT (Obj.isFreed_of_fields (Obj.data_mapFields hdT _)), Obj.data_mapFields hdT _, by simp [hsz3]⟩
theorem alone_of_eq {h h' : Heap} (q : h'.get? e = h.get? e) (x : Alone e h) : Alone e h' := by
  obtain ⟨o, vs, a, b⟩ := x
  exact ⟨o, vs, q.trans a, b⟩
theorem held_lands2 (X : Held base g L m (env :: outer) e cls a0 news s'.heap) (al : Alone e s'.heap) (hK : ∀ h', Exn base g L m (env :: outer) e cls a0 news h' → Alone e h' → Q () { s' with heap := h' }) : wpAny M A (setFlight (.ref e) none) Q E s' := by
  obtain ⟨⟨B, hB, hg, hn, f1, f2, f3, f4⟩, hn', hu, hns⟩ := X
  exact lands_same f1 f2 f3 f4 fun h' hfl hs q => hK h' ⟨⟨B, hB, hg, hn, hfl⟩, hn', hu.trans hs, hs.ns hns⟩ (alone_of_eq q al)
theorem exn_lands2 (X : Exn base g L m (env :: outer) e cls a0 news s'.heap) (al : Alone e s'.heap) (hK : ∀ h', Exn base g L m (env :: outer) e cls a0 news h' → Alone e h' → Q () { s' with heap := h' }) : wpAny M A (setFlight (.ref e) none) Q E s' := by
  obtain ⟨⟨B, hB, hg, hn, f1, f2, f3, f4⟩, hn', hu, hns⟩ := X
  exact lands_same f1 f2 f3 f4.at fun h' hfl hs q => hK h' ⟨⟨B, hB, hg, hn, hfl⟩, hn', hu.trans hs, hs.ns hns⟩ (alone_of_eq q al)
/-- noted for the first time, and still with no context -/
theorem made_noted2 (hfr : A.frames = some (env :: outer)) (hf : env.frame = some L) (X : Made base g L m (env :: outer) e cls a0 news s'.heap) (al : Alone e s'.heap)
    (hK : ∀ h', Held base g L m (env :: outer) e cls a0 news h' → Alone e h' → Q () { s' with heap := h' }) : wpAny M A (noteFrame (.ref e) env) Q E s' := by
  obtain ⟨⟨B, oe, vs, hB, hg, hn, hst, hen, hff, he, hc, hd, h0, h1⟩, hn', hu, hns⟩ := X
  obtain ⟨oe', vs', he', hd', h2⟩ := al
  rw [he] at he'; cases he'
  rw [hd] at hd'; cases hd'
  have hsz : 1 < vs.size := (Array.getElem?_eq_some_iff.mp h1).1
  have hene : e ∉ (env :: outer).filterMap (·.frame) := fun hm => by
    obtain ⟨_, o, ho, hnf⟩ := hff.mem hm
    rw [he] at ho; injection ho with ho; subst ho; exact hnf vs hd
  unfold noteFrame
  simp only [hf]
  refine wpAny_bind (wpAny_field he hd h1 ?_)
  rw [if_neg (by decide)]
  refine wpAny_bind (wpAny_frameOf_fun hfr hff hf fun h₁ hs₁ => ?_)
  refine wpAny_bind (wpAny_entryPlaceOf fun pl hpl => ?_)
  unfold EntryCells.newEntry newFields
  refine wpAny_bind (wpAny_newObj_type ?_ (hpl.sizeOk5 _ _ _ _ _))
  have he₁ : h₁.get? e = some oe := (hs₁.2.1 e hene).trans he
  have kb₁ : B.StaysIn h₁ := fun b o hbo => (hs₁.2.1 b fun hm => by rw [(hff.mem hm).1] at hbo; cases hbo).trans (hst b o hbo)
  generalize hob : (Obj.mk _ _ _ _ : Obj) = ob
  have he₂ := Heap.get?_push_of_some (h := h₁) ob he₁
  have hobd : ∃ ts, ob.data = .fields ts ∧ ts[3]? = some (rawInt L) := by
    subst hob
    exact ⟨_, rfl, by first | (simp; done) | (rcases hpl with rfl | ⟨_, _, _, _, _, _, _, rfl⟩ <;> simp)⟩
  obtain ⟨ts, hts, ht3⟩ := hobd
  have hTe : h₁.objs.size ≠ e := Nat.ne_of_gt (Heap.lt_size he₁)
  have hd₃ := Obj.data_mapFields hd (·.setIfInBounds 1 (Value.ref h₁.objs.size))
  have he₃ := Heap.get?_update_self (Obj.mapFields (·.setIfInBounds 1 (Value.ref h₁.objs.size))) he₂ (Obj.isFreed_of_fields hd₃)
  have hT₃ := (Heap.get?_update_other (h₁.push ob) (Obj.mapFields (·.setIfInBounds 1 (Value.ref h₁.objs.size))) (Ne.symm hTe)).trans (Heap.get?_push_size h₁ (Obj.isFreed_of_fields hts))
  have keep : ∀ b o, b ≠ e → h₁.get? b = some o → ((h₁.push ob).update e (Obj.mapFields (·.setIfInBounds 1 (Value.ref h₁.objs.size)))).get? b = some o := fun b o hbe hb => by
    rw [Heap.get?_update_other _ _ (Ne.symm hbe)]
    exact Heap.get?_push_of_some _ hb
  have noRecord : ∀ b o, s'.heap.get? b = some o → (∀ vs, o.data ≠ .fields vs) → b ≠ e := fun b o hb hnf q => by
    rw [q, he] at hb; injection hb with hb; subst hb; exact hnf vs hd
  have hup : s'.heap.UpToSlots ((h₁.push ob).update e (Obj.mapFields (·.setIfInBounds 1 (Value.ref h₁.objs.size)))) := fun b o hb hnf => by
    obtain ⟨sl, hs⟩ := hs₁.2.2 b o hb
    exact ⟨sl, keep b _ (noRecord b o hb hnf) hs⟩
  refine wpAny_setField he₂ hd hsz (hK _ ⟨⟨B, hB, hg, hn, fun b o hbo => keep b o (fun q => by rw [q, hen] at hbo; cases hbo) (kb₁ b o hbo), hen, hff.of_keeps fun b o hb hnf => ?_, ?_⟩, hn', hu.trans hup, hup.ns hns⟩ ?_)
  · obtain ⟨sl, hs⟩ := hs₁.2.2 b o hb
    exact ⟨_, keep b _ (noRecord b o hb hnf) hs, rfl⟩
  · exact ⟨_, _, h₁.objs.size, _, _, he₃, ⟨(Obj.cls_mapFields _ _).trans hc, by rw [Array.getElem?_setIfInBounds_ne (by decide)]; exact h0⟩, hd₃, by simp [hsz], kb₁.fresh, hTe, hT₃, hts, ht3⟩
  · exact ⟨_, _, he₃, hd₃, by rw [Array.getElem?_setIfInBounds_ne (by decide)]; exact h2⟩
end
theorem entry_unchain : entryFor table "proto.unchain" = some Builtin.«proto.unchain» := entryFor_of_fast (by kernel_rfl)
section
variable {prog : Program} {w : World} {A : Around} {E : Value → Shared → Prop} {s : Shared} {env : Env}
/-- raise X from None, while e₁ is handled -/
theorem raise_from_none {cls : String} (FR : ExcRaiseFacts cls) {e₁ : Addr} {x c : Expr} {pos : Pos} {Q : Flow → Shared → Prop} (hh : A.handled = some (.ref e₁)) (hc : ∀ (Q' : Value → Shared → Prop) s₁, Q' .none s₁ → wpAny (model prog w) A (eval c env) Q' E s₁)
    (h : wpAny (model prog w) A (eval x env) (fun v s₁ => ∃ e t, v = .ref e ∧ e ≠ e₁ ∧ s₁.heap.get? e = some { cls := .type cls, data := .fields #[.ref t, .none, .none, .none, .bool false, .none] } ∧ Alone e₁ s₁.heap ∧
      (∀ h', Heap.ExtBut e s₁.heap h' → h'.get? e = some { cls := .type cls, data := .fields #[.ref t, .none, .ref e₁, .none, .bool true, .none] } → E (.ref e) { s₁ with heap := h' })) E s) :
    wpAny (model prog w) A (exec (.Raise (some x) (some c) pos) env) Q E s := by
  rw [arm_exec_Raise]
  refine wpAny_bind (wpAny_standAt ?_)
  show wpAny _ _ (raiseStmt env (some (do let v ← eval x env; standAt pos; pure v)) (some (do let v ← eval c env; standAt pos; pure v))) _ _ _
  unfold raiseStmt
  dsimp only
  refine wpAny_bind (wpAny_bind (wpAny_mono h (fun v s₁ h₁ => wpAny_bind (wpAny_standAt (wpAny_pure ?_))) fun _ _ x => x))
  obtain ⟨e, t, rfl, hne, he, al, hE⟩ := h₁
  have hT : s₁.TypeIs (.ref e) cls := ⟨_, he, rfl⟩
  have hnt : ∀ {s₂ : Shared} {o : Obj} {vs : Array Value} {Q' : Bool → Shared → Prop}, s₂.heap.get? e = some o → o.data = .fields vs → Q' false s₂ → wpAny (model prog w) A (isType (.ref e)) Q' E s₂ := by
    intro s₂ o vs Q' ho hd hq
    simp only [isType, loadHead]
    refine wpAny_bind (wpAny_loadPart ho ?_)
    rw [hd]; exact wpAny_pure hq
  refine wpAny_bind (wpAny_holding (wpAny_bind (hc _ _ (wpAny_bind (wpAny_standAt (wpAny_pure (wpAny_bind (wpAny_pure ?_))))))))
  dsimp only
  refine wpAny_bind (wpAny_holding ?_)
  unfold excFromValue isExcClass
  refine wpAny_bind (wpAny_bind (hnt he rfl ?_))
  simp only [Bool.false_eq_true, if_false]
  refine wpAny_pure ?_
  simp only [Bool.false_eq_true, if_false]
  refine wpAny_bind (wpAny_isInstance hT FR.isExc ?_)
  simp only [if_true]
  refine wpAny_pure ?_
  rw [if_pos (show (Value.none == Value.none) = true by decide)]
  refine wpAny_bind (wpAny_pure ?_)
  refine wpAny_bind (wpAny_setField he rfl (by simp) ?_)
  have g1 : (s₁.heap.update e (Obj.mapFields (·.setIfInBounds 3 Value.none))).get? e = some { cls := .type cls, data := .fields #[.ref t, .none, .none, .none, .bool false, .none] } := Heap.get?_update_self (Obj.mapFields (·.setIfInBounds 3 Value.none)) he rfl
  refine wpAny_bind (wpAny_setField g1 rfl (by simp) ?_)
  have g2 : ((s₁.heap.update e (Obj.mapFields (·.setIfInBounds 3 Value.none))).update e (Obj.mapFields (·.setIfInBounds 4 (Value.bool true)))).get? e = some { cls := .type cls, data := .fields #[.ref t, .none, .none, .none, .bool true, .none] } := Heap.get?_update_self (Obj.mapFields (·.setIfInBounds 4 (Value.bool true))) g1 rfl
  have other : ∀ b, b ≠ e → ((s₁.heap.update e (Obj.mapFields (·.setIfInBounds 3 Value.none))).update e (Obj.mapFields (·.setIfInBounds 4 (Value.bool true)))).get? b = s₁.heap.get? b := fun b hb =>
    (Heap.get?_update_other _ _ (Ne.symm hb)).trans (Heap.get?_update_other _ _ (Ne.symm hb))
  refine wpAny_bind (hnt g2 rfl ?_)
  simp only [Bool.false_eq_true, if_false]
  unfold raisedInstance
  refine wpAny_bind (wpAny_bind (wpAny_typeOf ⟨_, g2, rfl⟩ (wpAny_bind (m := typeOf (.type cls)) (wpAny_pure ?_))))
  rw [if_pos FR.plainMeta]
  refine wpAny_pure ?_
  unfold setFlight raiseNew
  refine wpAny_bind (wpAny_bind (wpAny_field (x := Value.none) g2 rfl rfl ?_))
  rw [if_neg (by decide)]
  refine wpAny_pure (wpAny_bind (wpAny_handled ?_))
  rw [hh]
  dsimp only
  rw [if_pos (show (Value.ref e₁ != Value.ref e) = true by simpa using fun q => hne q.symm)]
  obtain ⟨o1, vs1, ho1, hd1, h21⟩ := al
  refine wpAny_bind (wpAny_holding (wpAny_runValue (codeAny_builtin entry_unchain ?_)))
  unfold Builtin.«proto.unchain»
  dsimp only
  refine wpAny_bind (wpAny_field ((other e₁ (Ne.symm hne)).trans ho1) hd1 h21 ?_)
  rw [if_pos (show (Value.none == Value.none) = true by decide)]
  refine wpAny_bind (m := ret Value.none) (wpAny_pure ?_)
  refine wpAny_pure ?_
  dsimp only
  refine wpAny_bind ?_
  unfold updateField
  refine wpAny_bind (wpAny_load g2 ?_)
  dsimp only
  rw [if_pos (by simp)]
  refine wpAny_update g2 (wpAny_throw ?_)
  exact hE _ (fun b o hb ho => (Heap.get?_update_other _ _ (Ne.symm hb)).trans ((other b hb).trans ho)) (Heap.get?_update_self _ g2 rfl)
end
end Mine
end
section
open PySem PySem.W PyProof.Rows PySem.Spec PySem.Calls
namespace Mine
local macro_rules | `(tactic| k_mem) => `(tactic| first | exact List.Mem.head _ | (refine' List.Mem.tail _ ?_; k_mem) | assumption)
local macro_rules | `(tactic| walk_at "fence") => `(tactic| (with_reducible show wpAny _ _ (call (Value.ref _) _) _ _ _))
local macro_rules | `(tactic| walk_at "fence") => `(tactic| (with_reducible show wpAny _ _ (call (Value.builtin "iter") _) _ _ _))
local macro_rules | `(tactic| walk_at "fence") => `(tactic| (with_reducible show wpAny _ _ (pyIter _) _ _ _))
local macro_rules | `(tactic| walk_at "fence") => `(tactic| (with_reducible show wpAny _ _ (exec (Stmt.For _ _ _ _ _) _) _ _ _))
local macro_rules | `(tactic| walk_at "fence") => `(tactic| (with_reducible show wpAny _ _ (compareOp CmpOp.Is _ _) _ _ _))
local macro_rules | `(tactic| walk_at "fence") => `(tactic| (with_reducible show wpAny _ _ (leaving _ _) _ _ _))
local macro_rules | `(tactic| walk_at "fence") => `(tactic| (with_reducible show (Exists _)))
local macro_rules | `(tactic| walk_at "go") => `(tactic| repeat' ((fail_if_success (walk_at "fence")); (first | (k_unfold; (try dsimp only)) | walk1 | (dsimp only; walk1) | (leave1; walk_say "STEP leave1"; try dsimp only) | fail "no step")))
local macro_rules | `(tactic| walk_at "fence") => `(tactic| (with_reducible show wpAny _ _ (exec (Stmt.Try _ _ _ _ _) _) _ _ _))
local macro_rules | `(tactic| walk_at "fence") => `(tactic| (with_reducible show wpAny _ _ (exec (Stmt.Raise _ _ _) _) _ _ _))
local macro_rules | `(tactic| walk_at "fence") => `(tactic| (with_reducible show wpAny _ _ (call (Value.builtin "next") _) _ _ _))
local macro_rules | `(tactic| walk_at "fence") => `(tactic| (with_reducible show wpAny _ _ (handleBy _ _ _) _ _ _))
local macro_rules | `(tactic| walk_at "fence") => `(tactic| (with_reducible show wpAny _ _ (noteFrame _ _) _ _ _))
local macro_rules | `(tactic| walk_at "fence") => `(tactic| (with_reducible show wpAny _ _ (call (Value.type _) _) _ _ _))
local macro_rules | `(tactic| walk_at "fence") => `(tactic| (with_reducible show wpAny _ _ (setFlight _ _) _ _ _))
theorem exn_there {base g h : Heap} {L e : Addr} {m : Str → Option Value} {fr : List Env} {cls a0 : Value} {news : List (Addr × Obj)} (X : Exn base g L m fr e cls a0 news h) : ∃ ob, h.get? e = some ob ∧ ob.cls = cls := by
  obtain ⟨⟨_, _, _, _, fl⟩, _⟩ := X
  exact fl.there
section
variable {A : Around} {base g g2 h : Heap} {env : Env} {outer : List Env} {L e : Addr} {m : Str → Option Value} {cls a0 : Value} {news : List (Addr × Obj)}
/-- what is made over the turned ground is made over the ground -/
theorem made_turn (X : Made base g2 L m (env :: outer) e cls a0 news h) (T : KtsTurn (outer.filterMap (·.frame)) g g2) : Made base g L m (env :: outer) e cls a0 news h := by
  obtain ⟨⟨B, oe, vs, hB, hg, r⟩, hn', hu, hns⟩ := X
  refine ⟨⟨B, oe, vs, hB, fun b o q nm => hg b o (T.other b o q fun hm => nm ?_) nm, r⟩, fun q hq => ⟨(hn' q hq).1, ?_⟩, fun b o q nf => ?_, hns⟩
  · rw [List.filterMap_cons]
    split
    · exact hm
    · exact List.mem_cons_of_mem _ hm
  · cases z : g.get? q.1 with
    | none => rfl
    | some o =>
      obtain ⟨sl, w⟩ := T.up z
      rw [(hn' q hq).2] at w; cases w
  · obtain ⟨sl, w⟩ := T.up q
    obtain ⟨sl', w'⟩ := hu b _ w nf
    exact ⟨sl', w'⟩
/-- made: it already stands in the frame's heap -/
theorem made_of2 {oe : Obj} {vs : Array Value} (B' : Below A base outer g) (hf : env.frame = some L) (hk : env.scope.kind = .function) (F : Fr g L h m) (N : News g L h news) (hne : ∀ q ∈ news, q.1 ≠ e) (heg : g.get? e = none)
    (he : h.get? e = some oe) (hc : oe.cls = cls) (hd : oe.data = .fields vs) (h0 : vs[0]? = some a0) (h1 : vs[1]? = some .none) : Made base g L m (env :: outer) e cls a0 news h := by
  have K' := pushX (env := env) B' F hf hk
  have hin : ∀ env₁ ∈ (env :: outer), ∀ b, env₁.frame = some b → b ∈ e :: (env :: outer).filterMap (·.frame) := fun env₁ he b hb => List.mem_cons_of_mem _ (List.mem_filterMap.mpr ⟨env₁, he, hb⟩)
  have hmem : ∀ q ∈ news, q.1 ∉ e :: (env :: outer).filterMap (·.frame) := fun q hq hb => by
    rcases List.mem_cons.mp hb with z | hb
    · exact hne q hq z
    rcases frames_cons hf hb with z | z
    · exact (N q hq).2.1 z
    · obtain ⟨_, o, ho, _⟩ := B'.frames.mem z
      rw [(N q hq).2.2] at ho; cases ho
  refine ⟨⟨hideAll h (e :: (env :: outer).filterMap (·.frame)), oe, vs, fun b o q => hideAll_get _ (K'.stays b o q) fun hm => ?_, fun b o hb nm => hideAll_get _ (F.keep b o hb) fun hm => ?_, fun q hq => hideAll_get _ (N q hq).1 (hmem q hq), fun b o q => of_hideAll _ q, hideAll_none _ (.head _), funFrames_hide K'.frames hin, he, hc, hd, h0, h1⟩, fun q hq => (N q hq).2, Heap.UpToSlots.of_keeps fun b o q => F.keep b o q, F.ns⟩
  · rcases List.mem_cons.mp hm with z | hm
    · have := B'.stays b o q; rw [z, heg] at this; cases this
    · rw [(K'.frames.mem hm).1] at q; cases q
  · rcases List.mem_cons.mp hm with z | hm
    · rw [z, heg] at hb; cases hb
    · exact nm hm
end
abbrev emptyMsg : Str := Str.ofString "reduce() of empty iterable with no initial value"
set_option maxRecDepth 100000 in
set_option maxHeartbeats 8000000 in
/-- without a start and with nothing there: refused -/
theorem red_empty {w : World} {pg : Program} {loose : List Str} {mean : ExcName → Option Value} {mg mb : Str → Option Value} {D wk cl wo cvs k ps f} (off : Off D wk cl 32) (ne : (@Ne Nat wk cl) ∧ (@Ne Nat wk 32) ∧ (@Ne Nat cl 32)) (hW : WkO D [] wo)
    {dp un : Nat} {gd : Option (List Code)} {cn : Str} {cs : Scope} {a : Addr} {ccd : Value} {cls : List (Str × Addr)} {outer : List Env} {A₀ : Around} {base h₀ : Heap} {L : Addr} {m : Str → Option Value} {s : Shared} {Q E : Value → Shared → Prop}
    (B : Below A₀ base outer h₀) (F : Fr h₀ L s.heap m) (X : (Mine.hd.heap_39 w.params).In h₀) (N : News h₀ L s.heap (Led wk wo cl cvs k ps D)) (T : Top pg loose mean mg mb h₀) (XB : (Mine.hd.heap_39 w.params).In base) (TB : Top pg loose mean mg mb base) (hk : cs.kind = .function) (hd : dp + 10 < recursionLimit) (hu : un + 200 < cLine)
    (exc : ∀ e t h' tk' wo' u n, WkO D [] wo' → (∀ p ∈ Led wk wo' cl cvs k ps D, p.1 ≠ t) → Exn base h₀ L m (envX cn cs L a ccd cls :: outer) e (.type "TypeError") (.ref t) ((t, { cls := .type "tuple", data := .seq #[.str emptyMsg u] n }) :: Led wk wo' cl cvs k ps D) h' → E (.ref e) { s with heap := h', toks := tk' }) :
    wpAny (model PySem.Challenge.rw_dz0035_01.row.prog w) (ktrTop dp un gd cn cs L a ccd cls outer) (call (.ref 23) [.ref f, .ref wk]) Q E s := by
  w_on
  revert X
  k_fill
  intro X
  refine wpAny_call ?_
  k_dflt (refine' code_def ?k1 ?k2 ?k3 ?k4 ?k5 ?kA ?kF ?kK ?k6 ?k7 ?k8 (binds := [("function", .ref f), ("sequence", .ref wk), ("initial", .ref 15)]) ?k9 ?kB ?_ ?c2 ?c3 ?c4 ?c5; (case kA => exact rfl); (case kF => exact rfl); (case kK => assumption); (case k1 => k_asm); (case k2 => k_asm); (case k3 => k_asm); (case k4 => k_asm); (case k5 => k_asm); (case k6 => k_is); (case k7 => k_is); (case k8 => ktr_room); (case k9 => first | exact BindsTo.of_eq rfl | exact binds_K (by k_in) rfl (by k_is) rfl rfl rfl); (case c5 => decide); (case kB => exact locs rfl); (case c2 => exact rfl); (case c3 => exact rfl); (case c4 => exact rfl); k_whole; intro g' L' h' FG' F' N' B' X' T'; (try dsimp only))
  walk_at "go"
  refine iter_wk (News.get N' (.head _)) hW.cls ?_
  walk_at "go"
  refine wpAny_is_ref_self ?_
  walk_at "go"
  refine wpAny_Try_except ?_
  walk_at "go"
  rename Fr g' L' _ _ => F2
  rename News g' L' _ _ => N2
  have U : UpdF wk wo (Led wk wo cl cvs k ps D) (fun o => Led wk o cl cvs k ps D) := .head (List.forall_mem_cons.mpr ⟨fun e => ne.1 e.symm, List.forall_mem_cons.mpr ⟨fun e => ne.2.1 e.symm, off1 off⟩⟩)
  refine next1_end rfl F2 N2 U hW (fun p hp => List.mem_cons_of_mem _ (List.mem_cons_of_mem _ (List.mem_cons_of_mem _ hp))) ?_
  intro h3 h4 e4 o3 F3 N3 hW3 x4
  obtain ⟨ob, tp, he, hcls, hd4⟩ := x4.there
  have mk := made_of (env := redEnv L') B' rfl rfl F3 N3 x4.keeps x4.new he hcls hd4 rfl rfl
  have al : Alone e4 h4 := ⟨_, _, he, hd4, rfl⟩
  refine made_noted2 rfl rfl mk al ?_
  intro h5 H5 al5
  refine held_lands2 H5 al5 ?_
  intro h6 X6 al6
  obtain ⟨g6, tn6, F6, B6, N6⟩ := exn_ground X6 rfl B' (Fr.above F2)
  have X6' : (Mine.hd.heap_39 w.params).In g6 := XB.keeps B6.stays
  have T6 : Top pg loose mean mg mb g6 := by exact TB.keeps B6.stays
  refine wpAny_handleBy_builtin (X := "StopIteration") (T := "StopIteration") (b := true) (by kernel_rfl) (by kernel_rfl) (by kernel_rfl) ?_
  walk_at "go"
  · exact exn_there X6
  show wpAny _ _ (setFlight _ _) _ _ _
  refine exn_lands2 X6 al6 ?_
  intro h7 X7 al7
  rename Fr g6 L' _ _ => F6
  clear F6 B6 N6 X6' T6
  obtain ⟨g7, tn7, F7, B7, N7⟩ := exn_ground X7 rfl B' (Fr.above F2)
  have X7' : (Mine.hd.heap_39 w.params).In g7 := XB.keeps B7.stays
  have T7 : Top pg loose mean mg mb g7 := TB.keeps B7.stays
  walk_at "go"
  refine raise_from_none PySem.F.excRaise_TypeError rfl ?_ ?_
  · intro Q' s1 hq
    walk_at "go"
    exact hq
  walk_at "go"
  refine wpAny_call_exc PySem.F.excCall_TypeError ?_
  intro h8 e8 hm8
  walk_at "go"
  rename Fr g7 L' _ _ => F7
  rename News g7 L' _ _ => N7
  obtain ⟨t8, he8, hnt8, ht8⟩ := hm8.there
  have hne84 : e8 ≠ e4 := fun q => by
    obtain ⟨o, vs, ho, _⟩ := al7
    have := hm8.new
    rw [q, ho] at this; cases this
  have hal8 : Alone e4 h8 := by
    obtain ⟨o, vs, ho, r⟩ := al7
    exact ⟨o, vs, hm8.keeps _ _ ho, r⟩
  refine ⟨e8, t8, rfl, hne84, he8, hal8, ?_⟩
  intro h9 hx9 he9
  have keep79 : ∀ b o, h7.get? b = some o → h9.get? b = some o := fun b o q => hx9 b o (fun z => by
    have := hm8.new
    rw [← z, q] at this; cases this) (hm8.keeps b o q)
  have ht8e : t8 ≠ e8 := fun z => by
    rw [z, he8] at ht8
    have q := congrArg Obj.data (Option.some.inj ht8)
    exact Data.noConfusion q
  have ht9 := hx9 t8 _ ht8e ht8
  obtain ⟨oL, a1, a2, hoL, a3⟩ := id F7.ns
  have F9 := (⟨⟨oL, a1, a2, keep79 _ _ hoL, a3⟩, fun b o q => keep79 b o (F7.keep b o q), F7.above⟩ : Fr g7 L' h9 _)
  have g7none : ∀ b, h7.get? b = none → g7.get? b = none := fun b q => none_of_stays F7.keep q
  have tL : t8 ≠ L' := fun z => by rw [z, hoL] at hnt8; cases hnt8
  have N9 : News g7 L' h9 ((t8, _) :: Led wk o3 cl cvs k ps D) := List.forall_mem_cons.mpr ⟨⟨ht9, tL, g7none _ hnt8⟩, fun q hq => ⟨keep79 _ _ (N7 q hq).1, (N7 q hq).2⟩⟩
  have tfr : ∀ p ∈ Led wk o3 cl cvs k ps D, p.1 ≠ t8 := fun p hp z => by
    have := (N7 p hp).1
    rw [z, hnt8] at this; cases this
  have mk9 := made_of2 (env := redEnv L') (cls := .type "TypeError") (a0 := .ref t8) B7 rfl rfl F9 N9 (fun q hq z => by
    rcases List.mem_cons.mp hq with rfl | hq
    · exact ht8e z
    · have := (N7 q hq).1
      rw [z, hm8.new] at this; cases this) (g7none _ hm8.new) he9 rfl rfl rfl rfl
  have mk9' := made_turn mk9 tn7
  unfold notedBy
  refine made_noted rfl rfl mk9' ?_
  intro h10 H10
  refine held_came rfl H10 ?_
  intro h11 H11
  refine held_leave rfl FG' (kts_self F2) H11 ?_
  intro h12 X12
  exact exc e8 t8 h12 _ o3 _ _ hW3 tfr X12
end Mine
end
section
open PySem PySem.W PyProof.Rows PySem.Spec PySem.Calls
namespace Mine
section
variable {prog : Program} {w : World} {A : Around} {E : Value → Shared → Prop} {s : Shared} {h₀ : Heap} {L : Addr} {m : Str → Option Value} {env : Env}
/-- a list's iterator as a source of turns -/
theorem walks_wk {D : List (Addr × Obj)} {rem : List Value} {I : Addr} (hh : A.handled = none) (hI : ∀ p ∈ D, p.1 ≠ I) :
    Walks prog w A I (I :: D.map (·.1)) [I] rem.length (fun i v => rem[i]? = some v) (fun i h => (∃ o, h.get? I = some o ∧ WkO D (rem.drop i) o) ∧ ∀ p ∈ D, h.get? p.1 = some p.2) where
  sub := fun b hb => by rw [List.mem_singleton.mp hb]; exact .head _
  frame := fun i h h' st hk => by
    obtain ⟨⟨o, ho, hW⟩, hD⟩ := st
    exact ⟨⟨o, hk I (.head _) o ho, hW⟩, fun p hp => hk p.1 (.tail _ (List.mem_map_of_mem hp)) _ (hD p hp)⟩
  item := fun i s Q E hi st hQ => by
    obtain ⟨⟨o, ho, hW⟩, hD⟩ := st
    have he : rem[i]? = some rem[i] := by simp [hi]
    refine pyNext_wk hh hW hD ho fun h' o' hs hi' hW' => ?_
    rw [List.head?_drop, he]
    rw [List.tail_drop] at hW'
    exact hQ _ h' s.toks he ⟨⟨o', hi', hW'⟩, fun p hp => hs _ _ (hI p hp) (hD p hp)⟩ fun b o hb e => hs b o (fun z => hb (by rw [z]; exact .head _)) e
  done := fun s Q E st hQ => by
    obtain ⟨⟨o, ho, hW⟩, hD⟩ := st
    refine pyNext_wk hh hW hD ho fun h' o' hs hi' hW' => ?_
    rw [List.drop_length]
    exact hQ h' s.toks fun b o hb e => hs b o (fun z => hb (by rw [z]; exact .head _)) e
  self := fun _ _ _ _ st hQ => by
    obtain ⟨⟨o, ho, hW⟩, hD⟩ := st
    exact pyIter_wk ho hW.cls hQ
/-- a comprehension over a list's iterator -/
theorem ListComp_wk {elt iter : Expr} {x : Str} {px : Pos} {scope : Scope} {cl : List (Str × Addr)} {pos : Pos} {Q : Value → Shared → Prop} {I : Addr} {wo : Obj} {D news : List (Addr × Obj)} {rem : List Value}
    (hclos : closureFor scope env = pure cl) (hcell : ∀ y ∈ scope.names, y.2 ≠ .cell) (hkind : scope.kind = .function)
    (hnames : ∀ y ∈ scope.names, y.2 = .local → scope.names.lookup y.1 = some .local) (hx : scope.names.lookup x = some .local) (hh : A.handled = none) (hW : WkO D rem wo) (hDn : ∀ p ∈ D, p ∈ news) (off : ∀ p ∈ news, p.1 ≠ I) (hsz : rem.length ≤ sizeLine)
    (h : wpAny (model prog w) A (eval iter env) (fun xv s₁ => xv = .ref I ∧ Fr h₀ L s₁.heap m ∧ News h₀ L s₁.heap ((I, wo) :: news) ∧
      ∀ g, LCg.CompRest prog w A h₀ L m env elt x scope cl { s₁ with heap := g } (fun nw => ∀ p ∈ D, p ∈ nw) (fun i v => rem[i]? = some v) (LCg.FinE h₀ L m { s₁ with heap := g } Q) rem.length 0 [] news) E s)
    (hs : ∀ x, foldedSetIterable iter env x = pure x := by intro _; rfl) :
    wpAny (model prog w) A (eval (.ListComp elt [⟨.Name x px, iter, [], 0⟩] scope pos) env) Q E s := by
  rw [eval_ListComp]
  refine wpAny_comprehension_free (use := none) rfl hs hclos hkind hnames (wpAny_mono h (fun xv s₁ h₁ => ?_) fun _ _ e => e)
  obtain ⟨rfl, F, N, R⟩ := h₁
  have N1 : News h₀ L s₁.heap news := fun p hp => N p (.tail _ hp)
  refine pyIter_wk (N _ (.head _)).1 hW.cls ?_
  refine LCg.block_U (walks_wk (D := D) (rem := rem) (I := I) hh fun p hp => off p (hDn p hp)) hsz (fun i h st => ?_) (S := fun nw => ∀ p ∈ D, p ∈ nw) (fun i h h' o nw st e e' k N' S' => ?_) hcell hkind hx ⟨⟨_, (N _ (.head _)).1, hW⟩, fun p hp => (N1 p (hDn p hp)).1⟩ (fun b hb => ?_)
    F N1 (fun z => (N _ (.head _)).2.1 z.symm) (N _ (.head _)).2.2 off hDn (R _) ?_
  · obtain ⟨⟨o, ho, _⟩, _⟩ := st
    exact ⟨o, ho⟩
  · obtain ⟨⟨o1, ho1, hW1⟩, _⟩ := st
    rw [e] at ho1; cases ho1
    exact ⟨⟨o, e', hW1⟩, fun p hp => (N' p (S' p hp)).1⟩
  · rcases List.mem_cons.mp hb with rfl | hb
    · exact Heap.lt_size (N _ (.head _)).1
    · obtain ⟨p, hp, rfl⟩ := List.mem_map.mp hb
      exact Heap.lt_size (N1 p (hDn p hp)).1
  · intro Dd C h' tk m' ys news' F' N' o1 hn hC₀ hD₀ hCL hDL hCD offC fin
    refine ⟨m', hn, fun h'' hs'' => fin Dd h'' tk (F'.change hs'' hCL hC₀) (fun p hp => ?_) o1⟩
    refine ⟨hs''.extBut _ _ ?_ (N' p hp).1, (N' p hp).2⟩
    rcases List.mem_cons.mp hp with rfl | hp
    · exact Ne.symm hCD
    · exact offC p hp
/-- with the thing itself as the element, the list of what is left -/
theorem same_induct {elt : Expr} {x : Str} {scope : Scope} {cl : List (Str × Addr)} {Fin : List Value → List (Addr × Obj) → Prop} {rem : List Value} {D news : List (Addr × Obj)} (hD : ∀ p ∈ D, p ∈ news)
    (give : ∀ v, ∀ I oI C oC Dd m₂ h tk (E' : Value → Shared → Prop) ys, LCg.NsObj oC m₂ → m₂ x = some v → Fr h₀ L h m → News h₀ L h ((I, oI) :: (C, oC) :: (Dd, LCg.lst ys) :: news) →
      ∀ Q : Value → Shared → Prop, (∀ tk', Q v { s with heap := h, toks := tk' }) → wpAny (model prog w) A (eval elt (compEnvC scope cl C env)) Q E' { s with heap := h, toks := tk }) :
    ∀ (kk i : Nat) (ys : List Value), i + kk = rem.length → Fin (ys ++ rem.drop i) news → LCg.CompRest prog w A h₀ L m env elt x scope cl s (fun nw => ∀ p ∈ D, p ∈ nw) (fun i v => rem[i]? = some v) Fin kk i ys news := by
  intro kk
  induction kk with
  | zero =>
    intro i ys hl h
    refine LCg.CompRest.zero ?_
    rw [List.drop_eq_nil_of_le (by omega), List.append_nil] at h
    exact h
  | succ kk ih =>
    intro i ys hl h
    refine LCg.CompRest.succ fun v I oI C oC Dd m₂ h' tk E' hv hC hx F N off ne => ?_
    refine give v I oI C oC Dd m₂ h' tk E' ys hC hx F N _ fun tk' => ?_
    refine LCg.CompEnd.intro F N news (fun p hp => hp) off hD (ih (i + 1) _ (by omega) ?_)
    rw [List.append_assoc]
    have : rem.drop i = v :: rem.drop (i + 1) := by
      obtain ⟨hi, e⟩ := List.getElem?_eq_some_iff.mp hv
      rw [List.drop_eq_getElem_cons hi, e]
    rw [this] at h
    exact h
end
section
variable {prog : Program} {w : World} {A A₀ : Around} {s : Shared} {base h₀ : Heap} {L : Addr} {m : Str → Option Value} {news : List (Addr × Obj)} {K : Frag} {p : Program} {loose : List Str} {mean : ExcName → Option Value} {mg mb : Str → Option Value}
/-- a def with cells that catches exceptions, called from the lowest frame: the caller's slots may have turned -/
theorem code_defCS0 {env : Env} {R : Result → Shared → Prop} {name qual : Str} {params : Arguments} {body : List Stmt} {scope : Scope} {dV kV doc pm cdv ct oc : Value} {an od : Option Addr} {osl : Array (Option Value)} {f : Addr} {args : Args} {binds : List (Str × Value)}
    (B : Below A₀ base [] h₀) (F : Fr h₀ L s.heap m) (X₀ : K.In h₀) (N : News h₀ L s.heap news) (T : Top p loose mean mg mb h₀) (hA : A.frames = some [env]) (hf : env.frame = some L) (hke : env.scope.kind = .function)
    (ho : K.lookup f = some ⟨oc, od, .func (fnOf name qual params body scope dV kV doc pm an cdv ct), osl⟩) (hcd : codeIn K cdv qual = true) (hroom : A.depth < recursionLimit)
    (hbind : BindsTo s (fnOf name qual params body scope dV kV doc pm an cdv ct) args binds) (hkind : (binds.all fun y => scope.names.lookup y.1 == some .local || scope.names.lookup y.1 == some .cell) = true)
    (hnd : ((cellsFrom 0 scope.names []).map (·.1)).Nodup)
    (h : ∀ g L' h₁ tk cells, Fr h₀ L g m → Fr g L' h₁ (bindL (envOfC qual scope L' f cdv).kindOf binds fun _ => none) → News g L' h₁ (cells ++ news) →
      CellsAre (bindC (envOfC qual scope L' f cdv).kindOf binds fun _ => none) (cellsFrom (L' + 1) scope.names []) cells → Below A base [env] g → K.In g → Top p loose mean mg mb g → (∀ p ∈ news, p.1 < L') →
      wpAny (model prog w) (A.deeper (envOfC qual scope L' f cdv)) (execs body (envOfC qual scope L' f cdv))
        (fun fl s' => LeaveS0 ([env].filterMap (·.frame)) h₀ L m g R (match fl with | .ret v => v | _ => .none) s')
        (fun e s' => wpAny (model prog w) (A.deeper (envOfC qual scope L' f cdv)) (leaving (envOfC qual scope L' f cdv) e) (fun _ s'' => R (.error e) s'') (fun e' s'' => R (.error e') s'') s')
        { s with heap := h₁, toks := tk })
    (hco : scope.isCoroutine = false) (hgen : scope.isGenerator = false) (hk : scope.kind = .function) : codeAny (model prog w) A (.call (.ref f) args) R s := by
  obtain ⟨FG, BG, st, _⟩ := groundX (R := R) B F N hA hf hke
  refine codeAny_call_function hroom ((X₀.keeps F.keep) _ _ ho) rfl hco hgen rfl (codeRec_of (X₀.keeps F.keep) hcd) (hbind _ _ _ _ ?_)
  refine wpAny_newFunctionEnv_cells hk (kindsX hkind _) fun env' he s' x => ?_
  subst he
  refine ⟨(T.nolimit.keeps F.keep).keeps x.toInCall.keep, codeAny_func ?_⟩
  obtain ⟨h₁, tk, rfl, _⟩ := x.done
  have hk₁ := x.toInCall.keep
  obtain ⟨cells, NC, Y⟩ := Cl.news (h₀ := s.heap) (Nat.le_refl _) fun n c hm => ⟨x.cell n c (lookup_of_mem_nodup (cellsFrom_names scope.names 0 (s.heap.objs.size + 1) [] [] rfl ▸ hnd) hm), x.above n c hm⟩
  refine wpAny_mono (h _ s.heap.objs.size h₁ tk cells FG ⟨x.toInCall.ns, fun b o e => hk₁ b o (of_hideAll _ e), Nat.le_of_eq (hideAll_size _ _)⟩ (fun p hp => ?_) Y BG (X₀.keeps st) (T.keeps st) (fun p hp => Heap.lt_size (N p hp).1)) (fun fl s' hl => ?_) fun _ _ y => y
  · rcases List.mem_append.mp hp with hp | hp
    · refine ⟨(NC p hp).1, (NC p hp).2.1, ?_⟩
      cases q : (hideAll s.heap (news.map (·.1))).get? p.1 with
      | none => rfl
      | some o => have := of_hideAll _ q; rw [(NC p hp).2.2] at this; cases this
    · exact ⟨hk₁ _ _ (N p hp).1, Nat.ne_of_lt (Heap.lt_size (N p hp).1), hideAll_none _ (List.mem_map_of_mem hp)⟩
  · obtain ⟨g', L', m', news', T', F', N', k⟩ := hl
    have nL₀ : h₀.get? L = none := kts_self F
    obtain ⟨oL, es, ep, hLg, hLd, hLk, hLf⟩ := FG.ns
    obtain ⟨sl, hs⟩ := T'.up hLg
    refine k ⟨⟨_, es, ep, F'.keep _ _ hs, hLd, hLk, hLf⟩, fun b o e => F'.keep b o (T'.other b o (st b o e) (fun q => ?_)), F.above⟩ fun p hp => ⟨(N' p hp).1, fun q => ?_, ?_⟩
    · rcases frames_cons hf q with z | z
      · rw [z, nL₀] at e; cases e
      · simp at z
    · have := (N' p hp).2.2; rw [q, hs] at this; cases this
    · cases q : h₀.get? p.1 with
      | none => rfl
      | some o =>
        obtain ⟨sl', hs'⟩ := T'.up (st _ _ q)
        have := (N' p hp).2.2
        rw [hs'] at this
        cases this
end
end Mine
end
section
open PySem PySem.W PyProof.Rows PySem.Spec PySem.Calls
namespace Mine
/-- what the fold is due to give -/
def dueD : List (Int × Int) → Option Dat → Dat
  | rp, some d => outD (restS rp d 0)
  | [], none => .list [.list [], .list [.str "refused", .str emptyMsg], .list []]
  | p :: r, none => outD (restS r (thD p) 0)
theorem restS_fate : ∀ (n : Nat) (ps : List (Int × Int)) (d : Dat) (c : Int), ps.length ≤ n → ∀ f, (restS ps d c).2.1 = .broken f → f = 9 ∨ f = 10 := by
  intro n
  induction n with
  | zero => intro ps d c h f hf; cases ps with
    | nil => rw [restS] at hf; cases hf
    | cons p r => simp at h
  | succ n ih =>
    intro ps d c h f hf
    cases ps with
    | nil => rw [restS] at hf; cases hf
    | cons p r =>
      rw [restS] at hf
      split at hf
      · rename_i h8
        cases hf
        have := fateOf_range p.2
        omega
      · exact ih _ _ _ (by simp only [List.length_drop, List.length_cons] at *; omega) f hf
/-- what an exception out of reduce says -/
def ExcSays (D' : List (Addr × Obj)) (nm : String) (a0 : Value) (ed : Dat) : Prop :=
  (nm = "ValueError" ∧ ed = .list [.str "broken", .int 9]) ∨ (nm = "StopIteration" ∧ ed = .list [.str "broken", .int 10]) ∨
  (nm = "TypeError" ∧ ed = .list [.str "refused", .str emptyMsg] ∧ ∃ t u n, a0 = .ref t ∧ (t, ({ cls := .type "tuple", data := .seq #[.str emptyMsg u] n } : Obj)) ∈ D')
/-- reduce, with and without a start -/
theorem red_any {w : World} {pg : Program} {loose : List Str} {mean : ExcName → Option Value} {mg mb : Str → Option Value} {D wk cl wo k ps rp f svs} {sd : Option Dat} (bef : Bef D wk cl wo [] ps rp []) (hlam : LamIn D wk cl f) (hsd : DatAll D svs sd.toList) (h15 : ∀ v ∈ svs, v ≠ .ref 15)
    {dp un : Nat} {gd : Option (List Code)} {cn : Str} {cs : Scope} {a : Addr} {ccd : Value} {cls : List (Str × Addr)} {outer : List Env} {A₀ : Around} {base h₀ : Heap} {L : Addr} {m : Str → Option Value} {s : Shared} {Q E : Value → Shared → Prop}
    (B : Below A₀ base outer h₀) (F : Fr h₀ L s.heap m) (X : (Mine.hd.heap_39 w.params).In h₀) (N : News h₀ L s.heap (Led wk wo cl [] k ps D)) (T : Top pg loose mean mg mb h₀) (C : CodeHd h₀ 34 32) (XB : (Mine.hd.heap_39 w.params).In base) (TB : Top pg loose mean mg mb base) (hk : cs.kind = .function) (hd : dp + 4 * rp.length + 10 < recursionLimit) (hu : un + 16 * (4 * rp.length) + 200 < cLine)
    (ret : ∀ v d q h' tk' wo' cvs' k' ps' D', dueD rp sd = .list [.list q.1, .list [.str "told", d], .list (q.2.2.map thD)] → Aft D wk cl [] q wo' cvs' ps' D' → DatIn D' v d → Fr h₀ L h' m → News h₀ L h' (Led wk wo' cl cvs' k' ps' D') → Q v { s with heap := h', toks := tk' })
    (exc : ∀ e nm a0 ed q h' tk' wo' cvs' k' ps' D', dueD rp sd = .list [.list q.1, ed, .list (q.2.2.map thD)] → ExcSays D' nm a0 ed → Aft D wk cl [] q wo' cvs' ps' D' → Exn base h₀ L m (envX cn cs L a ccd cls :: outer) e (.type nm) a0 (Led wk wo' cl cvs' k' ps' D') h' → E (.ref e) { s with heap := h', toks := tk' }) :
    wpAny (model PySem.Challenge.rw_dz0035_01.row.prog w) (ktrTop dp un gd cn cs L a ccd cls outer) (call (.ref 23) (.ref f :: .ref wk :: svs)) Q E s := by
  have common : ∀ (rp' : List (Int × Int)) (d : Dat), rp'.length ≤ rp.length → dueD rp sd = outD (restS rp' d 0) → Does w pg loose mean mg mb (4 * rp'.length) (restS rp' d 0) (call (.ref 23) (.ref f :: .ref wk :: svs)) D wk cl wo [] k ps [] →
      wpAny (model PySem.Challenge.rw_dz0035_01.row.prog w) (ktrTop dp un gd cn cs L a ccd cls outer) (call (.ref 23) (.ref f :: .ref wk :: svs)) Q E s := by
    intro rp' d hl hdue H
    unfold Does at H
    refine H B F X N T C hk (by omega) (by omega) ?_ ?_
    · intro v d' h' tk' wo' cvs' k' ps' D' hq aft hv F' N'
      refine ret v d' _ h' tk' wo' cvs' k' ps' D' ?_ aft hv F' N'
      rw [hdue, outD, hq]; rfl
    · intro f' e a0 h' tk' wo' cvs' k' ps' D' hq aft hX
      refine exc e (excN f') a0 _ _ h' tk' wo' cvs' k' ps' D' (by rw [hdue, outD]) ?_ aft hX
      rw [hq]
      rcases restS_fate _ _ _ _ (Nat.le_refl _) f' hq with rfl | rfl
      · exact .inl ⟨rfl, rfl⟩
      · exact .inr (.inl ⟨rfl, rfl⟩)
  cases sd with
  | some d =>
    cases hsd with
    | @cons v vr _ _ hv hvr =>
    cases hvr
    exact common rp d (Nat.le_refl _) rfl ((all_ok rp.length).1 D wk cl wo [] k ps rp [] v d f bef (Nat.le_refl _) hv (h15 v (.head _)) hlam)
  | none =>
    cases hsd
    cases rp with
    | cons p r => exact common r (thD p) (Nat.le_succ _) rfl (red_first bef hlam)
    | nil =>
      obtain ⟨off, ne, ⟨rem, hW, hrd⟩, hcd, tab, hlen⟩ := bef
      cases hrd
      refine red_empty off ne hW B F X N T XB TB hk (by simp only [List.length_nil] at hd; omega) (by simp only [List.length_nil] at hu; omega) ?_
      intro e t h' tk' wo' u n hW' hfr hX
      refine exc e "TypeError" (.ref t) (.list [.str "refused", .str emptyMsg]) ([], .told .none, []) h' tk' wo' [] k ps ((t, _) :: D) rfl (.inr (.inr ⟨rfl, rfl, t, u, n, rfl, .head _⟩)) ⟨fun p hp => .tail _ hp, ?_, ⟨[], hW'.mono fun p hp => .tail _ hp, .nil⟩, .nil, tab.mono fun p hp => .tail _ hp⟩ ?_
      · refine List.forall_mem_cons.mpr ⟨⟨fun z => hfr (wk, _) (.head _) z.symm, fun z => hfr (cl, _) (.tail _ (.head _)) z.symm, fun z => hfr (32, _) (.tail _ (.tail _ (.head _))) z.symm⟩, off⟩
      · obtain ⟨⟨B1, x1, x2, x3, x4⟩, y1, y2⟩ := hX
        have sw : ∀ q, q ∈ Led wk wo' cl [] k ps ((t, ({ cls := .type "tuple", data := .seq #[.str emptyMsg u] n } : Obj)) :: D) → q ∈ (t, ({ cls := .type "tuple", data := .seq #[.str emptyMsg u] n } : Obj)) :: Led wk wo' cl [] k ps D := fun q hq => by
          simp only [Led, List.mem_cons] at hq ⊢
          rcases hq with h | h | h | h | h <;> simp [h]
        exact ⟨⟨B1, x1, x2, fun q hq => x3 q (sw q hq), x4⟩, fun q hq => y1 q (sw q hq), y2⟩
end Mine
end
section
open PySem PySem.W PyProof.Rows PySem.Spec PySem.Calls
namespace Mine
/-- the table of _law_fold's nested code -/
def Tab37 (D : List (Addr × Obj)) (ps : Array Value) : Prop :=
  ps = #[] ∨ ∃ (c : Addr) (oc : Obj) (vs : Array Value) (t : Tok), ps = #[rawInt 32, rawInt 30, .ref c] ∧ (c, oc) ∈ D ∧ oc.data = .fields vs ∧ vs[1]? = some (.str (Str.ofString "_law_fold" ++ Str.ofString ".<locals>." ++ Str.ofString "<lambda>") t)
theorem Tab37.mono {D D' : List (Addr × Obj)} {ps : Array Value} (h : Tab37 D ps) (hs : ∀ p ∈ D, p ∈ D') : Tab37 D' ps :=
  h.imp id fun ⟨c, oc, vs, t, a, b, r⟩ => ⟨c, oc, vs, t, a, hs _ b, r⟩
section
variable {M : Model} {A : Around} {E : Value → Shared → Prop} {s : Shared} {h₀ : Heap} {L a : Addr} {m mg mb : Str → Option Value} {cs : Scope} {clz : List (Str × Addr)} {p : Program} {loose : List Str} {mean : ExcName → Option Value}
  {cw cc : Addr} {ps : Array Value} {news D : List (Addr × Obj)} {q1 q2 p1 p2 p3 p4 p5 p6 : Pos} {Q : Value → Shared → Prop}
theorem swap2 {h : Heap} {x y z : Addr × Obj} {l : List (Addr × Obj)} (N : News h₀ L h (x :: y :: z :: l)) : News h₀ L h (z :: ([x, y] ++ l)) := news_sub N fun p hp => by
  simp only [List.mem_cons, List.mem_append, List.not_mem_nil, or_false] at hp ⊢
  rcases hp with h | (h | h) | h <;> simp [h]
theorem swap1 {h : Heap} {x z : Addr × Obj} {l : List (Addr × Obj)} (N : News h₀ L h (x :: z :: l)) : News h₀ L h (z :: ([x] ++ l)) := news_sub N fun p hp => by
  simp only [List.mem_cons, List.mem_append, List.not_mem_nil, or_false] at hp ⊢
  rcases hp with h | h | h <;> simp [h]
/-- the lambda of _law_fold is made -/
theorem lam_fold (F : Fr h₀ L s.heap m) (N : News h₀ L s.heap ((37, tabObj ps) :: news)) (T : Top p loose mean mg mb h₀) (C : CodeHd h₀ 39 37) (off : ∀ p ∈ news, p.1 ≠ 37) (tab : Tab37 D ps)
    (hcl : closureFor lamScope (envX (Str.ofString "_law_fold") cs L a (.ref 39) clz) = pure [(Str.ofString "walker", cw), (Str.ofString "calls", cc)])
    (h : ∀ f qual pm c' ctv oc' vs t h' tk' ps' es, (f, kla_obj "<lambda>" qual (lamPar q1 q2) (lamBody p1 p2 p3 p4 p5 p6) lamScope [(Str.ofString "walker", cw), (Str.ofString "calls", cc)] pm c' ctv) ∈ es → (c', oc') ∈ es ++ D → oc'.data = .fields vs → vs[1]? = some (.str qual t) →
      (∀ p ∈ es, 37 < p.1) → (∀ q ∈ news, ∀ p ∈ es, q.1 < p.1) → Tab37 (es ++ D) ps' → Fr h₀ L h' m → News h₀ L h' ((37, tabObj ps') :: (es ++ news)) → Q (.ref f) { s with heap := h', toks := tk' }) :
    wpAny M A (eval (.Lambda (lamPar q1 q2) (lamBody p1 p2 p3 p4 p5 p6) lamScope ⟨32, 30, 32, 81⟩) (envX (Str.ofString "_law_fold") cs L a (.ref 39) clz)) Q E s := by
  refine kla_eval rfl ?_
  rcases tab with rfl | ⟨c, oc', vs, t, rfl, hc, hd, hv⟩
  · refine kla_nest F N T C rfl (.head off) (by first | exact trivial | decide | rfl) (by rfl) hcl ?_
    intro f c' oc' vs t ctv h' tk F' N' hd hv hlt hcf
    have N2 := swap2 N'
    refine h f _ ((mg (Str.ofString "__name__")).getD Value.none) c' ctv oc' vs t h' tk _ _ ?k1 ?k2 hd hv ?k3 ?k4 ?k5 F' N2
    case k1 => exact .head _
    case k2 => exact .tail _ (.head _)
    case k5 => exact .inr ⟨c', oc', vs, t, rfl, .tail _ (.head _), hd, hv⟩
    case k4 =>
      intro q hq r hr
      have h3 := hlt q (.tail _ hq)
      simp only [List.mem_cons, List.not_mem_nil, or_false] at hr
      rcases hr with rfl | rfl
      · exact Nat.lt_trans h3 hcf
      · exact h3
    case k3 =>
      intro q hq
      have h3 := hlt (37, _) (.head _)
      simp only [List.mem_cons, List.not_mem_nil, or_false] at hq
      rcases hq with rfl | rfl
      · exact Nat.lt_trans h3 hcf
      · exact h3
  · refine kla_hit F N T C rfl (c' := c) (.head _) (by first | exact trivial | decide | rfl) (by rfl) hcl ?_
    intro f ctv h' tk F' N' hlt
    have N2 := swap1 N'
    refine h f _ ((mg (Str.ofString "__name__")).getD Value.none) c ctv oc' vs t h' tk _ _ ?j1 ?j2 hd hv ?j3 ?j4 ?j5 F' N2
    case j1 => exact .head _
    case j2 => exact .tail _ hc
    case j5 => exact .inr ⟨c, oc', vs, t, rfl, .tail _ hc, hd, hv⟩
    case j3 =>
      intro q hq
      have h3 := hlt (37, _) (.head _)
      simp only [List.mem_cons, List.not_mem_nil, or_false] at hq
      subst hq
      exact h3
    case j4 =>
      intro r hr q hq
      have h3 := hlt r (.tail _ hr)
      simp only [List.mem_cons, List.not_mem_nil, or_false] at hq
      subst hq
      exact h3
end
end Mine
end
section
open PySem PySem.W PyProof.Rows PySem.Spec PySem.Calls
namespace Mine
mutual
theorem datIn_off {D D' : List (Addr × Obj)} (hs : ∀ p ∈ D, p.2.cls ≠ .none → p ∈ D') : ∀ {v : Value} {d : Dat}, DatIn D v d → DatIn D' v d
  | _, _, .none => .none
  | _, _, .bool b => .bool b
  | _, _, .int i t => .int i t
  | _, _, .str x t => .str x t
  | _, _, .bytes b t => .bytes b t
  | _, _, .tuple h r => .tuple (hs _ h (fun q => nomatch q)) (datAll_off hs r)
  | _, _, .list h r => .list (hs _ h (fun q => nomatch q)) (datAll_off hs r)
theorem datAll_off {D D' : List (Addr × Obj)} (hs : ∀ p ∈ D, p.2.cls ≠ .none → p ∈ D') : ∀ {vs : List Value} {ds : List Dat}, DatAll D vs ds → DatAll D' vs ds
  | _, _, .nil => .nil
  | _, _, .cons h r => .cons (datIn_off hs h) (datAll_off hs r)
end
def Off7 (D : List (Addr × Obj)) : Prop := ∀ p ∈ D, p.1 ≠ 37 ∧ p.1 ≠ 32
theorem off7 {D : List (Addr × Obj)} (h : Off7 D) : ∀ p ∈ D, p.1 ≠ 37 := fun p hp => (h p hp).1
theorem off72 {D : List (Addr × Obj)} (h : Off7 D) : ∀ p ∈ D, p.1 ≠ 32 := fun p hp => (h p hp).2
/-- the ledger with the two tables apart again -/
theorem fold_fin {h₀ h : Heap} {L : Addr} {D D' : List (Addr × Obj)} {ps7 ps2 : Array Value} {v : Value} {d : Dat} (N : News h₀ L h ((32, tabObj ps2) :: D')) (m37 : (37, tabObj ps7) ∈ D') (o32 : ∀ p ∈ D', p.1 ≠ 32) (sub : ∀ p ∈ D, p ∈ D') (oD : Off7 D)
    (t7 : Tab37 D' ps7) (t2 : Tab32 D' ps2) (hv : DatIn D' v d) : ∃ D'', (∀ p ∈ D, p ∈ D'') ∧ Off7 D'' ∧ Tab37 D'' ps7 ∧ Tab32 D'' ps2 ∧ DatIn D'' v d ∧ News h₀ L h ((37, tabObj ps7) :: (32, tabObj ps2) :: D'') := by
  have hm : ∀ p, p ∈ D'.filter (fun p => p.1 != 37) ↔ p ∈ D' ∧ p.1 ≠ 37 := fun p => by
    rw [List.mem_filter]
    exact and_congr_right fun _ => bne_iff_ne
  have same : ∀ p ∈ D', p.1 = 37 → p.2 = tabObj ps7 := fun p hp e => by
    have h1 := (N p (.tail _ hp)).1
    have h2 := (N _ (.tail _ m37)).1
    rw [e] at h1
    rw [h1] at h2
    exact Option.some.inj h2
  have off1 : ∀ (c : Addr) (oc : Obj) (vs : Array Value) (x : Str) (t : Tok), (c, oc) ∈ D' → oc.data = .fields vs → vs[1]? = some (.str x t) → c ≠ 37 := fun c oc vs x t hc hd hx e => by
    have h1 := same _ hc e
    dsimp only at h1
    rw [h1] at hd
    have hd' : Data.fields ps7 = Data.fields vs := hd
    cases hd'
    rcases t7 with rfl | ⟨c', oc', vs', t', rfl, _⟩
    · cases hx
    · cases hx
  refine ⟨D'.filter (fun p => p.1 != 37), fun p hp => (hm p).mpr ⟨sub p hp, off7 oD p hp⟩, fun p hp => ⟨((hm p).mp hp).2, o32 p ((hm p).mp hp).1⟩, ?_, ?_, ?_, ?_⟩
  · rcases id t7 with e | ⟨c, oc, vs, t, e, hc, hd, hx⟩
    · exact .inl e
    · exact .inr ⟨c, oc, vs, t, e, (hm _).mpr ⟨hc, off1 c oc vs _ t hc hd hx⟩, hd, hx⟩
  · rcases id t2 with e | ⟨c, oc, vs, t, e, hc, hd, hx⟩
    · exact .inl e
    · exact .inr ⟨c, oc, vs, t, e, (hm _).mpr ⟨hc, off1 c oc vs _ t hc hd hx⟩, hd, hx⟩
  · refine datIn_off (fun p hp hc => (hm p).mpr ⟨hp, fun e => hc ?_⟩) hv
    rw [same p hp e]
  · refine List.forall_mem_cons.mpr ⟨N _ (.tail _ m37), List.forall_mem_cons.mpr ⟨N _ (.head _), fun p hp => N p (.tail _ ((hm p).mp hp).1)⟩⟩
end Mine
end
section
open PySem PySem.W PyProof.Rows PySem.Spec PySem.Calls
namespace Mine
abbrev foldScope : Scope := { kind := .function, names := [(Str.ofString "row", .local), (Str.ofString "start", .local), (Str.ofString "end", .local), (Str.ofString "error", .local), (Str.ofString "calls", .cell), (Str.ofString "walker", .cell), (Str.ofString "iter", .globalImplicit), (Str.ofString "reduce", .globalImplicit), (Str.ofString "ValueError", .globalImplicit), (Str.ofString "StopIteration", .globalImplicit), (Str.ofString "TypeError", .globalImplicit), (Str.ofString "str", .globalImplicit)], isGenerator := false, isCoroutine := false, more := [(Str.ofString "fast", .str (Str.ofString "row")), (Str.ofString "fast", .str (Str.ofString "start")), (Str.ofString "fast", .str (Str.ofString "end")), (Str.ofString "fast", .str (Str.ofString "error")), (Str.ofString "fast", .str (Str.ofString "one")), (Str.ofString "fast", .str (Str.ofString "calls")), (Str.ofString "fast", .str (Str.ofString "walker"))] }
abbrev foldEnv (L' : Addr) : Env := envOfC (Str.ofString "_law_fold") foldScope L' 40 (.ref 39)
abbrev oneScope : Scope := { kind := .function, names := [(Str.ofString ".0", .local), (Str.ofString "one", .local)], isGenerator := false, isCoroutine := false, more := [] }
local macro_rules | `(tactic| k_mem) => `(tactic| first | exact List.Mem.head _ | (refine' List.Mem.tail _ ?_; k_mem) | assumption)
local macro_rules | `(tactic| walk_at "fence") => `(tactic| (with_reducible show wpAny _ _ (call (Value.ref _) _) _ _ _))
local macro_rules | `(tactic| walk_at "fence") => `(tactic| (with_reducible show wpAny _ _ (eval (Expr.ListComp _ _ _ _) _) _ _ _))
local macro_rules | `(tactic| walk_at "fence") => `(tactic| (with_reducible show wpAny _ _ (leaving _ _) _ _ _))
local macro_rules | `(tactic| walk_at "go") => `(tactic| repeat' ((fail_if_success (walk_at "fence")); (first | (k_unfold; (try dsimp only)) | walk1 | (dsimp only; walk1) | (leave1; walk_say "STEP leave1"; try dsimp only) | fail "no step")))
set_option maxRecDepth 100000 in
set_option maxHeartbeats 8000000 in
/-- return [calls, end, [one for one in walker]] -/
theorem fold_end {w : World} {pg : Program} {loose : List Str} {mean : ExcName → Option Value} {mg mb : Str → Option Value} {dp un : Nat} {gd : Option (List Code)} {cn : Str} {cs : Scope} {L a : Addr} {ccd : Value} {cls : List (Str × Addr)} {base g : Heap} {L' : Addr} {s : Shared} {Q : Flow → Shared → Prop} {E : Value → Shared → Prop}
    {D : List (Addr × Obj)} {wk cl le : Addr} {wo ow oc lo : Obj} {cvs rem : List Value} {k : Nat} {ps : Array Value} {dcs : List Dat} {ed : Dat} {left : List (Int × Int)} {m' : Str → Option Value} {p1 p2 p3 p4 p5 p6 p7 p8 : Pos}
    (B' : Below (ktrTop dp un gd cn cs L a ccd cls []) base [envX cn cs L a ccd cls] g) (F : Fr g L' s.heap m') (X : (Mine.hd.heap_39 w.params).In g) (N : News g L' s.heap ((le, lo) :: Led wk wo cl cvs k ps D)) (T : Top pg loose mean mg mb g)
    (hend : m' (Str.ofString "end") = some (.ref le)) (hed : DatIn ((le, lo) :: D) (.ref le) ed) (mw : (L' + 1 + 1, ow) ∈ D) (dw : ow.data = .cell (some (.ref wk))) (mc : (L' + 1, oc) ∈ D) (dc : oc.data = .cell (some (.ref cl)))
    (hW : WkO D rem wo) (hrd : DatAll D rem (left.map thD)) (hcd : DatAll D cvs dcs) (off : Off D wk cl 32) (hne : (@Ne Nat wk cl) ∧ (@Ne Nat wk 32) ∧ (@Ne Nat cl 32)) (hle : (@Ne Nat le wk) ∧ (@Ne Nat le 32)) (hlen : left.length ≤ 63)
    (ret : ∀ r h' tk' D', (∀ p ∈ D, p ∈ D') → (∀ p ∈ D', p.1 ≠ 32) → DatIn D' r (.list [.list dcs, ed, .list (left.map thD)]) → Fr g L' h' m' → News g L' h' ((32, tabObj ps) :: D') → Q (.ret r) { s with heap := h', toks := tk' }) :
    wpAny (model PySem.Challenge.rw_dz0035_01.row.prog w) ((ktrTop dp un gd cn cs L a ccd cls []).deeper (foldEnv L')) (exec (.Return (some (.List [.Name (Str.ofString "calls") p1, .Name (Str.ofString "end") p2, .ListComp (.Name (Str.ofString "one") p3) [⟨.Name (Str.ofString "one") p4, .Name (Str.ofString "walker") p5, [], 0⟩] oneScope p6] p7)) p8) (foldEnv L')) Q E s := by
  w_on
  revert X
  k_fill
  intro X
  walk_at "go"
  k_dflt (refine nameX_L F hend ?_)
  walk_at "go"
  have N2 : News g L' s.heap ((wk, wo) :: (le, lo) :: (cl, W.listOf cvs.toArray k) :: (32, tabObj ps) :: D) := news_sub N fun p hp => by
    simp only [Led, List.mem_cons] at hp ⊢
    rcases hp with h | h | h | h | h <;> simp [h]
  have hrl : rem.length ≤ sizeLine := by
    have h1 := hrd.length
    rw [List.length_map] at h1
    rw [sizeLine_eq]
    omega
  have hDn : ∀ p ∈ D, p ∈ (le, lo) :: (cl, W.listOf cvs.toArray k) :: (32, tabObj ps) :: D := fun p hp => .tail _ (.tail _ (.tail _ hp))
  have offw : ∀ p ∈ (le, lo) :: (cl, W.listOf cvs.toArray k) :: (32, tabObj ps) :: D, p.1 ≠ wk := List.forall_mem_cons.mpr ⟨hle.1, List.forall_mem_cons.mpr ⟨Ne.symm hne.1, List.forall_mem_cons.mpr ⟨Ne.symm hne.2.1, off1 off⟩⟩⟩
  k_dflt (refine ListComp_wk (I := wk) (h₀ := g) (L := L') (m := m') (by with_unfolding_all rfl) (by decide) (by rfl) (by decide) (by rfl) (by rfl) hW hDn offw hrl ?_)
  k_dflt (refine nameX_C N2 (by rfl) (.tail _ (hDn _ mw)) dw ?_)
  refine ⟨rfl, F, N2, fun g9 => ?_⟩
  refine same_induct hDn ?give _ _ _ (by rw [Nat.zero_add]) ?fin
  case give =>
    intro v9 I9 oI9 C9 oC9 Dd9 m9 h9 tk9 E9 ys9 hC9 hx9 F9 N9 Q9 hQ9
    walk_at "go"
    exact hQ9 _
  case fin =>
    unfold LCg.FinE
    intro D1 h1 tk1 F1 N1 o1
    simp only [LCg.Off1, List.nil_append, List.drop_zero] at o1 N1
    dsimp only
    walk_at "go"
    rename_i l3 h3 F3 N3 k3
    have N4 : News g L' h3 ((32, tabObj ps) :: (l3, W.listOf #[Value.ref cl, Value.ref le, Value.ref D1] 0) :: (D1, LCg.lst rem) :: (le, lo) :: (cl, W.listOf cvs.toArray k) :: D) := news_sub N3 fun p hp => by
      simp only [List.mem_cons] at hp ⊢
      rcases hp with h | h | h | h | h | h <;> simp [h]
    refine ret _ h3 _ _ (fun p hp => .tail _ (.tail _ (.tail _ (.tail _ hp)))) ?_ ?_ F3 N4
    · refine List.forall_mem_cons.mpr ⟨(show (@Ne Nat l3 32) by omega), List.forall_mem_cons.mpr ⟨Ne.symm o1.2.2.1, List.forall_mem_cons.mpr ⟨hle.2, List.forall_mem_cons.mpr ⟨hne.2.2, off3 off⟩⟩⟩⟩
    · refine DatIn.list (vs := [_, _, _]) (.head _) (.cons (DatIn.list (.tail _ (.tail _ (.tail _ (.head _)))) (hcd.mono fun p hp => .tail _ (.tail _ (.tail _ (.tail _ hp))))) (.cons (hed.mono fun p hp => ?_) (.cons (DatIn.list (.tail _ (.head _)) (hrd.mono fun p hp => .tail _ (.tail _ (.tail _ (.tail _ hp))))) .nil)))
      rcases List.mem_cons.mp hp with e | hp
      · rw [e]; exact .tail _ (.tail _ (.head _))
      · exact .tail _ (.tail _ (.tail _ (.tail _ hp)))
end Mine
end
section
open PySem PySem.W PyProof.Rows PySem.Spec PySem.Calls
namespace Mine
section
variable {M : Model} {A : Around} {E : Value → Shared → Prop} {s' : Shared} {base g g' h : Heap} {env : Env} {outer : List Env} {L e : Addr} {m : Str → Option Value} {cls a0 : Value} {news : List (Addr × Obj)} {Q : Unit → Shared → Prop}
/-- it comes into the frame of a try, and is noted there -/
theorem exn_looks (hfr : A.frames = some (env :: outer)) (hf : env.frame = some L) (X : Exn base g L m (env :: outer) e cls a0 news s'.heap)
    (hK : ∀ h', Held base g L m (env :: outer) e cls a0 news h' → Q () { s' with heap := h' }) : wpAny M A (noteFrame (.ref e) env) Q E s' := by
  obtain ⟨⟨B, hB, hg, hn, hfl⟩, hn', hu, hns⟩ := X
  exact wpAny_looks_onW hfr hf hfl fun h' x1 x2 => hK h' ⟨⟨B, hB, hg, hn, x1⟩, hn', hu.trans x2, x2.ns hns⟩
/-- the exception's own object -/
theorem exn_obj (X : Exn base g L m (env :: outer) e cls a0 news h) : ∃ oe vs, h.get? e = some oe ∧ oe.cls = cls ∧ oe.data = .fields vs ∧ vs[0]? = some a0 ∧ e ≠ L ∧ g.get? e = none ∧ ∀ q ∈ news, q.1 ≠ e := by
  obtain ⟨⟨B, hB, hg, hn, hst, hen, hff, oe, vs, T, oT, ts, he, hc, hd, h1, r⟩, hn', hu, hns⟩ := X
  refine ⟨oe, vs, he, hc.1, hd, hc.2, fun z => ?_, ?_, fun q hq z => ?_⟩
  · obtain ⟨oL, es, ep, hoL, hdL, _⟩ := hns
    rw [← z, he] at hoL
    cases hoL
    rw [hd] at hdL
    cases hdL
  · cases q : g.get? e with
    | none => rfl
    | some o =>
      by_cases hm : e ∈ (env :: outer).filterMap (·.frame)
      · obtain ⟨_, o', ho', hnf⟩ := hff.mem hm
        rw [he] at ho'
        cases ho'
        exact absurd hd (hnf vs)
      · have := hg e o q hm
        rw [hen] at this; cases this
  · have := hn q hq
    rw [z, hen] at this; cases this
end
end Mine
end
section
open PySem PySem.W PyProof.Rows PySem.Spec PySem.Calls
namespace Mine
local macro_rules | `(tactic| k_mem) => `(tactic| first | exact List.Mem.head _ | (refine' List.Mem.tail _ ?_; k_mem) | assumption)
local macro_rules | `(tactic| walk_at "fence") => `(tactic| (with_reducible show wpAny _ _ (call (Value.ref _) _) _ _ _))
local macro_rules | `(tactic| walk_at "fence") => `(tactic| (with_reducible show wpAny _ _ (call (Value.type _) _) _ _ _))
local macro_rules | `(tactic| walk_at "fence") => `(tactic| (with_reducible show wpAny _ _ (leaving _ _) _ _ _))
local macro_rules | `(tactic| walk_at "fence") => `(tactic| (with_reducible show wpAny _ _ (do bindName _ _ _; unbindBehindTheSuite _ _ _) _ _ _))
local macro_rules | `(tactic| walk_at "go") => `(tactic| repeat' ((fail_if_success (walk_at "fence")); (first | (k_unfold; (try dsimp only)) | walk1 | (dsimp only; walk1) | (leave1; walk_say "STEP leave1"; try dsimp only) | fail "no step")))
set_option maxRecDepth 100000 in
set_option maxHeartbeats 8000000 in
/-- the three handlers of _law_fold -/
theorem fold_catch {w : World} {pg : Program} {loose : List Str} {mean : ExcName → Option Value} {mg mb : Str → Option Value} {dp un : Nat} {gd : Option (List Code)} {cn : Str} {cs : Scope} {L a : Addr} {ccd : Value} {cls : List (Str × Addr)} {base g : Heap} {L' e : Addr} {s : Shared} {Q : Flow → Shared → Prop} {E : Value → Shared → Prop}
    {D : List (Addr × Obj)} {wk cl : Addr} {wo : Obj} {cvs : List Value} {k : Nat} {ps : Array Value} {ed : Dat} {m' : Str → Option Value} {nm : String} {a0 : Value} {a1 a2 a3 a4 a5 a6 a7 b1 b2 b3 b4 b5 b6 b7 c1 c2 c3 c4 c5 c6 c7 c8 c9 : Pos}
    (B' : Below (ktrTop dp un gd cn cs L a ccd cls []) base [envX cn cs L a ccd cls] g) (ha : g.objs.size ≤ L') (XB : (Mine.hd.heap_39 w.params).In base) (TB : Top pg loose mean mg mb base) (hu : un + 300 < cLine)
    (X : Exn base g L' m' [foldEnv L', envX cn cs L a ccd cls] e (.type nm) a0 (Led wk wo cl cvs k ps D) s.heap) (says : ExcSays D nm a0 ed)
    (cont : ∀ g2 le lo h2 tk2 m2, KtsTurn ([envX cn cs L a ccd cls].filterMap (·.frame)) g g2 → Below (ktrTop dp un gd cn cs L a ccd cls []) base [envX cn cs L a ccd cls] g2 → Fr g2 L' h2 m2 → m2 (Str.ofString "end") = some (.ref le) → DatIn ((le, lo) :: D) (.ref le) ed → News g2 L' h2 ((le, lo) :: Led wk wo cl cvs k ps D) → (@LT.lt Nat _ wk le) ∧ (@LT.lt Nat _ 32 le) → Q .next { s with heap := h2, toks := tk2 }) :
    wpAny (model PySem.Challenge.rw_dz0035_01.row.prog w) ((ktrTop dp un gd cn cs L a ccd cls []).deeper (foldEnv L')) (noteFrame (.ref e) (foldEnv L'))
      (fun _ s₂ => wpAny (model PySem.Challenge.rw_dz0035_01.row.prog w) ((ktrTop dp un gd cn cs L a ccd cls []).deeper (foldEnv L')) (setFlight (.ref e) none)
        (fun _ s₃ => wpAny (model PySem.Challenge.rw_dz0035_01.row.prog w) ((ktrTop dp un gd cn cs L a ccd cls []).deeper (foldEnv L')) (handleBy (.ref e) (foldEnv L')
          [.ExceptHandler (some (.Name (Str.ofString "ValueError") a1)) none [.Assign [.Name (Str.ofString "end") a2] (.List [.Constant (.str (Str.ofString "broken")) 0 a3, .Constant (.int 9) 0 a4] a5) a6] a7,
           .ExceptHandler (some (.Name (Str.ofString "StopIteration") b1)) none [.Assign [.Name (Str.ofString "end") b2] (.List [.Constant (.str (Str.ofString "broken")) 0 b3, .Constant (.int 10) 0 b4] b5) b6] b7,
           .ExceptHandler (some (.Name (Str.ofString "TypeError") c1)) (some (Str.ofString "error")) [.Assign [.Name (Str.ofString "end") c2] (.List [.Constant (.str (Str.ofString "refused")) 0 c3, .Call (.Name (Str.ofString "str") c4) [.Name (Str.ofString "error") c5] [] c6] c7) c8] c9]) Q E s₃) E s₂) E s := by
  w_on
  revert XB
  k_fill
  intro XB
  refine exn_looks rfl rfl X ?_
  intro h1 H1
  refine held_lands H1 ?_
  intro h2 X2
  clear X H1
  obtain ⟨g6, tn6, F6, B6, N6⟩ := exn_ground X2 rfl B' ha
  have X6 := XB.keeps B6.stays
  have T6 : Top pg loose mean mg mb g6 := TB.keeps B6.stays
  have there := exn_there X2
  rcases says with ⟨rfl, rfl⟩ | ⟨rfl, rfl⟩ | ⟨rfl, rfl, t, u, n, rfl, mt⟩
  · skip
    refine wpAny_handleBy_builtin (X := "ValueError") (T := "ValueError") (b := true) (by kernel_rfl) (by kernel_rfl) (by kernel_rfl) ?_
    (refine' nameX_B F6 ?k1 (topRead_of T6) ?k3 ?k4 ?k5 ?_; (case k1 => k_asm); (case k3 => k_is); (case k4 => boot_by_name); (case k5 => decide))
    refine ⟨rfl, there, ?_⟩
    show wpAny _ _ (setFlight _ _) _ _ _
    refine exn_lands X2 ?_
    intro h3 X3
    clear F6 B6 N6 X6 T6 tn6
    obtain ⟨g7, tn7, F7, B7, N7⟩ := exn_ground X3 rfl B' ha
    have X7 := XB.keeps B7.stays
    have T7 : Top pg loose mean mg mb g7 := TB.keeps B7.stays
    walk_at "go"
    rename_i le hh1 lt1 hh2 F9 N9
    exact cont g7 le _ hh2 _ _ tn7 B7 F9 (if_pos rfl) (DatIn.list (vs := [_, _]) (.head _) (.cons (.str _ _) (.cons (.int _ _) .nil))) N9 ⟨lt1.1, lt1.2.2.1⟩
  · skip
    refine wpAny_handleBy_builtin (X := "StopIteration") (T := "ValueError") (b := false) (by kernel_rfl) (by kernel_rfl) (by kernel_rfl) ?_
    (refine' nameX_B F6 ?k1 (topRead_of T6) ?k3 ?k4 ?k5 ?_; (case k1 => k_asm); (case k3 => k_is); (case k4 => boot_by_name); (case k5 => decide))
    refine ⟨rfl, there, ?_⟩
    refine (if_neg Bool.false_ne_true).mpr ?_
    refine wpAny_handleBy_builtin (X := "StopIteration") (T := "StopIteration") (b := true) (by kernel_rfl) (by kernel_rfl) (by kernel_rfl) ?_
    (refine' nameX_B F6 ?k1 (topRead_of T6) ?k3 ?k4 ?k5 ?_; (case k1 => k_asm); (case k3 => k_is); (case k4 => boot_by_name); (case k5 => decide))
    refine ⟨rfl, there, ?_⟩
    show wpAny _ _ (setFlight _ _) _ _ _
    refine exn_lands X2 ?_
    intro h3 X3
    clear F6 B6 N6 X6 T6 tn6
    obtain ⟨g7, tn7, F7, B7, N7⟩ := exn_ground X3 rfl B' ha
    have X7 := XB.keeps B7.stays
    have T7 : Top pg loose mean mg mb g7 := TB.keeps B7.stays
    walk_at "go"
    rename_i le hh1 lt1 hh2 F9 N9
    exact cont g7 le _ hh2 _ _ tn7 B7 F9 (if_pos rfl) (DatIn.list (vs := [_, _]) (.head _) (.cons (.str _ _) (.cons (.int _ _) .nil))) N9 ⟨lt1.1, lt1.2.2.1⟩
  · skip
    refine wpAny_handleBy_builtin (X := "TypeError") (T := "ValueError") (b := false) (by kernel_rfl) (by kernel_rfl) (by kernel_rfl) ?_
    (refine' nameX_B F6 ?k1 (topRead_of T6) ?k3 ?k4 ?k5 ?_; (case k1 => k_asm); (case k3 => k_is); (case k4 => boot_by_name); (case k5 => decide))
    refine ⟨rfl, there, ?_⟩
    refine (if_neg Bool.false_ne_true).mpr ?_
    refine wpAny_handleBy_builtin (X := "TypeError") (T := "StopIteration") (b := false) (by kernel_rfl) (by kernel_rfl) (by kernel_rfl) ?_
    (refine' nameX_B F6 ?k1 (topRead_of T6) ?k3 ?k4 ?k5 ?_; (case k1 => k_asm); (case k3 => k_is); (case k4 => boot_by_name); (case k5 => decide))
    refine ⟨rfl, there, ?_⟩
    refine (if_neg Bool.false_ne_true).mpr ?_
    refine wpAny_handleBy_builtin_as (X := "TypeError") (T := "TypeError") (b := true) (by kernel_rfl) (by kernel_rfl) (by kernel_rfl) ?_
    (refine' nameX_B F6 ?k1 (topRead_of T6) ?k3 ?k4 ?k5 ?_; (case k1 => k_asm); (case k3 => k_is); (case k4 => boot_by_name); (case k5 => decide))
    refine ⟨rfl, there, ?_⟩
    show wpAny _ _ (setFlight _ _) _ _ _
    refine exn_lands X2 ?_
    intro h3 X3
    clear F6 B6 N6 X6 T6 tn6
    obtain ⟨g7, tn7, F7, B7, N7⟩ := exn_ground X3 rfl B' ha
    have X7 := XB.keeps B7.stays
    have T7 : Top pg loose mean mg mb g7 := TB.keeps B7.stays
    obtain ⟨oe, ws, he, hec, hed, he0, heL, heg, heo⟩ := exn_obj X3
    have N8 : News g7 L' h3 ((e, oe) :: Led wk wo cl cvs k ps D) := List.forall_mem_cons.mpr ⟨⟨he, heL, tn7.none_ _ heg⟩, N7⟩
    clear N7
    walk_at "go"
    rename_i h4 F4 N4
    k_dflt (refine str_got_one PySem.F.excStr_TypeError N4 (m := emptyMsg) (u := u) (t := t) ⟨oe, _, ws, n, .head _, .tail _ (.tail _ (.tail _ (.tail _ mt))), hec, hed, he0, rfl, rfl⟩ (by ktr_units) ?_)
    walk_at "go"
    rename_i le hh1 lt1 hh2 F9 N9
    refine wpAny_nameGoes_keeps rfl F9.ns rfl ?_
    intro h5 v5 hn5 hs5
    have F5 := F9.set hn5 hs5
    have N5 := N9.set hs5
    refine cont g7 le (W.listOf #[Value.str (Str.ofString "refused") tk, Value.str emptyMsg u] 0) h5 _ _ tn7 B7 F5 ?_ (DatIn.list (vs := [_, _]) (.head _) (.cons (.str _ _) (.cons (.str _ _) .nil))) (news_sub N5 fun p hp => ?_) ⟨lt1.2.1, lt1.2.2.2.1⟩
    · exact (if_neg (by decide)).trans (if_pos rfl)
    · rcases List.mem_cons.mp hp with h | h
      · rw [h]; exact .head _
      · exact .tail _ (.tail _ h)
end Mine
end
section
open PySem PySem.W PyProof.Rows PySem.Spec PySem.Calls
namespace Mine
local macro_rules | `(tactic| k_mem) => `(tactic| first | exact List.Mem.head _ | (refine' List.Mem.tail _ ?_; k_mem) | assumption)
local macro_rules | `(tactic| walk_at "fence") => `(tactic| (with_reducible show wpAny _ _ (call (Value.ref _) _) _ _ _))
local macro_rules | `(tactic| walk_at "fence") => `(tactic| (with_reducible show wpAny _ _ (call (Value.builtin "iter") _) _ _ _))
local macro_rules | `(tactic| walk_at "fence") => `(tactic| (with_reducible show wpAny _ _ (pyIter _) _ _ _))
local macro_rules | `(tactic| walk_at "fence") => `(tactic| (with_reducible show wpAny _ _ (exec (Stmt.For _ _ _ _ _) _) _ _ _))
local macro_rules | `(tactic| walk_at "fence") => `(tactic| (with_reducible show wpAny _ _ (compareOp CmpOp.Is _ _) _ _ _))
local macro_rules | `(tactic| walk_at "fence") => `(tactic| (with_reducible show wpAny _ _ (leaving _ _) _ _ _))
local macro_rules | `(tactic| walk_at "fence") => `(tactic| (with_reducible show (Exists _)))
local macro_rules | `(tactic| walk_at "go") => `(tactic| repeat' ((fail_if_success (walk_at "fence")); (first | (k_unfold; (try dsimp only)) | walk1 | (dsimp only; walk1) | (leave1; walk_say "STEP leave1"; try dsimp only) | fail "no step")))
local macro_rules | `(tactic| walk_at "fence") => `(tactic| (with_reducible show wpAny _ _ (exec (Stmt.Try _ _ _ _ _) _) _ _ _))
local macro_rules | `(tactic| walk_at "fence") => `(tactic| (with_reducible show wpAny _ _ (exec (Stmt.Raise _ _ _) _) _ _ _))
local macro_rules | `(tactic| walk_at "fence") => `(tactic| (with_reducible show wpAny _ _ (call (Value.builtin "next") _) _ _ _))
local macro_rules | `(tactic| walk_at "fence") => `(tactic| (with_reducible show wpAny _ _ (handleBy _ _ _) _ _ _))
local macro_rules | `(tactic| walk_at "fence") => `(tactic| (with_reducible show wpAny _ _ (noteFrame _ _) _ _ _))
local macro_rules | `(tactic| walk_at "fence") => `(tactic| (with_reducible show wpAny _ _ (call (Value.type _) _) _ _ _))
local macro_rules | `(tactic| walk_at "fence") => `(tactic| (with_reducible show wpAny _ _ (setFlight _ _) _ _ _))
local macro_rules | `(tactic| walk_at "fence") => `(tactic| (with_reducible show StarOf _ _ _ _ _ _))
local macro_rules | `(tactic| k_all) => `(tactic| first | assumption | exact List.forall_mem_nil _ | (refine' List.forall_mem_cons.mpr ⟨?a, ?b⟩; (case a => k_ne); (case b => k_all)))
local macro_rules | `(tactic| walk_at "fence") => `(tactic| (with_reducible show wpAny _ _ (eval (Expr.Lambda _ _ _ _) _) _ _ _))
local macro_rules | `(tactic| walk_at "fence") => `(tactic| (with_reducible show wpAny _ _ (eval (Expr.ListComp _ _ _ _) _) _ _ _))
local macro_rules | `(tactic| walk_at "fence") => `(tactic| (with_reducible show wpAny _ _ (exec (Stmt.Return _ _) _) _ _ _))
theorem restS_rem : ∀ (n : Nat) (ps : List (Int × Int)) (d : Dat) (c : Int), ps.length ≤ n → (restS ps d c).2.2.length ≤ ps.length := by
  intro n
  induction n with
  | zero => intro ps d c h; cases ps with
    | nil => rw [restS]; exact Nat.le_refl _
    | cons p r => simp at h
  | succ n ih =>
    intro ps d c h
    cases ps with
    | nil => rw [restS]; exact Nat.le_refl _
    | cons p r =>
      rw [restS]
      split
      · simp only [List.length_drop, List.length_cons]; omega
      · have := ih (r.drop (takeOf p.2)) (giv (fateOf p.2) c) (c + 1) (by simp only [List.length_drop, List.length_cons] at *; omega)
        simp only [List.length_drop, List.length_cons] at *
        omega
theorem due_left {rp l : List (Int × Int)} {sd : Option Dat} {x y : Dat} (h : dueD rp sd = .list [x, y, .list (l.map thD)]) : l.length ≤ rp.length := by
  have key : ∀ (ps : List (Int × Int)) (d : Dat), ps.length ≤ rp.length → outD (restS ps d 0) = .list [x, y, .list (l.map thD)] → l.length ≤ rp.length := by
    intro ps d hl e
    unfold outD at e
    injection e with e
    injection e with _ e
    injection e with _ e
    injection e with e _
    injection e with e
    have h1 := congrArg List.length e
    rw [List.length_map, List.length_map] at h1
    have h2 := restS_rem _ ps d 0 (Nat.le_refl _)
    omega
  cases sd with
  | some d => exact key rp d (Nat.le_refl _) h
  | none =>
    cases rp with
    | cons p r => exact key r (thD p) (Nat.le_succ _) h
    | nil =>
      unfold dueD at h
      injection h with e
      injection e with _ e
      injection e with _ e
      injection e with e _
      injection e with e
      have h1 := congrArg List.length e
      rw [List.length_map] at h1
      simp at h1
      simp [h1]
set_option maxRecDepth 100000 in
set_option maxHeartbeats 8000000 in
theorem fold_ok {w : World} {pg : Program} {loose : List Str} {mean : ExcName → Option Value} {mg mb : Str → Option Value} {D : List (Addr × Obj)} {ps7 ps2 : Array Value} {row st : Addr} {rvs svs : List Value} {rn sn : Nat} {rp : List (Int × Int)} {sd : Option Dat}
    (off : Off7 D) (t7 : Tab37 D ps7) (t2 : Tab32 D ps2) (hrow : (row, W.listOf rvs.toArray rn) ∈ D) (hrd : DatAll D rvs (rp.map thD)) (hst : (st, W.listOf svs.toArray sn) ∈ D) (hsd : DatAll D svs sd.toList) (h15 : ∀ v ∈ svs, v ≠ .ref 15) (hlen : rp.length ≤ 63)
    {dp un : Nat} {gd : Option (List Code)} {cn : Str} {cs : Scope} {a : Addr} {ccd : Value} {cls : List (Str × Addr)} {A₀ : Around} {base h₀ : Heap} {L : Addr} {m : Str → Option Value} {s : Shared} {Q E : Value → Shared → Prop}
    (B : Below A₀ base [] h₀) (F : Fr h₀ L s.heap m) (X : (Mine.hd.heap_39 w.params).In h₀) (N : News h₀ L s.heap ((37, tabObj ps7) :: (32, tabObj ps2) :: D)) (T : Top pg loose mean mg mb h₀) (C : CodeHd h₀ 34 32) (C9 : CodeHd h₀ 39 37) (XB : (Mine.hd.heap_39 w.params).In base) (TB : Top pg loose mean mg mb base) (hk : cs.kind = .function) (hd : dp + 4 * rp.length + 20 < recursionLimit) (hu : un + 16 * (4 * rp.length) + 300 < cLine)
    (ret : ∀ v h' tk' ps7' ps2' D', (∀ p ∈ D, p ∈ D') → Off7 D' → Tab37 D' ps7' → Tab32 D' ps2' → DatIn D' v (dueD rp sd) → Fr h₀ L h' m → News h₀ L h' ((37, tabObj ps7') :: (32, tabObj ps2') :: D') → Q v { s with heap := h', toks := tk' }) :
    wpAny (model PySem.Challenge.rw_dz0035_01.row.prog w) (ktrTop dp un gd cn cs L a ccd cls []) (call (.ref 40) [.ref row, .ref st]) Q E s := by
  w_on
  revert X
  k_fill
  intro X
  refine wpAny_call ?_
  k_dflt (refine' code_defCS0 ?k1 ?k2 ?k3 ?k4 ?k5 ?kA ?kF ?kK ?k6 ?k7 ?k8 ?k9 ?kB ?kD ?_ ?c2 ?c3 ?c4; (case kA => exact rfl); (case kF => exact rfl); (case kK => assumption); (case k1 => k_asm); (case k2 => k_asm); (case k3 => k_asm); (case k4 => k_asm); (case k5 => k_asm); (case k6 => k_is); (case k7 => k_is); (case k8 => ktr_room); (case k9 => exact BindsTo.of_eq (binds := [("row", .ref row), ("start", .ref st)]) rfl); (case kB => exact rfl); (case kD => decide +kernel); (case c2 => exact rfl); (case c3 => exact rfl); (case c4 => exact rfl); k_whole; intro g' L' h' tk' cells' FG' F' N' Y' B' X' T' l1; k_cells Y'; (try simp only [List.cons_append, List.nil_append] at N'); (try dsimp only); (try k_lift B'); (try k_fold))
  have oD1 : ∀ p ∈ D, p.1 ≠ L' + 1 := fun p hp => Nat.ne_of_lt (Nat.lt_succ_of_lt (l1 p (.tail _ (.tail _ hp))))
  have oD2 : ∀ p ∈ D, p.1 ≠ L' + 1 + 1 := fun p hp => Nat.ne_of_lt (Nat.lt_succ_of_lt (Nat.lt_succ_of_lt (l1 p (.tail _ (.tail _ hp)))))
  have oD3 := off7 off
  have oD4 := off72 off
  have lD := l1
  k_lt l1
  walk_at "go"
  refine iter_list (by k_asm) (by k_asm) (by k_mem) ?_
  intro wk h2 F2 N2 fr2
  have oD5 : ∀ p ∈ D, p.1 ≠ wk := fun p hp => Nat.ne_of_lt (fr2 p (by (repeat' apply List.mem_cons_of_mem); exact hp))
  k_lt fr2
  walk_at "go"
  refine wpAny_Try_except ?_
  walk_at "go"
  rename_i cl h4 l1a tp h5 l1b h6 h7 ow dw h8 oc F3 N3 dc
  have N4 : News g' L' h8 ((37, tabObj ps7) :: Led wk (itO row 0) cl [] 0 ps2 ((L' + 1 + 1, ow) :: (L' + 1, oc) :: D)) := news_sub N3 fun p hp => by
    simp only [Led, List.mem_cons] at hp ⊢
    rcases hp with h | h | h | h | h | h | h <;> simp [h]
  k_dflt (refine lam_fold F3 N4 T' (C9.keeps FG'.keep) ?off37 t7 (by with_unfolding_all rfl) ?_)
  case off37 => k_all
  intro f qual pm c' ctv oc' vs t h9 tk9 ps7' es mf mc dd vv fr37 fres tab' F9 N9
  have bigD : ∃ D2, (∀ p ∈ es ++ D, p ∈ D2) ∧ (37, tabObj ps7') ∈ D2 ∧ (L' + 1 + 1, ow) ∈ D2 ∧ (L' + 1, oc) ∈ D2 ∧ News g' L' h9 (Led wk (itO row 0) cl [] 0 ps2 D2) ∧ Off D2 wk cl 32 := by
    refine ⟨(37, tabObj ps7') :: (L' + 1 + 1, ow) :: (L' + 1, oc) :: (es ++ D), fun p hp => .tail _ (.tail _ (.tail _ hp)), .head _, .tail _ (.head _), .tail _ (.tail _ (.head _)), news_sub N9 fun p hp => ?_, ?_⟩
    · simp only [Led, List.mem_cons, List.mem_append] at hp ⊢
      rcases hp with h | h | h | h | h | h | h | h <;> simp [h]
    · have hes : ∀ p ∈ es, wk < p.1 ∧ cl < p.1 ∧ 32 < p.1 := fun p hp => ⟨fres (wk, _) (.head _) p hp, fres (cl, _) (.tail _ (.head _)) p hp, fres (32, _) (.tail _ (.tail _ (.head _))) p hp⟩
      have hDD : Off D wk cl 32 := fun p hp => ⟨oD5 p hp, Nat.ne_of_lt (allLt_mem l1a.2.2.2.2.2 p hp), oD4 p hp⟩
      exact List.forall_mem_cons.mpr ⟨(show (@Ne Nat 37 wk) ∧ (@Ne Nat 37 cl) ∧ (@Ne Nat 37 32) by omega), List.forall_mem_cons.mpr ⟨(show (@Ne Nat (L' + 1 + 1) wk) ∧ (@Ne Nat (L' + 1 + 1) cl) ∧ (@Ne Nat (L' + 1 + 1) 32) by omega), List.forall_mem_cons.mpr ⟨(show (@Ne Nat (L' + 1) wk) ∧ (@Ne Nat (L' + 1) cl) ∧ (@Ne Nat (L' + 1) 32) by omega), off_app hDD hes⟩⟩⟩
  clear N9
  obtain ⟨D2, sub2, m37, mw, mc2, N9, off2⟩ := bigD
  have subD : ∀ p ∈ D, p ∈ D2 := fun p hp => sub2 p (List.mem_append_right _ hp)
  have hst2 := subD _ hst
  have hlam : LamIn D2 wk cl f := ⟨_, _, _, _, _, _, _, _, _, _, _, _, c', ctv, oc', vs, t, ow, oc, sub2 _ (List.mem_append_left _ mf), sub2 _ mc, dd, vv, mw, dw, mc2, dc⟩
  have tab2 := tab'.mono sub2
  have bef : Bef D2 wk cl (itO row 0) [] ps2 rp [] := ⟨off2, by omega, ⟨rvs, .inl ⟨row, rvs, rn, 0, rfl, subD _ hrow, rfl⟩, hrd.mono subD⟩, .nil, t2.mono subD, by simpa using hlen⟩
  clear mf mc dd vv fres fr37 tab' sub2
  walk_at "go"
  have hsz : svs.toArray.size ≤ sizeLine := by
    rw [List.size_toArray, sizeLine_eq]
    have h1 := hsd.length
    have h2 : sd.toList.length ≤ 1 := by cases sd <;> simp
    omega
  refine star_seq (by k_asm) (by k_asm) (by k_mem) rfl rfl (.inl rfl) (List.toList_toArray ..) hsz ?_
  intro h10 F10 N10
  walk_at "go"
  rw [List.append_nil]
  k_dflt (refine' red_any bef hlam (hsd.mono subD) h15 ?k1 ?k2 ?k3 ?k4 ?k5 ?kC XB TB ?kK ?kd ?ku ?_ ?_; (case k1 => k_asm); (case k2 => exact F10); (case k3 => k_asm); (case k4 => exact N10); (case k5 => k_asm); (case kC => exact C.keeps FG'.keep); (case kK => exact rfl))
  case kd => show dp + 1 + _ + 10 < _; omega
  case ku => show un + 3 + _ + 200 < _; omega
  · intro v9 d9 q9 h11 tk11 wo9 cvs9 k9 ps9 D9 hdue aft hv9 F11 N11
    have mw9 := aft.sub _ mw
    have mc9 := aft.sub _ mc2
    have m379 := aft.sub _ m37
    have tab9 := tab2.mono aft.sub
    have sub9 : ∀ p ∈ D, p ∈ D9 := fun p hp => aft.sub _ (subD p hp)
    obtain ⟨_, off9, ⟨rem9, hW9, hrd9⟩, calls9, t29⟩ := aft
    rw [List.nil_append] at calls9
    have left9 := due_left hdue
    try dsimp only
    walk_at "go"
    rename_i le hh lt9 F' N'
    k_dflt (refine fold_end B' F' X' N' T' (by rfl) (DatIn.list (vs := [_, _]) (.head _) (.cons (.str _ _) (.cons (hv9.mono fun p hp => .tail _ hp) .nil))) mw9 dw mc9 dc hW9 hrd9 calls9 off9 bef.ne (by omega) (by omega) ?_)
    intro r12 h12 tk12 D12 sub12 o12 hdat F12 N12
    refine leaveS0_ F12 N12 KtsTurn.refl ?_
    intro kF kN
    obtain ⟨Dz, z1, z2, z3, z4, z5, z6⟩ := fold_fin kN (sub12 _ m379) o12 (fun p hp => sub12 _ (sub9 p hp)) off (tab9.mono sub12) (t29.mono sub12) hdat
    rw [← hdue] at z5
    exact ret r12 h12 tk12 ps7' ps9 Dz z1 z2 z3 z4 z5 kF z6
  · intro e9 nm a0 ed q9 h11 tk11 wo9 cvs9 k9 ps9 D9 hdue says aft X11
    have mw9 := aft.sub _ mw
    have mc9 := aft.sub _ mc2
    have m379 := aft.sub _ m37
    have tab9 := tab2.mono aft.sub
    have sub9 : ∀ p ∈ D, p ∈ D9 := fun p hp => aft.sub _ (subD p hp)
    obtain ⟨_, off9, ⟨rem9, hW9, hrd9⟩, calls9, t29⟩ := aft
    rw [List.nil_append] at calls9
    have left9 := due_left hdue
    try dsimp only
    k_dflt (refine fold_catch B' (Fr.above F10) XB TB (by omega) X11 says ?_)
    intro g2 le lo h13 tk13 m13 tn2 B2 F13 hend hed N13 lt13
    have X13 := XB.keeps B2.stays
    have T13 : Top pg loose mean mg mb g2 := TB.keeps B2.stays
    walk_at "go"
    k_dflt (refine fold_end B2 F13 X13 N13 T13 hend hed mw9 dw mc9 dc hW9 hrd9 calls9 off9 bef.ne (by omega) (by omega) ?_)
    intro r12 h12 tk12 D12 sub12 o12 hdat F12 N12
    refine leaveS0_ F12 N12 tn2 ?_
    intro kF kN
    obtain ⟨Dz, z1, z2, z3, z4, z5, z6⟩ := fold_fin kN (sub12 _ m379) o12 (fun p hp => sub12 _ (sub9 p hp)) off (tab9.mono sub12) (t29.mono sub12) hdat
    rw [← hdue] at z5
    exact ret r12 h12 tk12 ps7' ps9 Dz z1 z2 z3 z4 z5 kF z6
end Mine
end
section
open PySem PySem.W PyProof.Rows PySem.Spec PySem.Calls
namespace Mine
section
variable {prog : Program} {w : World} {A : Around} {E : Value → Shared → Prop} {s : Shared}
theorem look_int_iter : typeLookup (.type "int") (Str.ofString "__iter__") = pure none := by rw [typeLookup_type, builtinLookup_eq_fast]; kernel_rfl
theorem look_int_item : typeLookup (.type "int") (Str.ofString "__getitem__") = pure none := by rw [typeLookup_type, builtinLookup_eq_fast]; kernel_rfl
theorem look_none_iter : typeLookup (.type "NoneType") (Str.ofString "__iter__") = pure none := by rw [typeLookup_type, builtinLookup_eq_fast]; kernel_rfl
theorem look_none_item : typeLookup (.type "NoneType") (Str.ofString "__getitem__") = pure none := by rw [typeLookup_type, builtinLookup_eq_fast]; kernel_rfl
theorem typeName_none : typeName (.type "NoneType") = pure "NoneType" := by unfold typeName; rw [find?_eq_fast]; kernel_rfl
/-- what can't be walked -/
theorem iter_no {v : Value} {T n : String} {Q : Value → Shared → Prop} (hh : A.handled = none) (hT : s.TypeIs v T) (h1 : typeLookup (.type T) (Str.ofString "__iter__") = pure none) (h2 : typeLookup (.type T) (Str.ofString "__getitem__") = pure none)
    (hn : (Value.type T == Value.type "builtin_function_or_method") = false) (ht : typeName (.type T) = pure n) (hm : (Str.ofString (toString "'" ++ toString n ++ toString "' object is not iterable")).length ≤ sizeLine)
    (hE : ∀ h' tk e, Heap.NewExc s.heap h' e "TypeError" → E (.ref e) { s with heap := h', toks := tk }) : wpAny (model prog w) A (call (.builtin "iter") [v]) Q E s := by
  refine call_function_entry (by decide +kernel) (by decide +kernel) kdk_entry_iter (kdk_args_iter _) ?_
  unfold Builtin.«iter»
  refine wpAny_bind (m := someArgs "iter" 1 2 _) (wpAny_of_eq (a := [v]) (by first | rfl | kernel_rfl!) ?_)
  show wpAny _ _ (pyIter v >>= _) _ _ _
  refine wpAny_bind ?_
  unfold pyIter
  refine wpAny_bind (wpAny_specialOf hT h1 ?_)
  dsimp only
  refine wpAny_bind (wpAny_specialOf hT h2 ?_)
  dsimp only
  refine wpAny_bind (wpAny_rule ?_)
  unfold PySem.typeNameOf shownTypeOf
  refine wpAny_bind (wpAny_bind (wpAny_bind (wpAny_typeOf hT ?_)))
  simp only [hn, Bool.false_eq_true, if_false]
  refine wpAny_pure ?_
  rw [ht]
  refine wpAny_pure ?_
  exact wpAny_raiseErrorMade plainExc_TypeError hh hE hm
theorem iter_int {i : Int} {t : Tok} {Q : Value → Shared → Prop} (hh : A.handled = none) (hE : ∀ h' tk e, Heap.NewExc s.heap h' e "TypeError" → E (.ref e) { s with heap := h', toks := tk }) : wpAny (model prog w) A (call (.builtin "iter") [.int i t]) Q E s :=
  iter_no hh (typeIs_int _ i t) look_int_iter look_int_item (by decide) typeName_int (by decide +kernel) hE
theorem iter_none {Q : Value → Shared → Prop} (hh : A.handled = none) (hE : ∀ h' tk e, Heap.NewExc s.heap h' e "TypeError" → E (.ref e) { s with heap := h', toks := tk }) : wpAny (model prog w) A (call (.builtin "iter") [.none]) Q E s :=
  iter_no hh (typeIs_none _) look_none_iter look_none_item (by decide) typeName_none (by decide +kernel) hE
end
end Mine
end
section
open PySem PySem.W PyProof.Rows PySem.Spec PySem.Calls
namespace Mine
/-- the table of _law_refused's nested code -/
def Tab56 (D : List (Addr × Obj)) (ps : Array Value) : Prop :=
  ps = #[] ∨ ∃ (c : Addr) (oc : Obj) (vs : Array Value) (t : Tok), ps = #[rawInt 58, rawInt 15, .ref c] ∧ (c, oc) ∈ D ∧ oc.data = .fields vs ∧ vs[1]? = some (.str (Str.ofString "_law_refused" ++ Str.ofString ".<locals>." ++ Str.ofString "<lambda>") t)
theorem Tab56.mono {D D' : List (Addr × Obj)} {ps : Array Value} (h : Tab56 D ps) (hs : ∀ p ∈ D, p ∈ D') : Tab56 D' ps :=
  h.imp id fun ⟨c, oc, vs, t, a, b, r⟩ => ⟨c, oc, vs, t, a, hs _ b, r⟩
abbrev rlScope : Scope := { kind := .function, names := [(Str.ofString "one", .local), (Str.ofString "two", .local), (Str.ofString "calls", .free)], isGenerator := false, isCoroutine := false, more := [] }
abbrev rlBody (p1 p2 p3 p4 : Pos) : Expr := .Call (.Attribute (.Name (Str.ofString "calls") p1) (Str.ofString "append") p2) [.Name (Str.ofString "two") p3] [] p4
section
variable {M : Model} {A : Around} {E : Value → Shared → Prop} {s : Shared} {h₀ : Heap} {L a : Addr} {m mg mb : Str → Option Value} {cs : Scope} {clz : List (Str × Addr)} {p : Program} {loose : List Str} {mean : ExcName → Option Value}
  {cc : Addr} {ps : Array Value} {news D : List (Addr × Obj)} {q1 q2 p1 p2 p3 p4 : Pos} {Q : Value → Shared → Prop}
/-- the lambda of _law_refused is made -/
theorem lam_ref (F : Fr h₀ L s.heap m) (N : News h₀ L s.heap ((56, tabObj ps) :: news)) (T : Top p loose mean mg mb h₀) (C : CodeHd h₀ 60 56) (off : ∀ p ∈ news, p.1 ≠ 56) (tab : Tab56 D ps)
    (hcl : closureFor rlScope (envX (Str.ofString "_law_refused") cs L a (.ref 60) clz) = pure [(Str.ofString "calls", cc)])
    (h : ∀ f h' tk' ps' es, (∀ p ∈ es, 56 < p.1) → (∀ q ∈ news, ∀ p ∈ es, q.1 < p.1) → Tab56 (es ++ D) ps' → Fr h₀ L h' m → News h₀ L h' ((56, tabObj ps') :: (es ++ news)) → Q (.ref f) { s with heap := h', toks := tk' }) :
    wpAny M A (eval (.Lambda (lamPar q1 q2) (rlBody p1 p2 p3 p4) rlScope ⟨58, 15, 58, 49⟩) (envX (Str.ofString "_law_refused") cs L a (.ref 60) clz)) Q E s := by
  refine kla_eval rfl ?_
  rcases tab with rfl | ⟨c, oc', vs, t, rfl, hc, hd, hv⟩
  · refine kla_nest F N T C rfl (.head off) (by first | exact trivial | decide | rfl) (by rfl) hcl ?_
    intro f c' oc' vs t ctv h' tk F' N' hd hv hlt hcf
    have N2 := swap2 N'
    refine h f h' tk _ _ ?k3 ?k4 ?k5 F' N2
    case k5 => exact .inr ⟨c', oc', vs, t, rfl, .tail _ (.head _), hd, hv⟩
    case k4 =>
      intro q hq r hr
      have h3 := hlt q (.tail _ hq)
      simp only [List.mem_cons, List.not_mem_nil, or_false] at hr
      rcases hr with rfl | rfl
      · exact Nat.lt_trans h3 hcf
      · exact h3
    case k3 =>
      intro q hq
      have h3 := hlt (56, _) (.head _)
      simp only [List.mem_cons, List.not_mem_nil, or_false] at hq
      rcases hq with rfl | rfl
      · exact Nat.lt_trans h3 hcf
      · exact h3
  · refine kla_hit F N T C rfl (c' := c) (.head _) (by first | exact trivial | decide | rfl) (by rfl) hcl ?_
    intro f ctv h' tk F' N' hlt
    have N2 := swap1 N'
    refine h f h' tk _ _ ?j3 ?j4 ?j5 F' N2
    case j5 => exact .inr ⟨c, oc', vs, t, rfl, .tail _ hc, hd, hv⟩
    case j3 =>
      intro q hq
      have h3 := hlt (56, _) (.head _)
      simp only [List.mem_cons, List.not_mem_nil, or_false] at hq
      subst hq
      exact h3
    case j4 =>
      intro r hr q hq
      have h3 := hlt r (.tail _ hr)
      simp only [List.mem_cons, List.not_mem_nil, or_false] at hq
      subst hq
      exact h3
end
local macro_rules | `(tactic| k_mem) => `(tactic| first | exact List.Mem.head _ | (refine' List.Mem.tail _ ?_; k_mem) | assumption)
local macro_rules | `(tactic| walk_at "fence") => `(tactic| (with_reducible show wpAny _ _ (call (Value.ref _) _) _ _ _))
local macro_rules | `(tactic| walk_at "fence") => `(tactic| (with_reducible show wpAny _ _ (call (Value.builtin "iter") _) _ _ _))
local macro_rules | `(tactic| walk_at "fence") => `(tactic| (with_reducible show wpAny _ _ (leaving _ _) _ _ _))
local macro_rules | `(tactic| walk_at "fence") => `(tactic| (with_reducible show (Exists _)))
local macro_rules | `(tactic| walk_at "fence") => `(tactic| (with_reducible show wpAny _ _ (exec (Stmt.Try _ _ _ _ _) _) _ _ _))
local macro_rules | `(tactic| walk_at "fence") => `(tactic| (with_reducible show wpAny _ _ (handleBy _ _ _) _ _ _))
local macro_rules | `(tactic| walk_at "fence") => `(tactic| (with_reducible show wpAny _ _ (noteFrame _ _) _ _ _))
local macro_rules | `(tactic| walk_at "fence") => `(tactic| (with_reducible show wpAny _ _ (setFlight _ _) _ _ _))
local macro_rules | `(tactic| walk_at "fence") => `(tactic| (with_reducible show StarOf _ _ _ _ _ _))
local macro_rules | `(tactic| walk_at "fence") => `(tactic| (with_reducible show wpAny _ _ (eval (Expr.Lambda _ _ _ _) _) _ _ _))
local macro_rules | `(tactic| walk_at "fence") => `(tactic| (with_reducible show wpAny _ _ (compareOp _ _ _) _ _ _))
local macro_rules | `(tactic| walk_at "fence") => `(tactic| (with_reducible show LeaveS0 _ _ _ _ _ _ _ _))
local macro_rules | `(tactic| k_all) => `(tactic| first | assumption | exact List.forall_mem_nil _ | (refine' List.forall_mem_cons.mpr ⟨?a, ?b⟩; (case a => k_ne); (case b => k_all)))
local macro_rules | `(tactic| walk_at "go") => `(tactic| repeat' ((fail_if_success (walk_at "fence")); (first | (k_unfold; (try dsimp only)) | walk1 | (dsimp only; walk1) | (leave1; walk_say "STEP leave1"; try dsimp only) | fail "no step")))
set_option maxRecDepth 100000 in
set_option maxHeartbeats 8000000 in
/-- reduce over what can't be walked -/
theorem red_no {w : World} {pg : Program} {loose : List Str} {mean : ExcName → Option Value} {mg mb : Str → Option Value} {news : List (Addr × Obj)} {f : Addr} {sq : Value} {svs : List Value} (hsq : (∃ i t, sq = .int i t) ∨ sq = .none) (hsv : svs.length ≤ 1)
    {dp un : Nat} {gd : Option (List Code)} {cn : Str} {cs : Scope} {a : Addr} {ccd : Value} {cls : List (Str × Addr)} {outer : List Env} {A₀ : Around} {base h₀ : Heap} {L : Addr} {m : Str → Option Value} {s : Shared} {Q E : Value → Shared → Prop}
    (B : Below A₀ base outer h₀) (F : Fr h₀ L s.heap m) (X : (Mine.hd.heap_39 w.params).In h₀) (N : News h₀ L s.heap news) (T : Top pg loose mean mg mb h₀) (hk : cs.kind = .function) (hd : dp + 10 < recursionLimit)
    (exc : ∀ e a0 h' tk', Exn base h₀ L m (envX cn cs L a ccd cls :: outer) e (.type "TypeError") a0 news h' → E (.ref e) { s with heap := h', toks := tk' }) :
    wpAny (model PySem.Challenge.rw_dz0035_01.row.prog w) (ktrTop dp un gd cn cs L a ccd cls outer) (call (.ref 23) (.ref f :: sq :: svs)) Q E s := by
  w_on
  revert X
  k_fill
  intro X
  have two : ∃ ini, svs = [] ∧ ini = Value.ref 15 ∨ svs = [ini] := by
    match svs, hsv with
    | [], _ => exact ⟨_, .inl ⟨rfl, rfl⟩⟩
    | [v], _ => exact ⟨v, .inr rfl⟩
  obtain ⟨ini, two⟩ := two
  refine wpAny_call ?_
  rcases two with ⟨rfl, rfl⟩ | rfl
  · k_dflt (refine' code_def ?k1 ?k2 ?k3 ?k4 ?k5 ?kA ?kF ?kK ?k6 ?k7 ?k8 (binds := [("function", .ref f), ("sequence", sq), ("initial", .ref 15)]) ?k9 ?kB ?_ ?c2 ?c3 ?c4 ?c5; (case kA => exact rfl); (case kF => exact rfl); (case kK => assumption); (case k1 => k_asm); (case k2 => k_asm); (case k3 => k_asm); (case k4 => k_asm); (case k5 => k_asm); (case k6 => k_is); (case k7 => k_is); (case k8 => ktr_room); (case k9 => first | exact BindsTo.of_eq rfl | exact binds_K (by k_in) rfl (by k_is) rfl rfl rfl); (case c5 => decide); (case kB => exact locs rfl); (case c2 => exact rfl); (case c3 => exact rfl); (case c4 => exact rfl); k_whole; intro g' L' h' FG' F' N' B' X' T'; (try dsimp only))
    walk_at "go"
    have raised : ∀ h2 tk2 e2, Heap.NewExc h' h2 e2 "TypeError" → wpAny (model PySem.Challenge.rw_dz0035_01.row.prog w) ((ktrTop dp un gd cn cs L a ccd cls outer).deeper (redEnv L')) (leaving (redEnv L') (.ref e2)) (fun _ s'' => E (.ref e2) s'') (fun e' s'' => E e' s'') { s with heap := h2, toks := tk2 } := by
      intro h2 tk2 e2 hx
      refine exn_made B' rfl rfl F' N' hx FG' ?_
      intro h5 a5 hX
      exact exc e2 a5 h5 tk2 hX
    rcases hsq with ⟨i, t, rfl⟩ | rfl
    · exact iter_int rfl raised
    · exact iter_none rfl raised
  · k_dflt (refine' code_def ?k1 ?k2 ?k3 ?k4 ?k5 ?kA ?kF ?kK ?k6 ?k7 ?k8 (binds := [("function", .ref f), ("sequence", sq), ("initial", ini)]) ?k9 ?kB ?_ ?c2 ?c3 ?c4 ?c5; (case kA => exact rfl); (case kF => exact rfl); (case kK => assumption); (case k1 => k_asm); (case k2 => k_asm); (case k3 => k_asm); (case k4 => k_asm); (case k5 => k_asm); (case k6 => k_is); (case k7 => k_is); (case k8 => ktr_room); (case k9 => first | exact BindsTo.of_eq rfl | exact binds_K (by k_in) rfl (by k_is) rfl rfl rfl); (case c5 => decide); (case kB => exact locs rfl); (case c2 => exact rfl); (case c3 => exact rfl); (case c4 => exact rfl); k_whole; intro g' L' h' FG' F' N' B' X' T'; (try dsimp only))
    walk_at "go"
    have raised : ∀ h2 tk2 e2, Heap.NewExc h' h2 e2 "TypeError" → wpAny (model PySem.Challenge.rw_dz0035_01.row.prog w) ((ktrTop dp un gd cn cs L a ccd cls outer).deeper (redEnv L')) (leaving (redEnv L') (.ref e2)) (fun _ s'' => E (.ref e2) s'') (fun e' s'' => E e' s'') { s with heap := h2, toks := tk2 } := by
      intro h2 tk2 e2 hx
      refine exn_made B' rfl rfl F' N' hx FG' ?_
      intro h5 a5 hX
      exact exc e2 a5 h5 tk2 hX
    rcases hsq with ⟨i, t, rfl⟩ | rfl
    · exact iter_int rfl raised
    · exact iter_none rfl raised
set_option maxRecDepth 100000 in
set_option maxHeartbeats 8000000 in
/-- _law_refused -/
theorem refused_ok {w : World} {pg : Program} {loose : List Str} {mean : ExcName → Option Value} {mg mb : Str → Option Value} {D : List (Addr × Obj)} {ps6 : Array Value} {st : Addr} {svs : List Value} {sn : Nat} {sq : Value}
    (off : ∀ p ∈ D, p.1 ≠ 56) (t6 : Tab56 D ps6) (hst : (st, W.listOf svs.toArray sn) ∈ D) (hsq : (∃ i t, sq = .int i t) ∨ sq = .none) (hsv : svs.length ≤ 1)
    {dp un : Nat} {gd : Option (List Code)} {cn : Str} {cs : Scope} {a : Addr} {ccd : Value} {cls : List (Str × Addr)} {A₀ : Around} {base h₀ : Heap} {L : Addr} {m : Str → Option Value} {s : Shared} {Q E : Value → Shared → Prop}
    (B : Below A₀ base [] h₀) (F : Fr h₀ L s.heap m) (X : (Mine.hd.heap_39 w.params).In h₀) (N : News h₀ L s.heap ((56, tabObj ps6) :: D)) (T : Top pg loose mean mg mb h₀) (C : CodeHd h₀ 60 56) (XB : (Mine.hd.heap_39 w.params).In base) (TB : Top pg loose mean mg mb base) (hk : cs.kind = .function) (hd : dp + 20 < recursionLimit) (hu : un + 300 < cLine)
    (ret : ∀ h' tk' ps6' es, (∀ p ∈ es, 56 < p.1) → (∀ q ∈ D, ∀ p ∈ es, q.1 < p.1) → Tab56 (es ++ D) ps6' → Fr h₀ L h' m → News h₀ L h' ((56, tabObj ps6') :: (es ++ D)) → Q (.bool true) { s with heap := h', toks := tk' }) :
    wpAny (model PySem.Challenge.rw_dz0035_01.row.prog w) (ktrTop dp un gd cn cs L a ccd cls []) (call (.ref 61) [sq, .ref st]) Q E s := by
  w_on
  revert X
  k_fill
  intro X
  refine wpAny_call ?_
  k_dflt (refine' code_defCS0 ?k1 ?k2 ?k3 ?k4 ?k5 ?kA ?kF ?kK ?k6 ?k7 ?k8 ?k9 ?kB ?kD ?_ ?c2 ?c3 ?c4; (case kA => exact rfl); (case kF => exact rfl); (case kK => assumption); (case k1 => k_asm); (case k2 => k_asm); (case k3 => k_asm); (case k4 => k_asm); (case k5 => k_asm); (case k6 => k_is); (case k7 => k_is); (case k8 => ktr_room); (case k9 => exact BindsTo.of_eq (binds := [("thing", sq), ("start", .ref st)]) rfl); (case kB => exact rfl); (case kD => decide +kernel); (case c2 => exact rfl); (case c3 => exact rfl); (case c4 => exact rfl); k_whole; intro g' L' h' tk' cells' FG' F' N' Y' B' X' T' l1; k_cells Y'; (try simp only [List.cons_append, List.nil_append] at N'); (try dsimp only); (try k_lift B'); (try k_fold))
  have oD1 : ∀ p ∈ D, p.1 ≠ L' + 1 := fun p hp => Nat.ne_of_lt (Nat.lt_succ_of_lt (l1 p (.tail _ hp)))
  have lD := l1
  k_lt l1
  walk_at "go"
  refine wpAny_Try_except ?_
  walk_at "go"
  rename_i cl h4 l1a h5 oc F3 N3 dc
  have oD2 : ∀ p ∈ D, p.1 ≠ cl := fun p hp => Nat.ne_of_lt (allLt_mem l1a.2.2 p hp)
  have N4 : News g' L' h5 ((56, tabObj ps6) :: (cl, W.listOf #[] 0) :: (L' + 1, oc) :: D) := news_sub N3 fun p hp => by
    simp only [List.mem_cons] at hp ⊢
    rcases hp with h | h | h | h <;> simp [h]
  k_dflt (refine lam_ref F3 N4 T' (C.keeps FG'.keep) ?off56 t6 (by with_unfolding_all rfl) ?_)
  case off56 => k_all
  intro f h9 tk9 ps6' es fr56 fres tab' F9 N9
  have N10 : News g' L' h9 ((cl, W.listOf #[] 0) :: (L' + 1, oc) :: (56, tabObj ps6') :: (es ++ D)) := news_sub N9 fun p hp => by
    simp only [List.mem_cons, List.mem_append] at hp ⊢
    rcases hp with h | h | h | h | h <;> simp [h]
  clear N9
  have hst2 : (st, W.listOf svs.toArray sn) ∈ (cl, W.listOf #[] 0) :: (L' + 1, oc) :: (56, tabObj ps6') :: (es ++ D) := .tail _ (.tail _ (.tail _ (List.mem_append_right _ hst)))
  walk_at "go"
  have hsz : svs.toArray.size ≤ sizeLine := by
    rw [List.size_toArray, sizeLine_eq]
    omega
  refine star_seq F9 N10 hst2 rfl rfl (.inl rfl) (List.toList_toArray ..) hsz ?_
  intro h10 F10 N11
  walk_at "go"
  rw [List.append_nil]
  k_dflt (refine' red_no hsq hsv ?k1 F10 ?k3 N11 ?k5 ?kK ?kd ?_; (case k1 => k_asm); (case k3 => k_asm); (case k5 => k_asm); (case kK => exact rfl))
  case kd => show dp + 1 + 10 < _; omega
  intro e a0 h11 tk11 X11
  refine exn_looks rfl rfl X11 ?_
  intro h1 H1
  refine held_lands H1 ?_
  intro h2 X2
  clear X11 H1
  obtain ⟨g6, tn6, F6, B6, N6⟩ := exn_ground X2 rfl B' (Fr.above F10)
  have X6 := XB.keeps B6.stays
  have T6 : Top pg loose mean mg mb g6 := TB.keeps B6.stays
  have there := exn_there X2
  refine wpAny_handleBy_builtin (X := "TypeError") (T := "TypeError") (b := true) (by kernel_rfl) (by kernel_rfl) (by kernel_rfl) ?_
  k_dflt (refine' nameX_B F6 ?k1 (topRead_of T6) ?k3 ?k4 ?k5 ?_; (case k1 => exact X6); (case k3 => k_is); (case k4 => boot_by_name); (case k5 => decide))
  refine ⟨rfl, there, ?_⟩
  show wpAny _ _ (setFlight _ _) _ _ _
  refine exn_lands X2 ?_
  intro h3 X3
  clear F6 B6 N6 X6 T6 tn6
  obtain ⟨g7, tn7, F7, B7, N7⟩ := exn_ground X3 rfl B' (Fr.above F10)
  have X7 := XB.keeps B7.stays
  have T7 : Top pg loose mean mg mb g7 := TB.keeps B7.stays
  clear X2 X3
  walk_at "go"
  rename_i l5 h5 F5 N5 lt5
  refine dat_eq (na := [(cl, W.listOf #[] 0)]) (nb := [(l5, W.listOf #[] 0)]) (d := .list []) (e := .list []) (fun p hp => by cases hp with | head => exact N5.get (.tail _ (.head _)) | tail _ h => cases h) (fun p hp => by cases hp with | head => exact N5.get (.head _) | tail _ h => cases h) (DatIn.list (vs := []) (.head _) .nil) (DatIn.list (vs := []) (.head _) .nil) rfl rfl (by ktr_units) ?_
  dsimp only [kqdP, kqdPs, PyData.eqv, PyData.eqvAll]
  refine leaveS0_ F5 N5 tn7 ?_
  intro kF kN
  exact ret h5 _ ps6' es fr56 (fun q hq p hp => fres q (.tail _ (.tail _ hq)) p hp) tab' kF (news_sub kN fun p hp => .tail _ (.tail _ (.tail _ hp)))
end Mine
end
section
open PySem PySem.W PyProof.Rows PySem.Spec PySem.Calls
namespace Mine
/-- the things of a row: each number with its place -/
def rowFrom : Nat → List Int → List (Int × Int)
  | _, [] => []
  | k, n :: ns => ((k : Int), n) :: rowFrom (k + 1) ns
def rowOf (ns : List Int) : List (Int × Int) := rowFrom 0 ns
theorem rowFrom_append : ∀ (k : Nat) (a b : List Int), rowFrom k (a ++ b) = rowFrom k a ++ rowFrom (k + a.length) b
  | _, [], _ => rfl
  | k, x :: a, b => by
    show _ :: rowFrom (k + 1) (a ++ b) = _ :: (rowFrom (k + 1) a ++ _)
    rw [rowFrom_append (k + 1) a b, List.length_cons, Nat.add_assoc, Nat.add_comm 1]
theorem rowFrom_length : ∀ (k : Nat) (a : List Int), (rowFrom k a).length = a.length
  | _, [] => rfl
  | k, x :: a => by show (rowFrom (k + 1) a).length + 1 = _; rw [rowFrom_length (k + 1) a]; rfl
theorem rowOf_take {ns : List Int} {i : Nat} {x : Int} (h : ns[i]? = some x) : rowOf (ns.take (i + 1)) = rowOf (ns.take i) ++ [((i : Int), x)] := by
  obtain ⟨hi, e⟩ := List.getElem?_eq_some_iff.mp h
  have e1 : ns.take (i + 1) = ns.take i ++ [x] := by rw [List.take_add_one, h]; rfl
  unfold rowOf
  rw [e1, rowFrom_append, List.length_take, Nat.min_eq_left (Nat.le_of_lt hi), Nat.zero_add]
  rfl
section
variable {prog : Program} {w : World} {A : Around} {E : Value → Shared → Prop} {s : Shared} {h₀ : Heap} {L : Addr} {m : Str → Option Value} {env : Env}
/-- enumerate(l) stands there, not yet begun -/
structure EnumAt (h₀ : Heap) (L : Addr) (m : Str → Option Value) (news : List (Addr × Obj)) (l e it : Addr) (h : Heap) : Prop where
  fr : Fr h₀ L h m
  nw : News h₀ L h news
  en : IsEnum h e it 0 .none
  li : h.IsListIter it l 0
  ne : e ≠ it
  off : ∀ p ∈ news, p.1 ≠ e ∧ p.1 ≠ it
  new : h₀.get? e = none ∧ h₀.get? it = none
  loc : L ≠ e ∧ L ≠ it
theorem enum_call {l : Addr} {vs : List Value} {n : Nat} {news : List (Addr × Obj)} {Q : Value → Shared → Prop} (F : Fr h₀ L s.heap m) (N : News h₀ L s.heap news) (hl : (l, W.listOf vs.toArray n) ∈ news)
    (h : ∀ e it h', EnumAt h₀ L m news l e it h' → Q (.ref e) { s with heap := h' }) : wpAny (model prog w) A (call (.type "enumerate") [.ref l]) Q E s := by
  have none_of : ∀ a, s.heap.objs.size ≤ a → h₀.get? a = none := fun a ha => none_of_stays F.keep (Heap.get?_none_of_le ha)
  refine call_enumerate_list (items := vs.toArray) ⟨_, N.get hl, rfl, n, rfl⟩ fun h' he hit hsz hk => ?_
  refine h _ _ h' ⟨F.keeps hk, N.grown hk, he, hit, Nat.succ_ne_self _, fun p hp => ?_, ⟨none_of _ (Nat.le_succ _), none_of _ (Nat.le_refl _)⟩, Nat.ne_of_lt (Nat.lt_succ_of_lt F.ns.lt), Nat.ne_of_lt F.ns.lt⟩
  have := Heap.lt_size (N p hp).1
  exact ⟨Nat.ne_of_lt (Nat.lt_succ_of_lt this), Nat.ne_of_lt this⟩
/-- [a, b] within a comprehension -/
theorem pair_eval {a b : Str} {p1 p2 p3 : Pos} {scope : Scope} {cl : List (Str × Addr)} {C : Addr} {m₂ : Str → Option Value} {va vb : Value} {Q : Value → Shared → Prop} (hn : s.heap.Ns C m₂) (hkind : scope.kind = .function) (hla : scope.names.lookup a = some .local) (hlb : scope.names.lookup b = some .local)
    (hda : (a == ("__debug__" : Str)) = false) (hdb : (b == ("__debug__" : Str)) = false) (ha : m₂ a = some va) (hb : m₂ b = some vb)
    (h : Q (.ref s.heap.objs.size) { s with heap := s.heap.push { cls := .type "list", data := .seq #[va, vb] } }) : wpAny (model prog w) A (eval (.List [.Name a p1, .Name b p2] p3) (compEnvC scope cl C env)) Q E s := by
  have hk : (compEnvC scope cl C env).scope.kind = .function := by simp [compEnvC, relabel, hkind]
  refine wpAny_List (spliced_more (ldVarK hn ha (spliced_more (ldVarK hn hb (spliced_none ⟨?_, h⟩) hk (lookup_relabel_local hlb) hdb)) hk (lookup_relabel_local hla) hda))
  rw [sizeLine_eq]; show 2 ≤ 16777216; decide
theorem enum_block {a b : Str} {pa pb tp p1 p2 p3 : Pos} {kk : Nat} {iter : PySem.Expr} {scope : Scope} {cl : List (Str × Addr)} {pos : Pos} {s₂ : Shared} {e it l : Addr} {vs : List Value} {ns : List Int} {n0 : Nat} {news : List (Addr × Obj)} {RR : Value → Addr → Result → Shared → Prop}
    (hh : A.handled = none) (hsz : vs.length ≤ sizeLine) (hvs : IntsAre vs ns) (hlm : (l, W.listOf vs.toArray n0) ∈ news) (X : EnumAt h₀ L m news l e it s₂.heap)
    (hcell : ∀ y ∈ scope.names, y.2 ≠ .cell) (hkind : scope.kind = .function) (hxa : scope.names.lookup a = some .local) (hxb : scope.names.lookup b = some .local) (hab : ¬ a = b) (hda : (a == ("__debug__" : Str)) = false) (hdb : (b == ("__debug__" : Str)) = false)
    (hRR : ∀ D C h tk m' ys tl, Fr h₀ L h m → News h₀ L h ((D, LCg.lst ys) :: (tl ++ news)) → DatAll tl ys ((rowOf ns).map thD) → (∀ p ∈ tl, p.2.cls = .type "list") → h.Ns C m' → h₀.get? C = none → C ≠ L → C ≠ D → (∀ p ∈ tl ++ news, p.1 ≠ C) → RR (.ref D) C (.ok .next) { s₂ with heap := h, toks := tk }) :
    wpAny (model prog w) A (newList []) (fun acc s₃ => wpAny (model prog w) A (newFunctionEnv scope env.globals cl [] env.qual none .none (some env)) (fun cenv s₄ =>
      codeAny (model prog w) A (.compStart (.ListComp (.List [.Name a p1, .Name b p2] p3) [⟨.Tuple [.Name a pa, .Name b pb] kk tp, iter, [], 0⟩] scope pos) 0 (.ref e) acc { cenv with scope := relabel scope env }) (RR acc cenv.locals) s₄) E s₃) E s₂ := by
  obtain ⟨F, N, hen, hli, hei, off, ⟨he₀, hit₀⟩, ⟨hLe, hLi⟩⟩ := X
  refine wpAny_newObj_type (wpAny_newFunctionEnv hcell (by intro y hy; simp at hy) (fun h₁ hns₁ hsb₁ => ?_) hkind)
  dsimp only at hns₁ hsb₁ ⊢
  generalize hH2 : s₂.heap.push { cls := .type "list", dict := none, data := .seq ([] : List Value).toArray } = H2 at hns₁ hsb₁ ⊢
  have hC : H2.objs.size = s₂.heap.objs.size + 1 := by rw [← hH2, Heap.size_push]
  have hDC : s₂.heap.objs.size ≠ H2.objs.size := by rw [hC]; exact Nat.ne_of_lt (Nat.lt_succ_self _)
  have below : ∀ b, b < s₂.heap.objs.size → b ≠ H2.objs.size ∧ b ≠ s₂.heap.objs.size := fun b hb => ⟨by rw [hC]; exact Nat.ne_of_lt (Nat.lt_succ_of_lt hb), Nat.ne_of_lt hb⟩
  have helt : e < s₂.heap.objs.size := Heap.lt_size hen
  have hilt : it < s₂.heap.objs.size := by obtain ⟨_, x, _⟩ := hli; exact Heap.lt_size x
  have old : ∀ b o, s₂.heap.get? b = some o → h₁.get? b = some o := fun b o e => hsb₁.extBut b o (below b (Heap.lt_size e)).1 (Heap.get?_push_of_some _ (hH2 ▸ Heap.get?_push_of_some _ e))
  have hacc : h₁.get? s₂.heap.objs.size = some (LCg.lst []) := hsb₁.extBut _ _ hDC (Heap.get?_push_of_some _ (hH2 ▸ Heap.get?_push_size _ rfl))
  have fresh₀ : ∀ a, s₂.heap.objs.size ≤ a → h₀.get? a = none := fun a ha => none_of_stays F.keep (Heap.get?_none_of_le ha)
  have hD₀ : h₀.get? s₂.heap.objs.size = none := fresh₀ _ (Nat.le_refl _)
  have hC₀ : h₀.get? H2.objs.size = none := fresh₀ _ (by rw [hC]; exact Nat.le_succ _)
  have hLlt : L < s₂.heap.objs.size := F.ns.lt
  have hDL : s₂.heap.objs.size ≠ L := Ne.symm (below L hLlt).2
  have hCL : H2.objs.size ≠ L := Ne.symm (below L hLlt).1
  have hCe : e ≠ H2.objs.size := (below e helt).1
  have hDe : e ≠ s₂.heap.objs.size := (below e helt).2
  have hCi : it ≠ H2.objs.size := (below it hilt).1
  have hDi : it ≠ s₂.heap.objs.size := (below it hilt).2
  have hle := (off _ hlm).1
  have hlit := (off _ hlm).2
  have W := WalksT.enumerate (prog := prog) (w := w) hh e it l hei hle hlit vs.toArray
  have loop : ∀ s₃ : Shared, s₃ = { s₂ with heap := h₁, toks := s₂.toks + ([] : List (Str × Value)).length } →
      codeAny (model prog w) A (.compLoop (.ListComp (.List [.Name a p1, .Name b p2] p3) [⟨.Tuple [.Name a pa, .Name b pb] kk tp, iter, [], 0⟩] scope pos) 0 (.ref e) (.ref s₂.heap.objs.size) (compEnvC scope cl H2.objs.size env))
        (RR (.ref s₂.heap.objs.size) H2.objs.size) s₃ := by
    rintro s₃ rfl
    refine kcp_loop
      (fun k s' => ∃ h' tk i ys m' tl, s' = { s₂ with heap := h', toks := tk } ∧ i ≤ vs.length ∧ k = vs.length + 1 - i ∧ ys.length = i ∧ (∃ o, IsEnum h' e it i o) ∧ h'.IsListIter it l i ∧ Fr h₀ L h' m ∧ h'.Ns H2.objs.size m' ∧
        News h₀ L h' ((s₂.heap.objs.size, LCg.lst ys) :: (tl ++ news)) ∧ (∀ p ∈ tl ++ news, p.1 ≠ e ∧ p.1 ≠ it ∧ p.1 ≠ H2.objs.size ∧ p.1 ≠ s₂.heap.objs.size) ∧ DatAll tl ys ((rowOf (ns.take i)).map thD) ∧ ∀ p ∈ tl, p.2.cls = .type "list") ?_ (vs.length + 1)
      ⟨h₁, _, 0, [], _, [], rfl, Nat.zero_le _, rfl, rfl, ⟨_, old _ _ hen⟩, hli.at fun o x => old _ _ x, F.keeps old, hns₁, fun p hp => ?_, fun p hp => ⟨(off p hp).1, (off p hp).2, below _ (Heap.lt_size (N p hp).1)⟩, .nil, fun _ h => (List.not_mem_nil h).elim⟩
    · rintro k s' ⟨h', tk, i, ys, m', tl, rfl, hi, rfl, hyl, hE', hI', F', hn', N', off', dat', cls'⟩
      have hL' : h'.IsList l vs.toArray := ⟨_, (N' _ (.tail _ (List.mem_append_right _ hlm))).1, rfl, n0, rfl⟩
      by_cases hlt : i < vs.length
      · refine W.item i _ _ _ (by simpa using hlt) ⟨hE', hI', hL'⟩ fun T vals h₂ tk₂ hPt hTge hT hMid hk₂ => ?_
        refine W.go [.Name a pa, .Name b pb] kk tp i T _ _ _ hMid fun h₃ hst₃ hk₃ => ?_
        obtain ⟨t, x, hx, rfl⟩ := hPt
        obtain ⟨n, tx, rfl, hnx⟩ := hvs.at i x (by simpa using hx)
        have hTw := W.apart i T h₂ hMid
        have up₃ : ∀ c o, c ≠ e → c ≠ it → h'.get? c = some o → h₃.get? c = some o := fun c o h1 h2 e' => hk₃ c o (by simp [h1, h2]) (hk₂ c o (by simp [h1, h2]) e')
        have hT₃ : h₃.IsTuple T #[.int i t, .int n tx] := hT.at fun o e' => hk₃ T o hTw e'
        refine kcp_assign (env := compEnvC scope cl H2.objs.size env) hh hT₃ (lookup_relabel_local hxa) (lookup_relabel_local hxb) (by simp [compEnvC, relabel, hkind]) (hn'.at' fun o e' => up₃ _ o (Ne.symm hCe) (Ne.symm hCi) e') fun h₄ tk₄ hn₄ hs₄ => ?_
        have up : ∀ c o, c ≠ e → c ≠ it → c ≠ H2.objs.size → h'.get? c = some o → h₄.get? c = some o := fun c o h1 h2 h3 e' => hs₄ c o h3 (up₃ c o h1 h2 e')
        obtain ⟨⟨od, hE₃⟩, hI₃, _⟩ := hst₃
        refine pair_eval (va := .int i t) (vb := .int n tx) hn₄ hkind hxa hxb hda hdb (by simp [hab]) (by simp) ?_
        have hpush : ∀ c o, h₄.get? c = some o → (h₄.push { cls := .type "list", data := .seq #[Value.int i t, Value.int n tx] }).get? c = some o := fun c o e' => Heap.get?_push_of_some _ e'
        have N₄ : ∀ p ∈ (s₂.heap.objs.size, LCg.lst ys) :: (tl ++ news), h₄.get? p.1 = some p.2 := fun p hp => by
          rcases List.mem_cons.mp hp with rfl | hp'
          · exact up _ _ (Ne.symm hDe) (Ne.symm hDi) hDC (N' _ hp).1
          · exact up _ _ (off' p hp').1 (off' p hp').2.1 (off' p hp').2.2.1 (N' _ hp).1
        have zD := hpush _ _ (N₄ _ (.head _))
        refine append_at (hsz := by show ys.toArray.size ≤ sizeLine; rw [List.size_toArray, hyl]; exact Nat.le_trans hi hsz) zD fun h₆ hs₆ hD₆ => ?_
        have keep6 : ∀ c o, c ≠ s₂.heap.objs.size → h₄.get? c = some o → h₆.get? c = some o := fun c o h1 e' => hs₆.extBut c o h1 (hpush c o e')
        have hDlt4 : s₂.heap.objs.size < h₄.objs.size := Heap.lt_size (N₄ _ (.head _))
        have hClt4 : H2.objs.size < h₄.objs.size := hn₄.lt
        have hE₄ : IsEnum h₄ e it ((i + 1 : Nat) : Int) od := hs₄ e _ hCe hE₃
        have helt4 : e < h₄.objs.size := Heap.lt_size hE₄
        have hI₄ : h₄.IsListIter it l (i + 1) := hI₃.at fun o e' => hs₄ it o hCi e'
        have hilt4 : it < h₄.objs.size := by obtain ⟨_, x, _⟩ := hI₄; exact Heap.lt_size x
        have hLlt4 : L < h₄.objs.size := by
          obtain ⟨oL, x1, x2, hoL, _⟩ := F'.ns
          exact Heap.lt_size (up _ _ hLe hLi (Ne.symm hCL) hoL)
        have F₄ : Fr h₀ L h₄ m := ⟨F'.ns.at' fun o e' => up _ o hLe hLi (Ne.symm hCL) e', fun c o e' => up c o (fun q => by rw [q, he₀] at e'; cases e') (fun q => by rw [q, hit₀] at e'; cases e') (fun q => by rw [q, hC₀] at e'; cases e') (F'.keep c o e'), F'.above⟩
        have F₆ : Fr h₀ L h₆ m := ⟨F₄.ns.at' fun o e' => keep6 _ o (Ne.symm hDL) e', fun c o e' => keep6 c o (fun q => by rw [q, hD₀] at e'; cases e') (F₄.keep c o e'), F₄.above⟩
        have hnew : h₆.get? h₄.objs.size = some { cls := .type "list", data := .seq #[Value.int i t, Value.int n tx] } := hs₆.extBut _ _ (Nat.ne_of_gt hDlt4) (Heap.get?_push_size _ rfl)
        refine ⟨vs.length + 1 - (i + 1), by omega, h₆, tk₄, i + 1, ys ++ [.ref h₄.objs.size], _, (h₄.objs.size, { cls := .type "list", data := .seq #[Value.int i t, Value.int n tx] }) :: tl, rfl, hlt, rfl, by rw [List.length_append, List.length_singleton, hyl], ⟨od, keep6 _ _ hDe hE₄⟩, hI₄.at fun o e' => keep6 _ o hDi e', F₆,
          hn₄.at' fun o e' => keep6 _ o (Ne.symm hDC) e', fun p hp => ?_, fun p hp => ?_, ?_, List.forall_mem_cons.mpr ⟨rfl, cls'⟩⟩
        · rcases List.mem_cons.mp hp with rfl | hp
          · exact ⟨hD₆.trans (congrArg some (LCg.lst_snoc ys _)), hDL, hD₀⟩
          · rcases List.mem_cons.mp hp with rfl | hp
            · exact ⟨hnew, Nat.ne_of_gt hLlt4, none_of_stays F₄.keep (Heap.get?_none_of_le (Nat.le_refl _))⟩
            · exact ⟨keep6 _ _ (off' p hp).2.2.2 (N₄ p (.tail _ hp)), (N' p (.tail _ hp)).2⟩
        · rcases List.mem_cons.mp hp with rfl | hp
          · exact ⟨Nat.ne_of_gt helt4, Nat.ne_of_gt hilt4, Nat.ne_of_gt hClt4, Nat.ne_of_gt hDlt4⟩
          · exact off' p hp
        · rw [rowOf_take hnx, List.map_append]
          exact (dat'.mono fun p hp => .tail _ hp).append (.one (DatIn.list (vs := [_, _]) (n := 0) (.head _) (.cons (.int _ _) (.cons (.int _ _) .nil))))
      · have hin : i = vs.length := Nat.le_antisymm hi (Nat.not_lt.mp hlt)
        subst hin
        have hsame : vs.toArray.size = vs.length := List.size_toArray
        have dn := W.done { s₂ with heap := h', toks := tk }
        rw [hsame] at dn
        refine dn _ _ ⟨hE', hI', hL'⟩ fun h₂ tk₂ hk₂ => ?_
        have kp : ∀ c o, c ≠ e → c ≠ it → h'.get? c = some o → h₂.get? c = some o := fun c o h1 h2 e' => hk₂ c o (by simp [h1, h2]) e'
        have hfull : ns.take vs.length = ns := List.take_of_length_le (by rw [hvs.length]; exact Nat.le_refl _)
        rw [hfull] at dat'
        refine hRR _ _ h₂ tk₂ _ ys tl ⟨F'.ns.at' fun o e' => kp _ o hLe hLi e', fun c o e' => kp c o (fun q => by rw [q, he₀] at e'; cases e') (fun q => by rw [q, hit₀] at e'; cases e') (F'.keep c o e'), F'.above⟩ (fun p hp => ⟨?_, (N' p hp).2⟩) dat' cls' (hn'.at' fun o e' => kp _ o (Ne.symm hCe) (Ne.symm hCi) e') hC₀ hCL (Ne.symm hDC) fun p hp => (off' p hp).2.2.1
        rcases List.mem_cons.mp hp with rfl | hp'
        · exact kp _ _ (Ne.symm hDe) (Ne.symm hDi) (N' _ hp).1
        · exact kp _ _ (off' p hp').1 (off' p hp').2.1 (N' _ hp).1
    · rcases List.mem_cons.mp hp with rfl | hp
      · exact ⟨hacc, hDL, hD₀⟩
      · exact ⟨old _ _ (N p hp).1, (N p hp).2⟩
  exact codeAny_compStart_list (loop _ rfl) (wpAny_pyIter_enum (old _ _ hen) (loop _ rfl))
/-- row = [[a, b] for a, b in enumerate(l)] -/
theorem enum_assign {a b y : Str} {pa pb tp p1 p2 p3 py : Pos} {kk : Nat} {iter : PySem.Expr} {scope : Scope} {cl : List (Str × Addr)} {pos spos : Pos} {l : Addr} {vs : List Value} {ns : List Int} {n0 : Nat} {news : List (Addr × Obj)} {Q : Flow → Shared → Prop} (hLe : env.locals = L)
    (hsw : swapsWith (.ListComp (.List [.Name a p1, .Name b p2] p3) [⟨.Tuple [.Name a pa, .Name b pb] kk tp, iter, [], 0⟩] scope pos) (some (.Name y py)) spos.line env = pure true)
    (hclos : closureFor scope env = pure cl) (hcell : ∀ z ∈ scope.names, z.2 ≠ .cell) (hkind : scope.kind = .function)
    (hnames : ∀ z ∈ scope.names, z.2 = .local → scope.names.lookup z.1 = some .local) (hxa : scope.names.lookup a = some .local) (hxb : scope.names.lookup b = some .local) (hab : ¬ a = b) (hda : (a == ("__debug__" : Str)) = false) (hdb : (b == ("__debug__" : Str)) = false)
    (hy : env.kindOf y = some .local) (hp : (env.scope.kind == .class || (env.scope.kind == .module && env.locals != env.globals)) = false)
    (hh : A.handled = none) (hsz : vs.length ≤ sizeLine) (hvs : IntsAre vs ns) (hlm : (l, W.listOf vs.toArray n0) ∈ news)
    (h : wpAny (model prog w) A (eval iter env) (fun xv s₁ => ∃ e it, xv = .ref e ∧ EnumAt h₀ L m news l e it s₁.heap ∧
      ∀ D h' tk' ys tl, Fr h₀ L h' (fun z => if z = y then some (.ref D) else m z) → News h₀ L h' ((D, LCg.lst ys) :: (tl ++ news)) → DatAll tl ys ((rowOf ns).map thD) → (∀ p ∈ tl, p.2.cls = .type "list") → Q .next { s₁ with heap := h', toks := tk' }) E s)
    (hs : ∀ x, foldedSetIterable iter env x = pure x := by intro _; rfl) :
    wpAny (model prog w) A (exec (.Assign [.Name y py] (.ListComp (.List [.Name a p1, .Name b p2] p3) [⟨.Tuple [.Name a pa, .Name b pb] kk tp, iter, [], 0⟩] scope pos) spos) env) Q E s := by
  subst hLe
  rw [exec_Assign_Name_used _ _ _ _ hsw]
  refine wpAny_bind (wpAny_standAt (wpAny_bind ?_))
  show wpAny _ A (do let _ ← comprehension (.ListComp (.List [.Name a p1, .Name b p2] p3) [⟨.Tuple [.Name a pa, .Name b pb] kk tp, iter, [], 0⟩] scope pos) scope env _ (newList []) false (eval iter env) (some (assign (.Name y py) env))) _ _ s
  refine wpAny_bind (wpAny_mono (wpAny_comprehension_free (use := some (assign (.Name y py) env)) (Q := fun _ s' => Q .next s') rfl hs hclos hkind hnames
    (wpAny_mono h (fun xv s₁ h₁ => ?_) fun _ _ e => e)) (fun _ s' hq => wpAny_pure (wpAny_pure hq)) fun _ _ e => e)
  obtain ⟨e, it, rfl, X, R⟩ := h₁
  refine wpAny_pyIter_enum X.en ?_
  refine enum_block hh hsz hvs hlm X hcell hkind hxa hxb hab hda hdb ?_
  intro D C h' tk m' ys tl F' N' dat cls hn hC₀ hCL hCD offC
  show wpAny _ A (assign (.Name y py) env (.ref D)) _ _ _
  refine wpAny_assign_Name (wpAny_storeName_local hy F'.ns (fun h₂ hn₂ hs₂ => ?_) hp)
  have hL₀ : h₀.get? env.locals = none := Heap.get?_none_of_le F'.above
  have F₂ : Fr h₀ env.locals h₂ (fun z => if z = y then some (.ref D) else m z) := ⟨hn₂, fun b o e => hs₂.extBut b o (fun q => by rw [q, hL₀] at e; cases e) (F'.keep b o e), F'.above⟩
  refine ⟨m', hn.sameBut hs₂ hCL, fun h'' hs'' => R D h'' _ ys tl (F₂.change hs'' hCL hC₀) (fun p hp => ?_) dat cls⟩
  have z : h₂.get? p.1 = some p.2 := hs₂.extBut _ _ (N' p hp).2.1 (N' p hp).1
  refine ⟨hs''.extBut _ _ ?_ z, (N' p hp).2⟩
  rcases List.mem_cons.mp hp with rfl | hp
  · exact Ne.symm hCD
  · exact offC p hp
end
end Mine
end
section
open PySem PySem.W PyProof.Rows PySem.Spec PySem.Calls
namespace Mine
theorem okD_succ : ∀ (n : Nat) (d : Dat), okD n d = true → okD (n + 1) d = true := by
  intro n
  induction n with
  | zero => intro d h; cases d <;> simp_all [okD]
  | succ n ih =>
    intro d h
    cases d with
    | list ds =>
      simp only [okD, List.all_eq_true] at h ⊢
      exact fun x hx => ih x (h x hx)
    | bytes b => simp [okD] at h
    | tuple ds => simp [okD] at h
    | _ => simp_all [okD]
theorem okD_up {n k : Nat} {d : Dat} (h : okD n d = true) (hk : n ≤ k) : okD k d = true := by
  obtain ⟨j, rfl⟩ := Nat.exists_eq_add_of_le hk
  clear hk
  induction j with
  | zero => exact h
  | succ j ih => exact okD_succ _ _ ih
theorem okD_list {n : Nat} {ds : List Dat} (h : ∀ d ∈ ds, okD n d = true) : okD (n + 1) (.list ds) = true := by
  simp only [okD, List.all_eq_true]
  exact h
theorem okD_thD (p : Int × Int) : okD 1 (thD p) = true := rfl
theorem okD_giv (f c : Int) : okD 1 (giv f c) = true := by
  unfold giv
  split
  · rfl
  · split
    · rfl
    · split
      · rfl
      · exact okD_list fun d hd => by
          simp only [List.mem_cons, List.not_mem_nil, or_false] at hd
          rcases hd with rfl | rfl
          · decide +kernel
          · rfl
theorem okD_things (r : List (Int × Int)) : okD 2 (.list (r.map thD)) = true := okD_list fun d hd => by
  obtain ⟨p, _, rfl⟩ := List.mem_map.mp hd
  exact okD_thD p
theorem okD_call {v : Dat} (hv : okD 2 v = true) (p : Int × Int) (r : List (Int × Int)) : okD 3 (callD v p r) = true := okD_list fun d hd => by
  simp only [List.mem_cons, List.not_mem_nil, or_false] at hd
  rcases hd with rfl | rfl | rfl
  · exact hv
  · exact okD_up (okD_thD p) (by decide)
  · exact okD_things _
theorem okD_rest : ∀ (n : Nat) (ps : List (Int × Int)) (v : Dat) (c : Int), ps.length ≤ n → okD 2 v = true → (∀ x ∈ (restS ps v c).1, okD 3 x = true) ∧ okD 3 (restS ps v c).2.1.dat = true := by
  have told : ∀ v : Dat, okD 2 v = true → okD 3 (En.told v).dat = true := fun v hv => okD_list fun d hd => by
    simp only [List.mem_cons, List.not_mem_nil, or_false] at hd
    rcases hd with rfl | rfl
    · decide +kernel
    · exact hv
  have broken : ∀ f : Int, okD 3 (En.broken f).dat = true := fun f => okD_list fun d hd => by
    simp only [List.mem_cons, List.not_mem_nil, or_false] at hd
    rcases hd with rfl | rfl
    · decide +kernel
    · rfl
  intro n
  induction n with
  | zero => intro ps v c h hv; cases ps with
    | nil => rw [restS]; exact ⟨fun x hx => (List.not_mem_nil hx).elim, told v hv⟩
    | cons p r => simp at h
  | succ n ih =>
    intro ps v c h hv
    cases ps with
    | nil => rw [restS]; exact ⟨fun x hx => (List.not_mem_nil hx).elim, told v hv⟩
    | cons p r =>
      rw [restS]
      split
      · refine ⟨fun x hx => ?_, broken _⟩
        rw [List.mem_singleton.mp hx]
        exact okD_call hv p r
      · have := ih (r.drop (takeOf p.2)) (giv (fateOf p.2) c) (c + 1) (by simp only [List.length_drop, List.length_cons] at *; omega) (okD_up (okD_giv _ _) (by decide))
        refine ⟨fun x hx => ?_, this.2⟩
        rcases List.mem_cons.mp hx with rfl | hx
        · exact okD_call hv p r
        · exact this.1 x hx
theorem okD_out {ps : List (Int × Int)} {v : Dat} {c : Int} (hv : okD 2 v = true) : okD 5 (outD (restS ps v c)) = true := okD_list fun d hd => by
  have := okD_rest _ ps v c (Nat.le_refl _) hv
  simp only [List.mem_cons, List.not_mem_nil, or_false] at hd
  rcases hd with rfl | rfl | rfl
  · exact okD_list this.1
  · exact okD_up this.2 (by decide)
  · exact okD_up (okD_things _) (by decide)
theorem okD_due {rp : List (Int × Int)} {sd : Option Dat} (h : ∀ d, sd = some d → okD 2 d = true) : okD 8 (dueD rp sd) = true := by
  refine okD_up (n := 5) ?_ (by decide)
  cases sd with
  | some d => exact okD_out (h d rfl)
  | none =>
    cases rp with
    | cons p r => exact okD_out (okD_up (okD_thD p) (by decide))
    | nil => decide +kernel
/-- an object of nested code -/
def CodeL (C : List (Addr × Obj)) : Prop := ∀ p ∈ C, ∃ vs x t, p.2.data = .fields vs ∧ vs[1]? = some (.str x t)
theorem CodeL.app {C D : List (Addr × Obj)} (h : CodeL C) (h' : CodeL D) : CodeL (C ++ D) := fun p hp => (List.mem_append.mp hp).elim (h p) (h' p)
theorem CodeL.nil : CodeL [] := fun _ h => (List.not_mem_nil h).elim
/-- no text at the second place -/
def Plain1 (ps : Array Value) : Prop := ∀ x t, ps[1]? ≠ some (.str x t)
theorem tab37_plain {D : List (Addr × Obj)} {ps : Array Value} (h : Tab37 D ps) : Plain1 ps := by
  rcases h with rfl | ⟨c, oc, vs, t, rfl, _⟩
  · exact fun x t h => nomatch h
  · exact fun x t h => nomatch h
theorem tab32_plain {D : List (Addr × Obj)} {ps : Array Value} (h : Tab32 D ps) : Plain1 ps := by
  rcases h with rfl | ⟨c, oc, vs, t, rfl, _⟩
  · exact fun x t h => nomatch h
  · exact fun x t h => nomatch h
theorem tab56_plain {D : List (Addr × Obj)} {ps : Array Value} (h : Tab56 D ps) : Plain1 ps := by
  rcases h with rfl | ⟨c, oc, vs, t, rfl, _⟩
  · exact fun x t h => nomatch h
  · exact fun x t h => nomatch h
theorem tab37_part {D : List (Addr × Obj)} {ps : Array Value} (h : Tab37 D ps) : ∃ C, CodeL C ∧ (∀ p ∈ C, p ∈ D) ∧ Tab37 C ps := by
  rcases h with e | ⟨c, oc, vs, t, e, hm, hd, hv⟩
  · exact ⟨[], .nil, (fun _ h => nomatch h), .inl e⟩
  · exact ⟨[(c, oc)], fun p hp => by rw [List.mem_singleton.mp hp]; exact ⟨vs, _, t, hd, hv⟩, fun p hp => by rw [List.mem_singleton.mp hp]; exact hm, .inr ⟨c, oc, vs, t, e, .head _, hd, hv⟩⟩
theorem tab32_part {D : List (Addr × Obj)} {ps : Array Value} (h : Tab32 D ps) : ∃ C, CodeL C ∧ (∀ p ∈ C, p ∈ D) ∧ Tab32 C ps := by
  rcases h with e | ⟨c, oc, vs, t, e, hm, hd, hv⟩
  · exact ⟨[], .nil, (fun _ h => nomatch h), .inl e⟩
  · exact ⟨[(c, oc)], fun p hp => by rw [List.mem_singleton.mp hp]; exact ⟨vs, _, t, hd, hv⟩, fun p hp => by rw [List.mem_singleton.mp hp]; exact hm, .inr ⟨c, oc, vs, t, e, .head _, hd, hv⟩⟩
theorem tab56_part {D : List (Addr × Obj)} {ps : Array Value} (h : Tab56 D ps) : ∃ C, CodeL C ∧ (∀ p ∈ C, p ∈ D) ∧ Tab56 C ps := by
  rcases h with e | ⟨c, oc, vs, t, e, hm, hd, hv⟩
  · exact ⟨[], .nil, (fun _ h => nomatch h), .inl e⟩
  · exact ⟨[(c, oc)], fun p hp => by rw [List.mem_singleton.mp hp]; exact ⟨vs, _, t, hd, hv⟩, fun p hp => by rw [List.mem_singleton.mp hp]; exact hm, .inr ⟨c, oc, vs, t, e, .head _, hd, hv⟩⟩
/-- what is kept: lists and their iterators -/
def KeptL (K : List (Addr × Obj)) : Prop := ∀ p ∈ K, p.2.cls = .type "list" ∨ p.2.cls = .type "list_iterator"
theorem KeptL.app {K D : List (Addr × Obj)} (h : KeptL K) (h' : KeptL D) : KeptL (K ++ D) := fun p hp => (List.mem_append.mp hp).elim (h p) (h' p)
/-- such things lie at no table's place -/
theorem off_tab {h₀ h : Heap} {L P : Addr} {ps : Array Value} {N₁ K C : List (Addr × Obj)} (N : News h₀ L h N₁) (hP : (P, tabObj ps) ∈ N₁) (pl : Plain1 ps) (hK : KeptL K) (hC : CodeL C) (sK : ∀ p ∈ K, p ∈ N₁) (sC : ∀ p ∈ C, p ∈ N₁) : (∀ p ∈ K, p.1 ≠ P) ∧ ∀ p ∈ C, p.1 ≠ P := by
  have same : ∀ p ∈ N₁, p.1 = P → p.2 = tabObj ps := fun p hp e => by
    have h1 := (N p hp).1
    have h2 := (N _ hP).1
    rw [e] at h1
    rw [h1] at h2
    exact Option.some.inj h2
  refine ⟨fun p hp e => ?_, fun p hp e => ?_⟩
  · have q := same p (sK p hp) e
    rcases hK p hp with z | z <;> (rw [q] at z; cases z)
  · have q := same p (sC p hp) e
    obtain ⟨vs, x, t, hd, hv⟩ := hC p hp
    rw [q] at hd
    have hd' : Data.fields ps = Data.fields vs := hd
    cases hd'
    exact pl x t hv
/-- code and tables lie at no iterator's place -/
theorem off_iter {h₀ h : Heap} {L I : Addr} {wo : Obj} {N₁ C D : List (Addr × Obj)} {rem : List Value} (N : News h₀ L h N₁) (hI : (I, wo) ∈ N₁) (hW : WkO D rem wo) (hC : CodeL C) (sC : ∀ p ∈ C, p ∈ N₁) : (∀ p ∈ C, p.1 ≠ I) ∧ ∀ P ps, (P, tabObj ps) ∈ N₁ → P ≠ I := by
  have same : ∀ p ∈ N₁, p.1 = I → p.2 = wo := fun p hp e => by
    have h1 := (N p hp).1
    have h2 := (N _ hI).1
    rw [e] at h1
    rw [h1] at h2
    exact Option.some.inj h2
  refine ⟨fun p hp e => ?_, fun P ps hP e => ?_⟩
  · have q := same p (sC p hp) e
    obtain ⟨vs, x, t, hd, hv⟩ := hC p hp
    rw [q] at hd
    rcases hW with ⟨l, ws, n, i, rfl, _⟩ | ⟨_, i, rfl⟩
    · have hd' : Data.fields #[Value.ref l, Value.int i 0] = Data.fields vs := hd
      cases hd'
      cases hv
    · have hd' : Data.fields #[Value.none, Value.int i 0] = Data.fields vs := hd
      cases hd'
      cases hv
  · have q := same _ hP e
    have z := hW.cls
    rw [← q] at z
    cases z
end Mine
end
section
open PySem PySem.W PyProof.Rows PySem.Spec PySem.Calls
namespace Mine
local macro_rules | `(tactic| k_mem) => `(tactic| first | exact List.Mem.head _ | (refine' List.Mem.tail _ ?_; k_mem) | assumption)
local macro_rules | `(tactic| walk_at "subscriptTail") => `(tactic| (k_here; (with_reducible show wpAny _ _ (subscriptTail _ _ (Value.ref _) (Value.int _ _)) _ _ _); (with_unfolding_all refine' item_mem ?k1 ?k2 ?k3 ?k4 ?k5 ?_ ?k6; (case k1 => k_asm); (case k2 => k_mem); (case k3 => decide); (case k4 => decide); (case k5 => rfl); (case k6 => with_unfolding_all rfl); k_whole)))
local macro_rules | `(tactic| walk_at "fence") => `(tactic| (with_reducible show wpAny _ _ (call (Value.ref _) _) _ _ _))
local macro_rules | `(tactic| walk_at "fence") => `(tactic| (with_reducible show wpAny _ _ (compareOp CmpOp.NotEq _ _) _ _ _))
local macro_rules | `(tactic| walk_at "fence") => `(tactic| (with_reducible show wpAny _ _ (compareOp CmpOp.Eq _ _) _ _ _))
local macro_rules | `(tactic| walk_at "fence") => `(tactic| (with_reducible show wpAny _ _ (subscriptTail _ (PySem.Expr.Slice _ _ _ _) _ _) _ _ _))
local macro_rules | `(tactic| walk_at "fence") => `(tactic| (with_reducible show wpAny _ _ (leaving _ _) _ _ _))
local macro_rules | `(tactic| walk_at "go") => `(tactic| repeat' ((fail_if_success (walk_at "fence")); (first | (k_unfold; (try dsimp only)) | walk1 | (dsimp only; walk1) | (leave1; walk_say "STEP leave1"; try dsimp only) | fail "no step")))
theorem okD_row (rp : List (Int × Int)) : okD 8 (.list (rp.map thD)) = true := by
  simp [okD, thD]
theorem pick_one (v : Value) (vr : List Value) : kms_pick (v :: vr) (some 1) none = vr := by
  unfold kms_pick kms_lo kms_hi
  dsimp only
  rw [if_neg (show ¬ (1 : Int) < 0 by decide)]
  simp
set_option maxRecDepth 100000 in
set_option maxHeartbeats 8000000 in
theorem due_ok {w : World} {pg : Program} {loose : List Str} {mean : ExcName → Option Value} {mg mb : Str → Option Value} {dp un : Nat} {gd : Option (List Code)} {cn : Str} {cs : Scope} {a : Addr} {ccd : Value} {cl : List (Str × Addr)} {outer : List Env} {A₀ : Around} {base h₀ : Heap} {L : Addr} {m : Str → Option Value} {news D : List (Addr × Obj)} {s : Shared} {Q E : Value → Shared → Prop}
  {row st : Addr} {rvs svs : List Value} {rn sn : Nat} {rp : List (Int × Int)} {sd : Option Dat}
  (B : Below A₀ base outer h₀) (F : Fr h₀ L s.heap m) (X : (Mine.hd.heap_39 w.params).In h₀) (N : News h₀ L s.heap news) (T : Top pg loose mean mg mb h₀) (hk : cs.kind = .function) (hd : dp + rp.length + 10 < recursionLimit) (hu : un + 8 * rp.length + 200 < cLine)
  (hD : ∀ p ∈ D, p ∈ news) (hrow : (row, W.listOf rvs.toArray rn) ∈ D) (hrd : DatAll D rvs (rp.map thD)) (hst : (st, W.listOf svs.toArray sn) ∈ D) (hsd : DatAll D svs sd.toList) (hok : okD 8 (.list sd.toList) = true) (hlen : rp.length ≤ 63)
  (ret : ∀ r tl h' tk', Fr h₀ L h' m → News h₀ L h' (tl ++ news) → (∀ q ∈ news, ∀ p ∈ tl, q.1 < p.1) → DatIn (tl ++ D) r (dueD rp sd) → Q r {s with heap := h', toks := tk'}) :
  wpAny (model PySem.Challenge.rw_dz0035_01.row.prog w) (ktrTop dp un gd cn cs L a ccd cl outer) (call (.ref 54) [.ref row, .ref st]) Q E s := by
  have hrn := hD _ hrow
  have hsn := hD _ hst
  w_on
  revert X
  k_fill
  intro X
  refine wpAny_call ?_
  k_dflt ktr_enter
  walk_at "go"
  refine dat_ne (na := news) (nb := [(_, W.listOf #[] 0)]) (d := .list sd.toList) (e := .list []) (fun p hp => (News.get (by k_asm) (List.mem_cons_of_mem _ hp))) (fun p hp => by cases hp with | head => exact News.get (by k_asm) (by k_mem) | tail _ h => cases h) (DatIn.list hsn (hsd.mono hD)) (DatIn.list (vs := []) (.head _) .nil) hok rfl (by ktr_units) ?_
  cases sd with
  | some d =>
    cases hsd with
    | @cons v vr _ _ hv hvr =>
    cases hvr
    dsimp only [Option.toList, kqdP, kqdPs, PyData.eqv, PyData.eqvAll]
    walk_at "go"
    have ih : RestOk w pg loose mean mg mb rp := rest_ok _ _ (Nat.le_refl _)
    unfold RestOk at ih
    k_dflt (refine' ih (D := D) (d := d) ?k1 ?k2 ?k3 ?k4 ?k5 ?kK ?kd ?ku (fun p hp => List.mem_cons_of_mem _ (hD p hp)) (List.mem_cons_of_mem _ hrn) hrd (by omega) hv ?_; (case k1 => k_asm); (case k2 => k_asm); (case k3 => k_asm); (case k4 => k_asm); (case k5 => k_asm); (case kK => exact rfl))
    case kd => show dp + 1 + rp.length + 2 < _; omega
    case ku => show un + 3 + 8 * rp.length + 100 < _; omega
    intro r9 tl9 h9 tk9 F9 N9 hl9 ho9
    try dsimp only
    walk_at "go"
    rename News h₀ L _ _ => kN
    rename ∀ (p : Addr × Obj), p ∈ news → p.fst < _ => k0
    refine ret _ (tl9 ++ [_]) _ _ (by k_asm) (by rw [List.append_assoc]; exact kN) ?_ (ho9.mono fun p hp => ?_)
    · intro q hq p hp
      rcases List.mem_append.mp hp with hp | hp
      · exact hl9 q (.tail _ hq) p hp
      · exact fresh_cons (allLt_of k0) fresh_nil q hq p hp
    · rcases List.mem_append.mp hp with hp | hp
      · exact List.mem_append_left _ (List.mem_append_left _ hp)
      · exact List.mem_append_right _ hp
  | none =>
    cases hsd
    dsimp only [Option.toList, kqdP, kqdPs, PyData.eqv, PyData.eqvAll]
    walk_at "go"
    refine dat_eq (na := news) (nb := [(_, W.listOf #[] 0)]) (d := .list (rp.map thD)) (e := .list []) (fun p hp => (News.get (by k_asm) (List.mem_cons_of_mem _ (List.mem_cons_of_mem _ hp)))) (fun p hp => by cases hp with | head => exact News.get (by k_asm) (by k_mem) | tail _ h => cases h) (DatIn.list hrn (hrd.mono hD)) (DatIn.list (vs := []) (.head _) .nil) (okD_row rp) rfl (by ktr_units) ?_
    cases rp with
    | nil =>
      dsimp only [List.map_nil, kqdP, kqdPs, PyData.eqv, PyData.eqvAll]
      walk_at "go"
      rename _ ∧ _ ∧ _ ∧ _ ∧ _ ∧ AllLt _ _ => k5
      rename _ ∧ _ ∧ _ ∧ _ ∧ AllLt _ _ => k4
      rename _ ∧ _ ∧ _ ∧ AllLt _ _ => k3
      rename _ ∧ _ ∧ AllLt _ _ => k2
      rename _ ∧ AllLt _ _ => k1
      rename ∀ (p : Addr × Obj), p ∈ news → p.fst < _ => k0
      rename News h₀ L _ _ => kN
      refine ret _ [_, _, _, _, _, _] _ _ (by k_asm) kN (fresh_cons k5.2.2.2.2.2 (fresh_cons k4.2.2.2.2 (fresh_cons k3.2.2.2 (fresh_cons k2.2.2 (fresh_cons k1.2 (fresh_cons (allLt_of k0) fresh_nil)))))) ?_
      exact DatIn.list (vs := [_, _, _]) (.head _) (.cons (DatIn.list (vs := []) (.tail _ (.tail _ (.tail _ (.head _)))) .nil) (.cons (DatIn.list (vs := [_, _]) (.tail _ (.tail _ (.head _))) (.cons (.str _ _) (.cons (.str _ _) .nil))) (.cons (DatIn.list (vs := []) (.tail _ (.head _)) .nil) .nil)))
    | cons p r =>
      cases hrd with
      | @cons v vr _ _ hv hvr =>
      rw [show PyData.eqv (kqdP (.list ((p :: r).map thD))) (kqdP (.list [])) = false by simp [kqdP, kqdPs, PyData.eqv, PyData.eqvAll]]
      walk_at "go"
      have hvl : vr.length ≤ 64 := by
        have h1 := hvr.length
        rw [List.length_map] at h1
        simp only [List.length_cons] at hlen
        omega
      k_dflt (refine' kms_slice_lit ?zF ?zN ?zl ?zp ?zq ?ze ?_ ?zs ?zt ?zz; (case zF => k_asm); (case zN => k_asm); (case zl => kmk_list); (case zp => kmk_part); (case zq => kmk_part); (case ze => exact pick_one _ _); (case zs => with_unfolding_all rfl); (case zt => kmk_pure); (case zz => (simp only [List.size_toArray, List.length_cons]; rw [sizeLine_eq]; omega)))
      intro D' h' F' N' l1
      try k_lt l1
      walk_at "go"
      have ih : RestOk w pg loose mean mg mb r := rest_ok _ _ (Nat.le_refl _)
      unfold RestOk at ih
      k_dflt (refine' ih (D := D) (d := thD p) ?k1 ?k2 ?k3 ?k4 ?k5 ?kK ?kd ?ku ?kD ?km hvr ?kl hv ?_; (case k1 => k_asm); (case k2 => k_asm); (case k3 => k_asm); (case k4 => k_asm); (case k5 => k_asm); (case kK => exact rfl))
      case kD => exact fun p hp => List.mem_cons_of_mem _ (List.mem_cons_of_mem _ (List.mem_cons_of_mem _ (hD p hp)))
      case km => exact .head _
      case kd => show dp + 1 + r.length + 2 < _; simp only [List.length_cons] at hd; omega
      case ku => show un + 3 + 8 * r.length + 100 < _; simp only [List.length_cons] at hu; omega
      case kl => simp only [List.length_cons] at hlen; omega
      intro r9 tl9 h9 tk9 F9 N9 hl9 ho9
      try dsimp only
      walk_at "go"
      rename _ ∧ _ ∧ AllLt _ _ => k2
      rename _ ∧ AllLt _ _ => k1
      rename ∀ (p : Addr × Obj), p ∈ news → p.fst < _ => k0
      rename News h₀ L _ _ => kN
      refine ret _ (tl9 ++ [_, _, _]) _ _ (by k_asm) (by rw [List.append_assoc]; exact kN) ?_ (ho9.mono fun p hp => ?_)
      · intro q hq p hp
        rcases List.mem_append.mp hp with hp | hp
        · exact hl9 q (.tail _ (.tail _ (.tail _ hq))) p hp
        · exact fresh_cons k2.2.2 (fresh_cons k1.2 (fresh_cons (allLt_of k0) fresh_nil)) q hq p hp
      · rcases List.mem_append.mp hp with hp | hp
        · exact List.mem_append_left _ (List.mem_append_left _ hp)
        · exact List.mem_append_right _ hp
end Mine
end
section
open PySem PySem.W PyProof.Rows PySem.Spec PySem.Calls
namespace Mine
abbrev lawScope : Scope := { kind := .function, names := [(Str.ofString "script", .local), (Str.ofString "numbers", .local), (Str.ofString "rows", .local), (Str.ofString "start", .local), (Str.ofString "numbered", .local), (Str.ofString "row", .local), (Str.ofString "enumerate", .globalImplicit), (Str.ofString "_law_fold", .globalImplicit), (Str.ofString "_law_due", .globalImplicit), (Str.ofString "_law_refused", .globalImplicit), (Str.ofString "len", .globalImplicit)], isGenerator := false, isCoroutine := false, more := [(Str.ofString "fast", .str (Str.ofString "script")), (Str.ofString "fast", .str (Str.ofString "numbers")), (Str.ofString "fast", .str (Str.ofString "rows")), (Str.ofString "fast", .str (Str.ofString "start")), (Str.ofString "fast", .str (Str.ofString "numbered")), (Str.ofString "fast", .str (Str.ofString "place")), (Str.ofString "fast", .str (Str.ofString "x")), (Str.ofString "fast", .str (Str.ofString "row"))] }
abbrev lawEnv (L a : Addr) (ccd : Value) : Env := envOf (Str.ofString "law") lawScope L a ccd
abbrev pairScope : Scope := { kind := .function, names := [(Str.ofString ".0", .local), (Str.ofString "place", .local), (Str.ofString "x", .local)], isGenerator := false, isCoroutine := false, more := [] }
abbrev rowStmt : Stmt := .Assign [.Name (Str.ofString "row") ⟨68, 12, 68, 15⟩] (.ListComp (.List [.Name (Str.ofString "place") ⟨68, 20, 68, 25⟩, .Name (Str.ofString "x") ⟨68, 27, 68, 28⟩] ⟨68, 19, 68, 29⟩) [⟨.Tuple [.Name (Str.ofString "place") ⟨68, 34, 68, 39⟩, .Name (Str.ofString "x") ⟨68, 41, 68, 42⟩] 0 ⟨68, 34, 68, 42⟩, .Call (.Name (Str.ofString "enumerate") ⟨68, 46, 68, 55⟩) [.Name (Str.ofString "numbered") ⟨68, 56, 68, 64⟩] [] ⟨68, 46, 68, 65⟩, [], 0⟩] pairScope ⟨68, 18, 68, 66⟩) ⟨68, 12, 68, 66⟩
abbrev sameStmt : Stmt := .If (.Compare (.Call (.Name (Str.ofString "_law_fold") ⟨69, 15, 69, 24⟩) [.Name (Str.ofString "row") ⟨69, 25, 69, 28⟩, .Name (Str.ofString "start") ⟨69, 30, 69, 35⟩] [] ⟨69, 15, 69, 36⟩) [.NotEq] [.Call (.Name (Str.ofString "_law_due") ⟨69, 40, 69, 48⟩) [.Name (Str.ofString "row") ⟨69, 49, 69, 52⟩, .Name (Str.ofString "start") ⟨69, 54, 69, 59⟩] [] ⟨69, 40, 69, 60⟩] ⟨69, 15, 69, 60⟩) [.Return (some (.Constant (.bool false) 0 ⟨70, 23, 70, 28⟩)) ⟨70, 16, 70, 28⟩] [] ⟨69, 12, 70, 28⟩
/-- the ledger of law: three tables, code, what is kept -/
abbrev LawLed (t7 t2 t6 : Array Value) (C K : List (Addr × Obj)) : List (Addr × Obj) := (37, tabObj t7) :: (32, tabObj t2) :: (56, tabObj t6) :: (C ++ K)
local macro_rules | `(tactic| k_mem) => `(tactic| first | exact List.Mem.head _ | (refine' List.Mem.tail _ ?_; k_mem) | assumption)
local macro_rules | `(tactic| walk_at "fence") => `(tactic| (with_reducible show wpAny _ _ (call (Value.ref _) _) _ _ _))
local macro_rules | `(tactic| walk_at "fence") => `(tactic| (with_reducible show wpAny _ _ (call (Value.type _) _) _ _ _))
local macro_rules | `(tactic| walk_at "fence") => `(tactic| (with_reducible show wpAny _ _ (compareOp _ _ _) _ _ _))
local macro_rules | `(tactic| walk_at "fence") => `(tactic| (with_reducible show wpAny _ _ (exec (Stmt.Assign _ (Expr.ListComp _ _ _ _) _) _) _ _ _))
local macro_rules | `(tactic| walk_at "fence") => `(tactic| (with_reducible show wpAny _ _ (leaving _ _) _ _ _))
local macro_rules | `(tactic| walk_at "fence") => `(tactic| (with_reducible show (Exists _)))
local macro_rules | `(tactic| walk_at "go") => `(tactic| repeat' ((fail_if_success (walk_at "fence")); (first | (k_unfold; (try dsimp only)) | walk1 | (dsimp only; walk1) | (leave1; walk_say "STEP leave1"; try dsimp only) | fail "no step")))
set_option maxRecDepth 100000 in
set_option maxHeartbeats 8000000 in
/-- one turn of the inner loop -/
theorem turn_ok {w : World} {pg : Program} {loose : List Str} {mean : ExcName → Option Value} {mg mb : Str → Option Value} {dp un : Nat} {gd : Option (List Code)} {L a : Addr} {ccd : Value} {A₀ : Around} {base h₀ : Heap} {m : Str → Option Value} {s : Shared} {Q : Flow → Shared → Prop} {E : Value → Shared → Prop}
    {t7 t2 t6 : Array Value} {C K : List (Addr × Obj)} {l st : Addr} {vs svs : List Value} {ns : List Int} {n0 sn : Nat} {sd : Option Dat}
    (B : Below A₀ base [] h₀) (F : Fr h₀ L s.heap m) (X : (Mine.hd.heap_39 w.params).In h₀) (N : News h₀ L s.heap (LawLed t7 t2 t6 C K)) (T : Top pg loose mean mg mb h₀) (C2 : CodeHd h₀ 34 32) (C7 : CodeHd h₀ 39 37) (XB : (Mine.hd.heap_39 w.params).In base) (TB : Top pg loose mean mg mb base)
    (hd : dp + 4 * 63 + 20 < recursionLimit) (hu : un + 16 * (4 * 63) + 300 < cLine) (hC : CodeL C) (b7 : Tab37 C t7) (b2 : Tab32 C t2) (b6 : Tab56 C t6) (hK : KeptL K)
    (hl : (l, W.listOf vs.toArray n0) ∈ K) (hvs : IntsAre vs ns) (hlen : ns.length ≤ 63) (hm1 : m (Str.ofString "numbered") = some (.ref l)) (hm2 : m (Str.ofString "start") = some (.ref st)) (hst : (st, W.listOf svs.toArray sn) ∈ K) (hsd : DatAll K svs sd.toList) (hok : ∀ d, sd = some d → okD 2 d = true)
    (next : ∀ h' tk' t7' t2' C' v, Fr h₀ L h' (fun z => if z = Str.ofString "row" then some v else m z) → CodeL C' → Tab37 C' t7' → Tab32 C' t2' → Tab56 C' t6 → News h₀ L h' (LawLed t7' t2' t6 C' K) → Q .next { s with heap := h', toks := tk' }) :
    wpAny (model PySem.Challenge.rw_dz0035_01.row.prog w) (ktrTop dp un gd (Str.ofString "law") lawScope L a ccd [] []) (execs [rowStmt, sameStmt] (lawEnv L a ccd)) Q E s := by
  have hvl : vs.length ≤ 63 := by rw [hvs.length]; exact hlen
  w_on
  revert X
  k_fill
  intro X
  walk_at "go"
  k_dflt (refine enum_assign (h₀ := h₀) (m := m) (news := LawLed t7 t2 t6 C K) (by rfl) (by with_unfolding_all rfl) (by with_unfolding_all rfl) (by decide) (by rfl) (by decide) (by rfl) (by rfl) (by decide) (by decide) (by decide) (by rfl) (by rfl) (by rfl) (by rw [sizeLine_eq]; omega) hvs (List.Mem.tail _ (.tail _ (.tail _ (List.mem_append_right C hl)))) ?_)
  walk_at "go"
  refine ld F hm1 ?_
  walk_at "go"
  refine enum_call F N (List.Mem.tail _ (.tail _ (.tail _ (List.mem_append_right C hl)))) ?_
  intro e1 i1 h1 X1
  walk_at "go"
  refine ⟨e1, i1, rfl, X1, ?_⟩
  clear X1
  intro Dr h2 tk2 ys tl F2 N2 dat clsT
  dsimp only
  have bigD : ∃ D2, News h₀ L h2 ((37, tabObj t7) :: (32, tabObj t2) :: D2) ∧ (56, tabObj t6) ∈ D2 ∧ (∀ p ∈ C, p ∈ D2) ∧ (∀ p ∈ K, p ∈ D2) ∧ (∀ p ∈ tl, p ∈ D2) ∧ (Dr, LCg.lst ys) ∈ D2 ∧ Off7 D2 := by
    have N3 : News h₀ L h2 ((37, tabObj t7) :: (32, tabObj t2) :: (56, tabObj t6) :: (C ++ ((Dr, LCg.lst ys) :: (tl ++ K)))) := news_sub N2 fun p hp => by
      simp only [LawLed, List.mem_cons, List.mem_append] at hp ⊢
      rcases hp with h | h | h | h | h | h | h <;> simp [h]
    have hK2 : KeptL ((Dr, LCg.lst ys) :: (tl ++ K)) := List.forall_mem_cons.mpr ⟨.inl rfl, fun p hp => (List.mem_append.mp hp).elim (fun h => .inl (clsT p h)) (hK p)⟩
    have s1 : ∀ p ∈ (Dr, LCg.lst ys) :: (tl ++ K), p ∈ (37, tabObj t7) :: (32, tabObj t2) :: (56, tabObj t6) :: (C ++ ((Dr, LCg.lst ys) :: (tl ++ K))) := fun p hp => .tail _ (.tail _ (.tail _ (List.mem_append_right _ hp)))
    have s2 : ∀ p ∈ C, p ∈ (37, tabObj t7) :: (32, tabObj t2) :: (56, tabObj t6) :: (C ++ ((Dr, LCg.lst ys) :: (tl ++ K))) := fun p hp => .tail _ (.tail _ (.tail _ (List.mem_append_left _ hp)))
    have o7 := off_tab N3 (.head _) (tab37_plain b7) hK2 hC s1 s2
    have o2 := off_tab N3 (.tail _ (.head _)) (tab32_plain b2) hK2 hC s1 s2
    refine ⟨(56, tabObj t6) :: (C ++ ((Dr, LCg.lst ys) :: (tl ++ K))), N3, .head _, fun p hp => .tail _ (List.mem_append_left _ hp), fun p hp => .tail _ (List.mem_append_right _ (.tail _ (List.mem_append_right _ hp))), fun p hp => .tail _ (List.mem_append_right _ (.tail _ (List.mem_append_left _ hp))), .tail _ (List.mem_append_right _ (.head _)), ?_⟩
    refine List.forall_mem_cons.mpr ⟨⟨(show (56 : Nat) ≠ 37 by decide), (show (56 : Nat) ≠ 32 by decide)⟩, fun p hp => ?_⟩
    rcases List.mem_append.mp hp with hp | hp
    · exact ⟨o7.2 p hp, o2.2 p hp⟩
    · exact ⟨o7.1 p hp, o2.1 p hp⟩
  obtain ⟨D2, N3, m56, sC, sK, sT, mR, off⟩ := bigD
  clear N2
  have h15 : ∀ v ∈ svs, v ≠ .ref 15 := by
    have g15 : h₀.get? 15 ≠ none := by
      rw [X 15 _ (by k_is)]
      exact fun q => nomatch q
    have key : ∀ {us : List Value} {ds : List Dat}, DatAll K us ds → ∀ v ∈ us, v ≠ .ref 15 := by
      intro us
      induction us with
      | nil => intro ds _ v hv; cases hv
      | cons u us ih =>
        intro ds hds v hv
        cases hds with
        | cons h1 h2 =>
          rcases List.mem_cons.mp hv with rfl | hv
          · intro e
            subst e
            cases h1 with
            | list hm _ => exact g15 (N3 _ (.tail _ (.tail _ (sK _ hm)))).2.2
            | tuple hm _ => exact g15 (N3 _ (.tail _ (.tail _ (sK _ hm)))).2.2
          · exact ih h2 v hv
    exact key hsd
  have hrl : (rowOf ns).length ≤ 63 := by
    unfold rowOf
    rw [rowFrom_length]
    exact hlen
  walk_at "go"
  refine ld F2 ((if_neg (by decide)).trans hm2) ?_
  walk_at "go"
  k_dflt (refine' fold_ok (D := D2) (ps7 := t7) (ps2 := t2) off (b7.mono sC) (b2.mono sC) mR (dat.mono sT) (sK _ hst) (hsd.mono sK) h15 hrl ?k1 F2 ?k3 N3 ?k5 C2 C7 XB TB ?kK ?kd ?ku ?_; (case k1 => k_asm); (case k3 => k_asm); (case k5 => k_asm); (case kK => exact rfl))
  case kd => omega
  case ku => omega
  intro v4 h4 tk4 t74 t24 D4 sub4 off4 b74 b24 dv4 F4 N4
  try dsimp only
  have mR4 := sub4 _ mR
  walk_at "go"
  refine ld F4 ((if_neg (by decide)).trans hm2) ?_
  walk_at "go"
  have hok8 : okD 8 (.list sd.toList) = true := okD_list fun d hdm => okD_up (hok d (by simpa using hdm)) (by decide)
  k_dflt (refine' due_ok (D := D4) (rp := rowOf ns) (sd := sd) ?k1 F4 ?k3 N4 ?k5 ?kK ?kd ?ku (fun p hp => .tail _ (.tail _ hp)) mR4 (dat.mono fun p hp => sub4 _ (sT p hp)) (sub4 _ (sK _ hst)) (hsd.mono fun p hp => sub4 _ (sK p hp)) hok8 hrl ?_; (case k1 => k_asm); (case k3 => k_asm); (case k5 => k_asm); (case kK => exact rfl))
  case kd => omega
  case ku => omega
  intro r5 tl5 h5 tk5 F5 N5 fr5 dr5
  try dsimp only
  walk_at "go"
  have okd : okD 8 (dueD (rowOf ns) sd) = true := okD_due hok
  refine dat_ne (na := D4) (nb := tl5 ++ D4) (fun p hp => N5.get (List.mem_append_right _ (.tail _ (.tail _ hp)))) (fun p hp => N5.get ((List.mem_append.mp hp).elim (fun h => List.mem_append_left _ h) fun h => List.mem_append_right _ (.tail _ (.tail _ h)))) dv4 dr5 okd okd ?units ?_
  case units => dsimp only; omega
  rw [ok_refl 8 _ okd]
  have N6 : News h₀ L h5 ((37, tabObj t74) :: (32, tabObj t24) :: D4) := news_sub N5 fun p hp => List.mem_append_right _ hp
  clear N5
  walk_at "go"
  obtain ⟨c7, k7, u7, z7⟩ := tab37_part b74
  obtain ⟨c2, k2, u2, z2⟩ := tab32_part b24
  refine next h5 tk5 t74 t24 (C ++ (c7 ++ c2)) _ F5 (hC.app (k7.app k2)) (z7.mono fun p hp => List.mem_append_right _ (List.mem_append_left _ hp)) (z2.mono fun p hp => List.mem_append_right _ (List.mem_append_right _ hp)) (b6.mono fun p hp => List.mem_append_left _ hp) (news_sub N6 fun p hp => ?_)
  simp only [LawLed, List.mem_cons, List.mem_append] at hp ⊢
  rcases hp with h | h | h | (h | h | h) | h
  · exact .inl h
  · exact .inr (.inl h)
  · exact .inr (.inr (by rw [h]; exact sub4 _ m56))
  · exact .inr (.inr (sub4 _ (sC p h)))
  · exact .inr (.inr (u7 p h))
  · exact .inr (.inr (u2 p h))
  · exact .inr (.inr (sub4 _ (sK p h)))
end Mine
end
section
open PySem PySem.W PyProof.Rows PySem.Spec PySem.Calls
namespace Mine
abbrev innerStmt : Stmt := .For (.Name (Str.ofString "numbered") ⟨67, 12, 67, 20⟩) (.Name (Str.ofString "rows") ⟨67, 24, 67, 28⟩) [rowStmt, sameStmt] [] ⟨67, 8, 70, 28⟩
/-- a list of at most 63 ints, kept -/
def RowIs (K : List (Addr × Obj)) (v : Value) : Prop := ∃ l vs n0 ns, v = .ref l ∧ (l, W.listOf vs.toArray n0) ∈ K ∧ IntsAre vs ns ∧ ns.length ≤ 63
local macro_rules | `(tactic| k_mem) => `(tactic| first | exact List.Mem.head _ | (refine' List.Mem.tail _ ?_; k_mem) | assumption)
local macro_rules | `(tactic| walk_at "fence") => `(tactic| (with_reducible show wpAny _ _ (call (Value.ref _) _) _ _ _))
local macro_rules | `(tactic| walk_at "fence") => `(tactic| (with_reducible show wpAny _ _ (pyIter _) _ _ _))
local macro_rules | `(tactic| walk_at "fence") => `(tactic| (with_reducible show wpAny _ _ (execs (List.cons (Stmt.Assign _ _ _) _) _) _ _ _))
local macro_rules | `(tactic| walk_at "fence") => `(tactic| (with_reducible show wpAny _ _ (leaving _ _) _ _ _))
local macro_rules | `(tactic| walk_at "fence") => `(tactic| (with_reducible show (Exists _)))
local macro_rules | `(tactic| walk_at "go") => `(tactic| repeat' ((fail_if_success (walk_at "fence")); (first | (k_unfold; (try dsimp only)) | walk1 | (dsimp only; walk1) | (leave1; walk_say "STEP leave1"; try dsimp only) | fail "no step")))
set_option maxRecDepth 100000 in
set_option maxHeartbeats 8000000 in
/-- the inner loop -/
theorem inner_ok {w : World} {pg : Program} {loose : List Str} {mean : ExcName → Option Value} {mg mb : Str → Option Value} {dp un : Nat} {gd : Option (List Code)} {L a : Addr} {ccd : Value} {A₀ : Around} {base h₀ : Heap} {m : Str → Option Value} {s : Shared} {Q : Flow → Shared → Prop} {E : Value → Shared → Prop}
    {t7 t2 t6 : Array Value} {C K : List (Addr × Obj)} {ra st : Addr} {rws svs : List Value} {rn sn : Nat} {sd : Option Dat}
    (B : Below A₀ base [] h₀) (F : Fr h₀ L s.heap m) (X : (Mine.hd.heap_39 w.params).In h₀) (N : News h₀ L s.heap (LawLed t7 t2 t6 C K)) (T : Top pg loose mean mg mb h₀) (C2 : CodeHd h₀ 34 32) (C7 : CodeHd h₀ 39 37) (XB : (Mine.hd.heap_39 w.params).In base) (TB : Top pg loose mean mg mb base)
    (hd : dp + 4 * 63 + 20 < recursionLimit) (hu : un + 16 * (4 * 63) + 300 < cLine) (hC : CodeL C) (b7 : Tab37 C t7) (b2 : Tab32 C t2) (b6 : Tab56 C t6) (hK : KeptL K)
    (hra : (ra, W.listOf rws.toArray rn) ∈ K) (hrw : ∀ v ∈ rws, RowIs K v) (hm1 : m (Str.ofString "rows") = some (.ref ra)) (hm2 : m (Str.ofString "start") = some (.ref st)) (hst : (st, W.listOf svs.toArray sn) ∈ K) (hsd : DatAll K svs sd.toList) (hok : ∀ d, sd = some d → okD 2 d = true)
    (next : ∀ h' tk' t7' t2' C' m', (∀ z, z ≠ Str.ofString "row" → z ≠ Str.ofString "numbered" → m' z = m z) → Fr h₀ L h' m' → CodeL C' → Tab37 C' t7' → Tab32 C' t2' → Tab56 C' t6 → News h₀ L h' (LawLed t7' t2' t6 C' K) → Q .next { s with heap := h', toks := tk' }) :
    wpAny (model PySem.Challenge.rw_dz0035_01.row.prog w) (ktrTop dp un gd (Str.ofString "law") lawScope L a ccd [] []) (exec innerStmt (lawEnv L a ccd)) Q E s := by
  w_on
  revert X
  k_fill
  intro X
  refine wpAny_For ?_
  refine ld F hm1 ?_
  have mra : (ra, W.listOf rws.toArray rn) ∈ LawLed t7 t2 t6 C K := List.Mem.tail _ (.tail _ (.tail _ (List.mem_append_right C hra)))
  refine wpAny_pyIter_list (items := rws.toArray) ⟨_, N.get mra, rfl, rn, rfl⟩ ?_
  have F1 := F.push { cls := .type "list_iterator", data := .fields #[.ref ra, .int 0 0] }
  have N1 := News.push F N { cls := .type "list_iterator", data := .fields #[.ref ra, .int 0 0] } rfl
  have offK : ∀ p ∈ K, p.1 ≠ s.heap.objs.size := fun p hp => Nat.ne_of_lt (Heap.lt_size (N p (List.Mem.tail _ (.tail _ (.tail _ (List.mem_append_right C hp))))).1)
  generalize s.heap.objs.size = I2 at N1 offK ⊢
  refine codeAny_forLoop (I := fun n9 s9 => ∃ wo9 rem9 m9 t79 t29 C9 h9 tk9, s9 = { s with heap := h9, toks := tk9 } ∧ n9 = rem9.length ∧ WkO K rem9 wo9 ∧ (∀ v ∈ rem9, RowIs K v) ∧ Fr h₀ L h9 m9 ∧ (∀ z, z ≠ Str.ofString "row" → z ≠ Str.ofString "numbered" → m9 z = m z) ∧ CodeL C9 ∧ Tab37 C9 t79 ∧ Tab32 C9 t29 ∧ Tab56 C9 t6 ∧ News h₀ L h9 ((I2, wo9) :: LawLed t79 t29 t6 C9 K)) ?turn rws.length
    ⟨itO ra 0, rws, m, t7, t2, C, _, _, rfl, rfl, .inl ⟨ra, rws, rn, 0, rfl, hra, rfl⟩, hrw, F1, fun _ _ _ => rfl, hC, b7, b2, b6, N1⟩
  intro n9 s9 hI
  obtain ⟨wo9, rem9, m9, t79, t29, C9, h9, tk9, rfl, rfl, hW9, hrw9, F9, hm9, hC9, b79, b29, b69, N9⟩ := hI
  have mK : ∀ p ∈ K, p ∈ (I2, wo9) :: LawLed t79 t29 t6 C9 K := fun p hp => .tail _ (.tail _ (.tail _ (.tail _ (List.mem_append_right _ hp))))
  have oi := off_iter N9 (.head _) hW9 hC9 fun p hp => .tail _ (.tail _ (.tail _ (.tail _ (List.mem_append_left _ hp))))
  have offA : ∀ p ∈ LawLed t79 t29 t6 C9 K, p.1 ≠ I2 := List.forall_mem_cons.mpr ⟨oi.2 _ _ (.tail _ (.head _)), List.forall_mem_cons.mpr ⟨oi.2 _ _ (.tail _ (.tail _ (.head _))), List.forall_mem_cons.mpr ⟨oi.2 _ _ (.tail _ (.tail _ (.tail _ (.head _)))), fun p hp => (List.mem_append.mp hp).elim (oi.1 p) (offK p)⟩⟩⟩
  refine pyNext_wk rfl hW9 (fun p hp => N9.get (mK p hp)) (N9.get (.head _)) ?_
  intro h8 o8 hs8 hi8 hW8
  obtain ⟨F8, N8⟩ := upd_ext (g := fun o => (I2, o) :: LawLed t79 t29 t6 C9 K) F9 N9 (.head offA) hs8 hi8
  clear N9 F9
  cases rem9 with
  | nil =>
    dsimp only [List.head?]
    walk_at "go"
    exact next _ _ t79 t29 C9 m9 hm9 F8 hC9 b79 b29 b69 (news_sub N8 fun p hp => .tail _ hp)
  | cons v r =>
    obtain ⟨l, vs, n0, ns, rfl, hl, hvs, hlen⟩ := hrw9 v (.head _)
    dsimp only [List.head?, List.tail] at hW8 ⊢
    walk_at "go"
    rename_i h7 F7 N7
    have up : ∀ p ∈ K, p ∈ (I2, o8) :: K := fun p hp => .tail _ hp
    have N6 : News h₀ L h7 (LawLed t79 t29 t6 C9 ((I2, o8) :: K)) := news_sub N7 fun p hp => by
      simp only [LawLed, List.mem_cons, List.mem_append] at hp ⊢
      rcases hp with h | h | h | h | h | h <;> simp [h]
    k_dflt (refine turn_ok (K := (I2, o8) :: K) B F7 X N6 T C2 C7 XB TB hd hu hC9 b79 b29 b69 (List.forall_mem_cons.mpr ⟨.inr hW8.cls, hK⟩) (up _ hl) hvs hlen (if_pos rfl) ?m2 (up _ hst) (hsd.mono up) hok ?_)
    case m2 => exact (if_neg (by decide)).trans ((hm9 _ (by decide) (by decide)).trans hm2)
    intro h5 tk5 t75 t25 C5 v5 F5 hC5 b75 b25 b65 N5
    dsimp only
    refine ⟨r.length, Nat.lt_succ_self _, o8, r, _, t75, t25, C5, h5, tk5, rfl, rfl, hW8, fun v hv => hrw9 v (.tail _ hv), F5, ?_, hC5, b75, b25, b65, news_sub N5 fun p hp => ?_⟩
    · intro z h1 h2
      exact (if_neg h1).trans ((if_neg h2).trans (hm9 z h1 h2))
    · simp only [LawLed, List.mem_cons, List.mem_append] at hp ⊢
      rcases hp with h | h | h | h | h | h <;> simp [h]
end Mine
end
section
open PySem PySem.W PyProof.Rows PySem.Spec PySem.Calls
namespace Mine
abbrev refStmt : Stmt := .If (.BoolOp .Or [.UnaryOp .Not (.Call (.Name (Str.ofString "_law_refused") ⟨71, 15, 71, 27⟩) [.Call (.Name (Str.ofString "len") ⟨71, 28, 71, 31⟩) [.Name (Str.ofString "script") ⟨71, 32, 71, 38⟩] [] ⟨71, 28, 71, 39⟩, .Name (Str.ofString "start") ⟨71, 41, 71, 46⟩] [] ⟨71, 15, 71, 47⟩) ⟨71, 11, 71, 47⟩, .UnaryOp .Not (.Call (.Name (Str.ofString "_law_refused") ⟨71, 55, 71, 67⟩) [.Constant .none 0 ⟨71, 68, 71, 72⟩, .Name (Str.ofString "start") ⟨71, 74, 71, 79⟩] [] ⟨71, 55, 71, 80⟩) ⟨71, 51, 71, 80⟩] ⟨71, 11, 71, 80⟩) [.Return (some (.Constant (.bool false) 0 ⟨72, 19, 72, 24⟩)) ⟨72, 12, 72, 24⟩] [] ⟨71, 8, 72, 24⟩
local macro_rules | `(tactic| k_mem) => `(tactic| first | exact List.Mem.head _ | (refine' List.Mem.tail _ ?_; k_mem) | assumption)
local macro_rules | `(tactic| walk_at "fence") => `(tactic| (with_reducible show wpAny _ _ (call (Value.ref _) _) _ _ _))
local macro_rules | `(tactic| walk_at "fence") => `(tactic| (with_reducible show wpAny _ _ (call (Value.builtin "len") _) _ _ _))
local macro_rules | `(tactic| walk_at "fence") => `(tactic| (with_reducible show wpAny _ _ (leaving _ _) _ _ _))
local macro_rules | `(tactic| walk_at "fence") => `(tactic| (with_reducible show (Exists _)))
local macro_rules | `(tactic| walk_at "go") => `(tactic| repeat' ((fail_if_success (walk_at "fence")); (first | (k_unfold; (try dsimp only)) | walk1 | (dsimp only; walk1) | (leave1; walk_say "STEP leave1"; try dsimp only) | fail "no step")))
/-- the ledger as _law_refused wants it, and back -/
theorem ref_led {h₀ h : Heap} {L : Addr} {t7 t2 t6 : Array Value} {C K : List (Addr × Obj)} (N : News h₀ L h (LawLed t7 t2 t6 C K)) (hC : CodeL C) (b6 : Tab56 C t6) (hK : KeptL K) :
    News h₀ L h ((56, tabObj t6) :: (37, tabObj t7) :: (32, tabObj t2) :: (C ++ K)) ∧ ∀ p ∈ (37, tabObj t7) :: (32, tabObj t2) :: (C ++ K), p.1 ≠ 56 := by
  have o6 := off_tab N (.tail _ (.tail _ (.head _))) (tab56_plain b6) hK hC (fun p hp => .tail _ (.tail _ (.tail _ (List.mem_append_right _ hp)))) (fun p hp => .tail _ (.tail _ (.tail _ (List.mem_append_left _ hp))))
  refine ⟨news_sub N fun p hp => ?_, List.forall_mem_cons.mpr ⟨(show (37 : Nat) ≠ 56 by decide), List.forall_mem_cons.mpr ⟨(show (32 : Nat) ≠ 56 by decide), fun p hp => (List.mem_append.mp hp).elim (o6.2 p) (o6.1 p)⟩⟩⟩
  simp only [LawLed, List.mem_cons, List.mem_append] at hp ⊢
  rcases hp with h | h | h | h | h <;> simp [h]
theorem led_ref {h₀ h : Heap} {L : Addr} {t7 t2 t6 : Array Value} {C K es : List (Addr × Obj)} (N : News h₀ L h ((56, tabObj t6) :: (es ++ ((37, tabObj t7) :: (32, tabObj t2) :: (C ++ K))))) (b6 : Tab56 (es ++ ((37, tabObj t7) :: (32, tabObj t2) :: (C ++ K))) t6) (hC : CodeL C) (b7 : Tab37 C t7) (b2 : Tab32 C t2) :
    ∃ C', CodeL C' ∧ Tab37 C' t7 ∧ Tab32 C' t2 ∧ Tab56 C' t6 ∧ News h₀ L h (LawLed t7 t2 t6 C' K) := by
  obtain ⟨c6, k6, u6, z6⟩ := tab56_part b6
  refine ⟨C ++ c6, hC.app k6, b7.mono fun p hp => List.mem_append_left _ hp, b2.mono fun p hp => List.mem_append_left _ hp, z6.mono fun p hp => List.mem_append_right _ hp, fun p hp => ?_⟩
  simp only [LawLed, List.mem_cons, List.mem_append] at hp
  rcases hp with h | h | h | (h | h) | h
  · exact N p (.tail _ (List.mem_append_right _ (by rw [h]; exact .head _)))
  · exact N p (.tail _ (List.mem_append_right _ (by rw [h]; exact .tail _ (.head _))))
  · exact N p (by rw [h]; exact .head _)
  · exact N p (.tail _ (List.mem_append_right _ (.tail _ (.tail _ (List.mem_append_left _ h)))))
  · exact N p (.tail _ (u6 p h))
  · exact N p (.tail _ (List.mem_append_right _ (.tail _ (.tail _ (List.mem_append_right _ h)))))
set_option maxRecDepth 100000 in
set_option maxHeartbeats 8000000 in
/-- what can't be walked, asked twice -/
theorem ref_ok {w : World} {pg : Program} {loose : List Str} {mean : ExcName → Option Value} {mg mb : Str → Option Value} {dp un : Nat} {gd : Option (List Code)} {L a : Addr} {ccd : Value} {A₀ : Around} {base h₀ : Heap} {m : Str → Option Value} {s : Shared} {Q : Flow → Shared → Prop} {E : Value → Shared → Prop}
    {t7 t2 t6 : Array Value} {C K : List (Addr × Obj)} {sc st : Addr} {scs svs : List Value} {scn sn : Nat}
    (B : Below A₀ base [] h₀) (F : Fr h₀ L s.heap m) (X : (Mine.hd.heap_39 w.params).In h₀) (N : News h₀ L s.heap (LawLed t7 t2 t6 C K)) (T : Top pg loose mean mg mb h₀) (C6 : CodeHd h₀ 60 56) (XB : (Mine.hd.heap_39 w.params).In base) (TB : Top pg loose mean mg mb base)
    (hd : dp + 4 * 63 + 20 < recursionLimit) (hu : un + 16 * (4 * 63) + 300 < cLine) (hC : CodeL C) (b7 : Tab37 C t7) (b2 : Tab32 C t2) (b6 : Tab56 C t6) (hK : KeptL K)
    (hsc : (sc, W.listOf scs.toArray scn) ∈ K) (hm1 : m (Str.ofString "script") = some (.ref sc)) (hm2 : m (Str.ofString "start") = some (.ref st)) (hst : (st, W.listOf svs.toArray sn) ∈ K) (hsv : svs.length ≤ 1) (hsl : scs.length ≤ 63)
    (next : ∀ h' tk' t6' C', Fr h₀ L h' m → CodeL C' → Tab37 C' t7 → Tab32 C' t2 → Tab56 C' t6' → News h₀ L h' (LawLed t7 t2 t6' C' K) → Q .next { s with heap := h', toks := tk' }) :
    wpAny (model PySem.Challenge.rw_dz0035_01.row.prog w) (ktrTop dp un gd (Str.ofString "law") lawScope L a ccd [] []) (exec refStmt (lawEnv L a ccd)) Q E s := by
  w_on
  revert X
  k_fill
  intro X
  walk_at "go"
  refine ld F hm1 ?_
  walk_at "go"
  refine PyProof.Rows.len_list (items := scs.toArray) ⟨_, N.get (List.Mem.tail _ (.tail _ (.tail _ (List.mem_append_right C hsc)))), rfl, scn, rfl⟩ ?fit ?_
  case fit => rw [List.size_toArray]; omega
  walk_at "go"
  refine ld F hm2 ?_
  walk_at "go"
  have upK : ∀ (x y : Addr × Obj) (c : List (Addr × Obj)), ∀ p ∈ K, p ∈ x :: y :: (c ++ K) := fun x y c p hp => .tail _ (.tail _ (List.mem_append_right _ hp))
  obtain ⟨N1, o1⟩ := ref_led N hC b6 hK
  k_dflt (refine' refused_ok (ps6 := t6) (D := (37, tabObj t7) :: (32, tabObj t2) :: (C ++ K)) (svs := svs) (sn := sn) o1 (b6.mono fun p hp => .tail _ (.tail _ (List.mem_append_left _ hp))) (upK _ _ _ _ hst) (.inl ⟨_, _, rfl⟩) hsv ?k1 F ?k3 N1 ?k5 C6 XB TB ?kK ?kd ?ku ?_; (case k1 => k_asm); (case k3 => k_asm); (case k5 => k_asm); (case kK => exact rfl))
  case kd => omega
  case ku => omega
  intro h3 tk3 t63 es3 _ _ b63 F3 N3
  obtain ⟨C3, hC3, b73, b23, b63, N3⟩ := led_ref N3 b63 hC b7 b2
  try dsimp only
  walk_at "go"
  refine ld F3 hm2 ?_
  walk_at "go"
  obtain ⟨N4, o4⟩ := ref_led N3 hC3 b63 hK
  k_dflt (refine' refused_ok (ps6 := t63) (D := (37, tabObj t7) :: (32, tabObj t2) :: (C3 ++ K)) (svs := svs) (sn := sn) o4 (b63.mono fun p hp => .tail _ (.tail _ (List.mem_append_left _ hp))) (upK _ _ _ _ hst) (.inr rfl) hsv ?k1 F3 ?k3 N4 ?k5 C6 XB TB ?kK ?kd ?ku ?_; (case k1 => k_asm); (case k3 => k_asm); (case k5 => k_asm); (case kK => exact rfl))
  case kd => omega
  case ku => omega
  intro h5 tk5 t65 es5 _ _ b65 F5 N5
  obtain ⟨C5, hC5, b75, b25, b65, N5⟩ := led_ref N5 b65 hC3 b73 b23
  try dsimp only
  walk_at "go"
  exact next h5 _ t65 C5 F5 hC5 b75 b25 b65 N5
end Mine
end
section
open PySem PySem.W PyProof.Rows PySem.Spec PySem.Calls
namespace Mine
/-- a start: a list of none or one datum, kept -/
def StartIs (K : List (Addr × Obj)) (v : Value) : Prop := ∃ st svs sn, ∃ sd : Option Dat, v = .ref st ∧ (st, W.listOf svs.toArray sn) ∈ K ∧ DatAll K svs sd.toList ∧ ∀ d, sd = some d → okD 2 d = true
local macro_rules | `(tactic| k_mem) => `(tactic| first | exact List.Mem.head _ | (refine' List.Mem.tail _ ?_; k_mem) | assumption)
local macro_rules | `(tactic| walk_at "fence") => `(tactic| (with_reducible show wpAny _ _ (call (Value.ref _) _) _ _ _))
local macro_rules | `(tactic| walk_at "fence") => `(tactic| (with_reducible show wpAny _ _ (exec (Stmt.For _ _ _ _ _) _) _ _ _))
local macro_rules | `(tactic| walk_at "fence") => `(tactic| (with_reducible show wpAny _ _ (exec (Stmt.If _ _ _ _) _) _ _ _))
local macro_rules | `(tactic| walk_at "fence") => `(tactic| (with_reducible show wpAny _ _ (leaving _ _) _ _ _))
local macro_rules | `(tactic| walk_at "fence") => `(tactic| (with_reducible show (Exists _)))
local macro_rules | `(tactic| walk_at "go") => `(tactic| repeat' ((fail_if_success (walk_at "fence")); (first | (k_unfold; (try dsimp only)) | walk1 | (dsimp only; walk1) | (leave1; walk_say "STEP leave1"; try dsimp only) | fail "no step")))
set_option maxRecDepth 100000 in
set_option maxHeartbeats 8000000 in
/-- the outer loop -/
theorem outer_ok {w : World} {pg : Program} {loose : List Str} {mean : ExcName → Option Value} {mg mb : Str → Option Value} {dp un : Nat} {gd : Option (List Code)} {L a : Addr} {ccd : Value} {A₀ : Around} {base h₀ : Heap} {m : Str → Option Value} {s : Shared} {R : Result → Shared → Prop}
    {t7 t2 t6 : Array Value} {C K : List (Addr × Obj)} {I1 sl ra sc : Addr} {sts rws scs : List Value} {n1 rn scn : Nat}
    (B : Below A₀ base [] h₀) (F : Fr h₀ L s.heap m) (X : (Mine.hd.heap_39 w.params).In h₀) (N : News h₀ L s.heap ((I1, itO sl 0) :: LawLed t7 t2 t6 C K)) (T : Top pg loose mean mg mb h₀) (C2 : CodeHd h₀ 34 32) (C7 : CodeHd h₀ 39 37) (C6 : CodeHd h₀ 60 56) (XB : (Mine.hd.heap_39 w.params).In base) (TB : Top pg loose mean mg mb base)
    (hd : dp + 4 * 63 + 20 < recursionLimit) (hu : un + 16 * (4 * 63) + 300 < cLine) (hC : CodeL C) (b7 : Tab37 C t7) (b2 : Tab32 C t2) (b6 : Tab56 C t6) (hK : KeptL K) (offK : ∀ p ∈ K, p.1 ≠ I1)
    (hsl : (sl, W.listOf sts.toArray n1) ∈ K) (hss : ∀ v ∈ sts, StartIs K v)
    (hra : (ra, W.listOf rws.toArray rn) ∈ K) (hrw : ∀ v ∈ rws, RowIs K v) (hm1 : m (Str.ofString "rows") = some (.ref ra)) (hsc : (sc, W.listOf scs.toArray scn) ∈ K) (hsl63 : scs.length ≤ 63) (hm3 : m (Str.ofString "script") = some (.ref sc))
    (done : ∀ h' tk' m' p7 p2 p6, Fr h₀ L h' m' → News h₀ L h' [(56, tabObj p6), (32, tabObj p2), (37, tabObj p7)] → R (.ok .next) { s with heap := h', toks := tk' }) :
    codeAny (model PySem.Challenge.rw_dz0035_01.row.prog w) (ktrTop dp un gd (Str.ofString "law") lawScope L a ccd [] []) (.forLoop (.Name (Str.ofString "start") ⟨66, 8, 66, 13⟩) (.ref I1) [innerStmt, refStmt] [] (lawEnv L a ccd)) R s := by
  w_on
  revert X
  k_fill
  intro X
  refine codeAny_forLoop (I := fun n9 s9 => ∃ wo9 rem9 m9 t79 t29 t69 C9 h9 tk9, s9 = { s with heap := h9, toks := tk9 } ∧ n9 = rem9.length ∧ WkO K rem9 wo9 ∧ (∀ v ∈ rem9, StartIs K v) ∧ Fr h₀ L h9 m9 ∧ (∀ z, z ≠ Str.ofString "row" → z ≠ Str.ofString "numbered" → z ≠ Str.ofString "start" → m9 z = m z) ∧ CodeL C9 ∧ Tab37 C9 t79 ∧ Tab32 C9 t29 ∧ Tab56 C9 t69 ∧ News h₀ L h9 ((I1, wo9) :: LawLed t79 t29 t69 C9 K)) ?turn sts.length
    ⟨itO sl 0, sts, m, t7, t2, t6, C, _, _, rfl, rfl, .inl ⟨sl, sts, n1, 0, rfl, hsl, rfl⟩, hss, F, fun _ _ _ _ => rfl, hC, b7, b2, b6, N⟩
  intro n9 s9 hI
  obtain ⟨wo9, rem9, m9, t79, t29, t69, C9, h9, tk9, rfl, rfl, hW9, hss9, F9, hm9, hC9, b79, b29, b69, N9⟩ := hI
  have mK : ∀ p ∈ K, p ∈ (I1, wo9) :: LawLed t79 t29 t69 C9 K := fun p hp => .tail _ (.tail _ (.tail _ (.tail _ (List.mem_append_right _ hp))))
  have oi := off_iter N9 (.head _) hW9 hC9 fun p hp => .tail _ (.tail _ (.tail _ (.tail _ (List.mem_append_left _ hp))))
  have offA : ∀ p ∈ LawLed t79 t29 t69 C9 K, p.1 ≠ I1 := List.forall_mem_cons.mpr ⟨oi.2 _ _ (.tail _ (.head _)), List.forall_mem_cons.mpr ⟨oi.2 _ _ (.tail _ (.tail _ (.head _))), List.forall_mem_cons.mpr ⟨oi.2 _ _ (.tail _ (.tail _ (.tail _ (.head _)))), fun p hp => (List.mem_append.mp hp).elim (oi.1 p) (offK p)⟩⟩⟩
  refine pyNext_wk rfl hW9 (fun p hp => N9.get (mK p hp)) (N9.get (.head _)) ?_
  intro h8 o8 hs8 hi8 hW8
  obtain ⟨F8, N8⟩ := upd_ext (g := fun o => (I1, o) :: LawLed t79 t29 t69 C9 K) F9 N9 (.head offA) hs8 hi8
  clear N9 F9
  cases rem9 with
  | nil =>
    dsimp only [List.head?]
    walk_at "go"
    refine done _ _ m9 t79 t29 t69 F8 (news_sub N8 fun p hp => ?_)
    simp only [List.mem_cons, List.not_mem_nil, or_false] at hp
    rcases hp with rfl | rfl | rfl
    · exact .tail _ (.tail _ (.tail _ (.head _)))
    · exact .tail _ (.tail _ (.head _))
    · exact .tail _ (.head _)
  | cons v r =>
    obtain ⟨st, svs, sn, sd, rfl, hst, hsd, hok⟩ := hss9 v (.head _)
    have hsv : svs.length ≤ 1 := by
      rw [hsd.length]
      cases sd <;> simp
    dsimp only [List.head?, List.tail] at hW8 ⊢
    walk_at "go"
    rename_i h7 F7 N7
    have up : ∀ p ∈ K, p ∈ (I1, o8) :: K := fun p hp => .tail _ hp
    have N6 : News h₀ L h7 (LawLed t79 t29 t69 C9 ((I1, o8) :: K)) := news_sub N7 fun p hp => by
      simp only [LawLed, List.mem_cons, List.mem_append] at hp ⊢
      rcases hp with h | h | h | h | h | h <;> simp [h]
    have hK' : KeptL ((I1, o8) :: K) := List.forall_mem_cons.mpr ⟨.inr hW8.cls, hK⟩
    have hrw' : ∀ v ∈ rws, RowIs ((I1, o8) :: K) v := fun v hv => by
      obtain ⟨l, vs, n0, ns, e, hl, r⟩ := hrw v hv
      exact ⟨l, vs, n0, ns, e, up _ hl, r⟩
    k_dflt (refine inner_ok (K := (I1, o8) :: K) B F7 X N6 T C2 C7 XB TB hd hu hC9 b79 b29 b69 hK' (up _ hra) hrw' ?m1 (if_pos rfl) (up _ hst) (hsd.mono up) hok ?_)
    case m1 => exact (if_neg (by decide)).trans ((hm9 _ (by decide) (by decide) (by decide)).trans hm1)
    intro h5 tk5 t75 t25 C5 m5 hm5 F5 hC5 b75 b25 b65 N5
    dsimp only
    walk_at "go"
    k_dflt (refine ref_ok (K := (I1, o8) :: K) B F5 X N5 T C6 XB TB hd hu hC5 b75 b25 b65 hK' (up _ hsc) ?n1 ?n2 (up _ hst) hsv hsl63 ?_)
    case n1 => exact (hm5 _ (by decide) (by decide)).trans ((if_neg (by decide)).trans ((hm9 _ (by decide) (by decide) (by decide)).trans hm3))
    case n2 => exact (hm5 _ (by decide) (by decide)).trans (if_pos rfl)
    intro h4 tk4 t64 C4 F4 hC4 b74 b24 b64 N4
    dsimp only
    walk_at "go"
    refine ⟨r.length, Nat.lt_succ_self _, o8, r, _, t75, t25, t64, C4, h4, tk4, rfl, rfl, hW8, fun v hv => hss9 v (.tail _ hv), F4, ?_, hC4, b74, b24, b64, news_sub N4 fun p hp => ?_⟩
    · intro z h1 h2 h3
      exact (hm5 z h1 h2).trans ((if_neg h3).trans (hm9 z h1 h2 h3))
    · simp only [LawLed, List.mem_cons, List.mem_append] at hp ⊢
      rcases hp with h | h | h | h | h | h <;> simp [h]
end Mine
end
section
open PySem PySem.W PyProof.Rows PySem.Spec PySem.Calls
namespace Mine
/-- law's two loops, over the things that are made ahead of them -/
theorem law_loop {w : World} {pg : Program} {loose : List Str} {mean : ExcName → Option Value} {mg mb : Str → Option Value} {dp un : Nat} {gd : Option (List Code)} {L a : Addr} {ccd : Value} {A₀ : Around} {base h₀ : Heap} {m : Str → Option Value} {s : Shared} {R : Result → Shared → Prop} {E : Value → Shared → Prop}
    {sl s0 s1 s2 s3 s4 ra d1 d2 d3 d4 x1 x2 x3 sc : Addr} {w0 w1 w2 w3 : List Value} {n0 n1 n2 n3 : List Int} {o1 o2 o3 : Obj} {t : Tok}
    (B : Below A₀ base [] h₀) (F : Fr h₀ L s.heap m) (X : (Mine.hd.heap_39 w.params).In h₀) (T : Top pg loose mean mg mb h₀) (C2 : CodeHd h₀ 34 32) (C7 : CodeHd h₀ 39 37) (C6 : CodeHd h₀ 60 56) (XB : (Mine.hd.heap_39 w.params).In base) (TB : Top pg loose mean mg mb base)
    (N : News h₀ L s.heap ((sl, W.listOf #[.ref s0, .ref s1, .ref s2, .ref s3] 0) :: (s3, W.listOf #[.ref s4] 0) :: (s4, W.listOf #[.str (Str.ofString "start") t] 0) :: (s2, W.listOf #[.bool false] 0) :: (s1, W.listOf #[.none] 0) :: (s0, W.listOf #[] 0) :: (ra, W.listOf #[.ref d1, .ref d2, .ref d3, .ref d4] 0) :: (d4, W.listOf #[] 0) :: (d3, W.listOf w3.toArray 0) :: (x1, o1) :: (d2, W.listOf w2.toArray 0) :: (x2, o2) :: (d1, W.listOf w1.toArray 0) :: (x3, o3) :: (sc, W.listOf w0.toArray 0) :: (56, tabObj #[]) :: (32, tabObj #[]) :: (37, tabObj #[]) :: []))
    (hd : dp + 4 * 63 + 20 < recursionLimit) (hu : un + 16 * (4 * 63) + 300 < cLine) (i0 : IntsAre w0 n0) (i1 : IntsAre w1 n1) (i2 : IntsAre w2 n2) (i3 : IntsAre w3 n3) (e0 : n0.length ≤ 63) (e1 : n1.length ≤ 63) (e2 : n2.length ≤ 63) (e3 : n3.length ≤ 63)
    (hm1 : m (Str.ofString "rows") = some (.ref ra)) (hm3 : m (Str.ofString "script") = some (.ref sc))
    (done : ∀ h' tk' m' p7 p2 p6, Fr h₀ L h' m' → News h₀ L h' [(56, tabObj p6), (32, tabObj p2), (37, tabObj p7)] → R (.ok .next) { s with heap := h', toks := tk' }) :
    wpAny (model PySem.Challenge.rw_dz0035_01.row.prog w) (ktrTop dp un gd (Str.ofString "law") lawScope L a ccd [] []) (pyIter (.ref sl)) (fun it s₂ => codeAny (model PySem.Challenge.rw_dz0035_01.row.prog w) (ktrTop dp un gd (Str.ofString "law") lawScope L a ccd [] []) (.forLoop (.Name (Str.ofString "start") ⟨66, 8, 66, 13⟩) it [innerStmt, refStmt] [] (lawEnv L a ccd)) R s₂) E s := by
  have N1 : News h₀ L s.heap (LawLed #[] #[] #[] [] [(sl, W.listOf #[.ref s0, .ref s1, .ref s2, .ref s3] 0), (s3, W.listOf #[.ref s4] 0), (s4, W.listOf #[.str (Str.ofString "start") t] 0), (s2, W.listOf #[.bool false] 0), (s1, W.listOf #[.none] 0), (s0, W.listOf #[] 0), (ra, W.listOf #[.ref d1, .ref d2, .ref d3, .ref d4] 0), (d4, W.listOf #[] 0), (d3, W.listOf w3.toArray 0), (d2, W.listOf w2.toArray 0), (d1, W.listOf w1.toArray 0), (sc, W.listOf w0.toArray 0)]) := news_sub N fun p hp => by
    simp only [LawLed, List.nil_append, List.mem_cons, List.not_mem_nil, or_false] at hp ⊢
    rcases hp with h | h | h | h | h | h | h | h | h | h | h | h | h | h | h <;> simp [h]
  have hK : KeptL [(sl, W.listOf #[.ref s0, .ref s1, .ref s2, .ref s3] 0), (s3, W.listOf #[.ref s4] 0), (s4, W.listOf #[.str (Str.ofString "start") t] 0), (s2, W.listOf #[.bool false] 0), (s1, W.listOf #[.none] 0), (s0, W.listOf #[] 0), (ra, W.listOf #[.ref d1, .ref d2, .ref d3, .ref d4] 0), (d4, W.listOf #[] 0), (d3, W.listOf w3.toArray 0), (d2, W.listOf w2.toArray 0), (d1, W.listOf w1.toArray 0), (sc, W.listOf w0.toArray 0)] := fun p hp => by
    simp only [List.mem_cons, List.not_mem_nil, or_false] at hp
    rcases hp with rfl | rfl | rfl | rfl | rfl | rfl | rfl | rfl | rfl | rfl | rfl | rfl <;> exact .inl rfl
  have mem : ∀ {p : Addr × Obj}, p ∈ [(sl, W.listOf #[.ref s0, .ref s1, .ref s2, .ref s3] 0), (s3, W.listOf #[.ref s4] 0), (s4, W.listOf #[.str (Str.ofString "start") t] 0), (s2, W.listOf #[.bool false] 0), (s1, W.listOf #[.none] 0), (s0, W.listOf #[] 0), (ra, W.listOf #[.ref d1, .ref d2, .ref d3, .ref d4] 0), (d4, W.listOf #[] 0), (d3, W.listOf w3.toArray 0), (d2, W.listOf w2.toArray 0), (d1, W.listOf w1.toArray 0), (sc, W.listOf w0.toArray 0)] → p ∈ LawLed #[] #[] #[] [] [(sl, W.listOf #[.ref s0, .ref s1, .ref s2, .ref s3] 0), (s3, W.listOf #[.ref s4] 0), (s4, W.listOf #[.str (Str.ofString "start") t] 0), (s2, W.listOf #[.bool false] 0), (s1, W.listOf #[.none] 0), (s0, W.listOf #[] 0), (ra, W.listOf #[.ref d1, .ref d2, .ref d3, .ref d4] 0), (d4, W.listOf #[] 0), (d3, W.listOf w3.toArray 0), (d2, W.listOf w2.toArray 0), (d1, W.listOf w1.toArray 0), (sc, W.listOf w0.toArray 0)] := fun hp => .tail _ (.tail _ (.tail _ hp))
  have starts : ∀ v ∈ [Value.ref s0, .ref s1, .ref s2, .ref s3], StartIs [(sl, W.listOf #[.ref s0, .ref s1, .ref s2, .ref s3] 0), (s3, W.listOf #[.ref s4] 0), (s4, W.listOf #[.str (Str.ofString "start") t] 0), (s2, W.listOf #[.bool false] 0), (s1, W.listOf #[.none] 0), (s0, W.listOf #[] 0), (ra, W.listOf #[.ref d1, .ref d2, .ref d3, .ref d4] 0), (d4, W.listOf #[] 0), (d3, W.listOf w3.toArray 0), (d2, W.listOf w2.toArray 0), (d1, W.listOf w1.toArray 0), (sc, W.listOf w0.toArray 0)] v := fun v hv => by
    simp only [List.mem_cons, List.not_mem_nil, or_false] at hv
    rcases hv with rfl | rfl | rfl | rfl
    · exact ⟨s0, [], 0, none, rfl, by simp, .nil, fun d e => nomatch e⟩
    · exact ⟨s1, [.none], 0, some .none, rfl, by simp, .cons .none .nil, fun d e => by cases e; rfl⟩
    · exact ⟨s2, [.bool false], 0, some (.bool false), rfl, by simp, .cons (.bool _) .nil, fun d e => by cases e; rfl⟩
    · exact ⟨s3, [.ref s4], 0, some (.list [.str (Str.ofString "start")]), rfl, by simp, .cons (DatIn.list (vs := [_]) (n := 0) (.tail _ (.tail _ (.head _))) (.cons (.str _ _) .nil)) .nil, fun d e => by cases e; decide +kernel⟩
  have rows : ∀ v ∈ [Value.ref d1, .ref d2, .ref d3, .ref d4], RowIs [(sl, W.listOf #[.ref s0, .ref s1, .ref s2, .ref s3] 0), (s3, W.listOf #[.ref s4] 0), (s4, W.listOf #[.str (Str.ofString "start") t] 0), (s2, W.listOf #[.bool false] 0), (s1, W.listOf #[.none] 0), (s0, W.listOf #[] 0), (ra, W.listOf #[.ref d1, .ref d2, .ref d3, .ref d4] 0), (d4, W.listOf #[] 0), (d3, W.listOf w3.toArray 0), (d2, W.listOf w2.toArray 0), (d1, W.listOf w1.toArray 0), (sc, W.listOf w0.toArray 0)] v := fun v hv => by
    simp only [List.mem_cons, List.not_mem_nil, or_false] at hv
    rcases hv with rfl | rfl | rfl | rfl
    · exact ⟨d1, w1, 0, n1, rfl, by simp, i1, e1⟩
    · exact ⟨d2, w2, 0, n2, rfl, by simp, i2, e2⟩
    · exact ⟨d3, w3, 0, n3, rfl, by simp, i3, e3⟩
    · exact ⟨d4, [], 0, [], rfl, by simp, .nil, by simp⟩
  have mSl : (sl, W.listOf [Value.ref s0, .ref s1, .ref s2, .ref s3].toArray 0) ∈ [(sl, W.listOf #[.ref s0, .ref s1, .ref s2, .ref s3] 0), (s3, W.listOf #[.ref s4] 0), (s4, W.listOf #[.str (Str.ofString "start") t] 0), (s2, W.listOf #[.bool false] 0), (s1, W.listOf #[.none] 0), (s0, W.listOf #[] 0), (ra, W.listOf #[.ref d1, .ref d2, .ref d3, .ref d4] 0), (d4, W.listOf #[] 0), (d3, W.listOf w3.toArray 0), (d2, W.listOf w2.toArray 0), (d1, W.listOf w1.toArray 0), (sc, W.listOf w0.toArray 0)] := .head _
  have mRa : (ra, W.listOf [Value.ref d1, .ref d2, .ref d3, .ref d4].toArray 0) ∈ [(sl, W.listOf #[.ref s0, .ref s1, .ref s2, .ref s3] 0), (s3, W.listOf #[.ref s4] 0), (s4, W.listOf #[.str (Str.ofString "start") t] 0), (s2, W.listOf #[.bool false] 0), (s1, W.listOf #[.none] 0), (s0, W.listOf #[] 0), (ra, W.listOf #[.ref d1, .ref d2, .ref d3, .ref d4] 0), (d4, W.listOf #[] 0), (d3, W.listOf w3.toArray 0), (d2, W.listOf w2.toArray 0), (d1, W.listOf w1.toArray 0), (sc, W.listOf w0.toArray 0)] := .tail _ (.tail _ (.tail _ (.tail _ (.tail _ (.tail _ (.head _))))))
  have mSc : (sc, W.listOf w0.toArray 0) ∈ [(sl, W.listOf #[.ref s0, .ref s1, .ref s2, .ref s3] 0), (s3, W.listOf #[.ref s4] 0), (s4, W.listOf #[.str (Str.ofString "start") t] 0), (s2, W.listOf #[.bool false] 0), (s1, W.listOf #[.none] 0), (s0, W.listOf #[] 0), (ra, W.listOf #[.ref d1, .ref d2, .ref d3, .ref d4] 0), (d4, W.listOf #[] 0), (d3, W.listOf w3.toArray 0), (d2, W.listOf w2.toArray 0), (d1, W.listOf w1.toArray 0), (sc, W.listOf w0.toArray 0)] := by simp
  generalize [(sl, W.listOf #[.ref s0, .ref s1, .ref s2, .ref s3] 0), (s3, W.listOf #[.ref s4] 0), (s4, W.listOf #[.str (Str.ofString "start") t] 0), (s2, W.listOf #[.bool false] 0), (s1, W.listOf #[.none] 0), (s0, W.listOf #[] 0), (ra, W.listOf #[.ref d1, .ref d2, .ref d3, .ref d4] 0), (d4, W.listOf #[] 0), (d3, W.listOf w3.toArray 0), (d2, W.listOf w2.toArray 0), (d1, W.listOf w1.toArray 0), (sc, W.listOf w0.toArray 0)] = K at N1 hK mem starts rows mSl mRa mSc
  clear N
  refine wpAny_pyIter_list (items := [Value.ref s0, .ref s1, .ref s2, .ref s3].toArray) ⟨_, N1.get (mem mSl), rfl, 0, rfl⟩ ?_
  have F2 := F.push { cls := .type "list_iterator", data := .fields #[.ref sl, .int 0 0] }
  have N2 := News.push F N1 { cls := .type "list_iterator", data := .fields #[.ref sl, .int 0 0] } rfl
  have offK : ∀ p ∈ K, p.1 ≠ s.heap.objs.size := fun p hp => Nat.ne_of_lt (Heap.lt_size (N1 p (mem hp)).1)
  refine outer_ok (sts := [Value.ref s0, .ref s1, .ref s2, .ref s3]) (rws := [Value.ref d1, .ref d2, .ref d3, .ref d4]) B F2 X N2 T C2 C7 C6 XB TB hd hu .nil (.inl rfl) (.inl rfl) (.inl rfl) hK offK mSl starts mRa rows hm1 mSc (by rw [i0.length]; exact e0) hm3 done
end Mine
end
section
open PySem PySem.W PyProof.Rows PySem.Spec PySem.Calls
namespace Mine
local macro_rules | `(tactic| walk_at "fence") => `(tactic| (with_reducible show wpAny _ _ (call (Value.ref _) _) _ _ _))
local macro_rules | `(tactic| walk_at "fence") => `(tactic| (with_reducible show wpAny _ _ (exec (Stmt.For _ _ _ _ _) _) _ _ _))
local macro_rules | `(tactic| walk_at "fence") => `(tactic| (with_reducible show wpAny _ _ (pyIter _) _ _ _))
local macro_rules | `(tactic| walk_at "go") => `(tactic| repeat' ((fail_if_success (walk_at "fence")); (first | (k_unfold; (try dsimp only)) | walk1 | (dsimp only; walk1) | (leave1; walk_say "STEP leave1"; try dsimp only) | fail "no step")))
set_option maxRecDepth 100000 in
set_option maxHeartbeats 8000000 in
theorem fin : PySem.Challenge.rw_dz0035_01.Holds := hd (by
  w_on
  w_strict (
    k_go0
    (all_goals try k_fold)
    walk_at "go"
    refine wpAny_For ?_
    walk_at "go"
    (rename Below _ _ _ _ => KK)
    (rename Top _ _ _ _ _ (ghostOf _ _) => TT)
    (rename Frag.In _ (ghostOf _ _) => XX)
    (rename CodeHd _ 34 32 => cc2)
    (rename CodeHd _ 39 37 => cc7)
    (rename CodeHd _ 60 56 => cc6)
    (rename Fr _ _ _ _ => FF)
    (rename News _ _ _ _ => NN)
    k_dflt (refine' law_loop KK FF XX TT cc2 cc7 cc6 XX TT NN ?kd ?ku ?i0 ?i1 ?i2 ?i3 ?e0 ?e1 ?e2 ?e3 ?m1 ?m3 ?_; (case i0 => assumption); (case i1 => assumption); (case i2 => assumption); (case i3 => assumption); (case kd => decide +kernel); (case ku => decide +kernel); (case e0 => (simp only [List.length_take]; omega)); (case e1 => (simp only [List.length_append, List.length_take, List.length_cons, List.length_nil]; omega)); (case e2 => (simp only [List.length_append, List.length_take, List.length_cons, List.length_nil]; omega)); (case e3 => (simp only [List.length_append, List.length_take, List.length_cons, List.length_nil]; omega)); (case m1 => exact rfl); (case m3 => exact rfl))
    intro hE tE mE p7 p2 p6 FE NE
    dsimp only
    clear FF NN
    walk_at "go"
    k_steps
    all_goals w_report))
end Mine
end
theorem PySem.Challenge.cw_dz0035_01_holds : PySem.Challenge.rw_dz0035_01.Holds :=
  Mine.fin
