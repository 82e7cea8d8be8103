import PyProof.Rows.All
import Wide.All
import OpenK.AllK
import Wide.FinOn
import PySem.Challenge.RW_ai0002_01
open PySem PySem.W PyProof.Rows
set_option Elab.async false
set_option maxRecDepth 100000
set_option maxHeartbeats 8000000
namespace Mine
open_top hd for PySem.Challenge.rw_ai0002_01
end Mine

namespace Mine
open PySem.Calls PySem.Spec

section
variable {prog : Program} {w : World} {A A₀ : Around} {s : Shared} {K : Frag} {L : Addr} {h₀ base : Heap} {m mg mb : Str → Option Value} {p : Program} {loose : List Str} {mean : ExcName → Option Value}

theorem call_frozen {env : Env} {outer : List Env} {R : Result → Shared → Prop} {name qual : Str} {params : Arguments} {body : List Stmt} {scope : Scope} {dV kV doc pm cdv ct oc : Value} {an od : Option Addr} {osl : Array (Option Value)} {f : Addr} {args : Args} {binds : List (Str × Value)}
    (B : Below A₀ base outer h₀) (F : Fr h₀ L s.heap m) (X₀ : K.In h₀) (T : Top p loose mean mg mb h₀) (hA : A.frames = some (env :: outer)) (hf : env.frame = some L) (hke : env.scope.kind = .function)
    (ho : K.lookup f = some ⟨oc, od, .func (fnOf name qual params body scope dV kV doc pm an cdv ct), osl⟩) (hcd : codeIn K cdv qual = true) (hroom : A.depth < recursionLimit)
    (hbind : BindsTo s (fnOf name qual params body scope dV kV doc pm an cdv ct) args binds) (hkind : (binds.all fun y => scope.names.lookup y.1 == some .local || scope.names.lookup y.1 == some .cell) = true)
    (hnd : ((cellsFrom 0 scope.names []).map (·.1)).Nodup)
    (h : ∀ g L' h₁ tk cells, g = s.heap → Fr g L' h₁ (bindL (envOfC qual scope L' f cdv).kindOf binds fun _ => none) → News g L' h₁ cells →
      CellsAre (bindC (envOfC qual scope L' f cdv).kindOf binds fun _ => none) (cellsFrom (L' + 1) scope.names []) cells → Below A base (env :: outer) g → K.In g → Top p loose mean mg mb g →
      wpAny (model prog w) (A.deeper (envOfC qual scope L' f cdv)) (execs body (envOfC qual scope L' f cdv))
        (fun fl s' => R (.ok (.ret (match fl with | .ret v => v | _ => .none))) s')
        (fun e s' => wpAny (model prog w) (A.deeper (envOfC qual scope L' f cdv)) (leaving (envOfC qual scope L' f cdv) e) (fun _ s'' => R (.error e) s'') (fun e' s'' => R (.error e') s'') s')
        { s with heap := h₁, toks := tk })
    (hco : scope.isCoroutine = false) (hgen : scope.isGenerator = false) (hk : scope.kind = .function) : codeAny (model prog w) A (.call (.ref f) args) R s := by
  have hX : K.In s.heap := X₀.keeps F.keep
  have hT : Top p loose mean mg mb s.heap := T.keeps F.keep
  have hnew : base.get? L = none := by
    cases hq : base.get? L with
    | none => rfl
    | some o => exact absurd (Nat.lt_of_lt_of_le (Heap.lt_size (B.stays L o hq)) F.above) (Nat.lt_irrefl _)
  have BG : Below A base (env :: outer) s.heap := by
    refine ⟨hA, fun b o e => F.keep b o (B.stays b o e), ?_⟩
    exact .cons (by rw [hke]; decide) hf F.ns hnew (B.frames.of_keeps fun b o e _ => ⟨o, F.keep b o e, rfl⟩)
  refine codeAny_call_function hroom (hX _ _ ho) rfl hco hgen rfl (codeRec_of hX hcd) (hbind _ _ _ _ ?_)
  refine wpAny_newFunctionEnv_cells hk (kindsX hkind _) fun env' he s' x => ?_
  subst he
  refine ⟨(T.nolimit.keeps F.keep).keeps x.toInCall.keep, codeAny_func ?_⟩
  obtain ⟨h₁, tk, rfl, _⟩ := x.done
  have hk₁ := x.toInCall.keep
  obtain ⟨cells, NC, Y⟩ := Cl.news (h₀ := s.heap) (Nat.le_refl _) fun n c hm => ⟨x.cell n c (lookup_of_mem_nodup (cellsFrom_names scope.names 0 (s.heap.objs.size + 1) [] [] rfl ▸ hnd) hm), x.above n c hm⟩
  exact h s.heap s.heap.objs.size h₁ tk cells rfl ⟨x.toInCall.ns, hk₁, Nat.le_refl _⟩ NC Y BG hX hT
end
end Mine

namespace Mine
open PySem.Calls PySem.Spec

abbrev tupOf (vs : List Value) : Obj := { cls := .type "tuple", data := .seq vs.toArray }

/-- all the addresses of a ledger lie above one -/
def Above (b : Addr) (ex : List (Addr × Obj)) : Prop := ∀ p ∈ ex, @LT.lt Nat _ b p.1
theorem Above.nil {b : Addr} : Above b [] := fun _ h => nomatch h
theorem Above.cons {b : Addr} {p : Addr × Obj} {ex : List (Addr × Obj)} (h : @LT.lt Nat _ b p.1) (r : Above b ex) : Above b (p :: ex) := fun q hq => by
  rcases List.mem_cons.mp hq with rfl | hq
  · exact h
  · exact r q hq
theorem Above.ne {b c : Addr} {ex : List (Addr × Obj)} (r : Above b ex) (h : @LE.le Nat _ c b) : ∀ p ∈ ex, p.1 ≠ c := fun p hp e => by
  have := r p hp
  rw [e] at this
  exact Nat.lt_irrefl _ (Nat.lt_of_lt_of_le this h)
theorem Above.off {I C D : Addr} {ex : List (Addr × Obj)} (h : ∀ p ∈ ex, p.1 ≠ I ∧ p.1 ≠ C ∧ p.1 ≠ D) : LCg.Off3 I C D ex := LCg.Off3.of h

section
variable {prog : Program} {w : World} {A : Around} {h₀ : Heap} {L : Addr} {m : Str → Option Value} {env : Env} {elt : Expr} {x : Str} {scope : Scope} {cl : List (Str × Addr)} {s : Shared} {S : List (Addr × Obj) → Prop} {P : Nat → Value → Prop} {Fin : List Value → List (Addr × Obj) → Prop} {news : List (Addr × Obj)}

theorem rest_gen {n : Nat} (I : Nat → List Value → List (Addr × Obj) → Prop) (h0 : I 0 [] news)
    (turn : ∀ i v ys nw J oI C oC D m₂ h tk (E' : Value → Shared → Prop), i < n → P i v → I i ys nw → LCg.NsObj oC m₂ → m₂ x = some v → Fr h₀ L h m →
      News h₀ L h ((J, oI) :: (C, oC) :: (D, LCg.lst ys) :: nw) → LCg.Off3 J C D nw → ((@Ne Nat J C) ∧ (@Ne Nat J D) ∧ (@Ne Nat C D)) →
      wpAny (model prog w) A (eval elt (compEnvC scope cl C env)) (LCg.CompEnd h₀ L m { s with heap := h, toks := tk } J oI C oC D (LCg.lst ys) S (fun y nw' => I (i + 1) (ys ++ [y]) nw')) E' { s with heap := h, toks := tk })
    (fin : ∀ ys nw, I n ys nw → Fin ys nw) : LCg.CompRest prog w A h₀ L m env elt x scope cl s S P Fin n 0 [] news := by
  have key : ∀ (j i : Nat) (ys : List Value) (nw : List (Addr × Obj)), i + j = n → I i ys nw → LCg.CompRest prog w A h₀ L m env elt x scope cl s S P Fin j i ys nw := by
    intro j
    induction j with
    | zero =>
      intro i ys nw hi hy
      have e : i = n := by omega
      subst e
      exact LCg.CompRest.zero (fin ys nw hy)
    | succ j ih =>
      intro i ys nw hi hy
      refine LCg.CompRest.succ ?_
      intro v J oI C oC D m₂ h tk E' hv hC hx F N off ne
      refine wpAny_mono (turn i v ys nw J oI C oC D m₂ h tk E' (by omega) hv hy hC hx F N off ne) (fun y s₂ hq => ?_) fun _ _ e => e
      obtain ⟨h', tk', nw', e, F', N', off', hS, hI⟩ := hq
      exact ⟨h', tk', nw', e, F', N', off', hS, ih (i + 1) _ _ (by omega) hI⟩
  exact key n 0 [] news (by omega) h0
end

/-- a list of pairs of ints, as tuples that a ledger holds -/
def TupAt (ex : List (Addr × Obj)) (v : Value) (p : Int × Int) : Prop := ∃ r t u, v = .ref r ∧ (r, tupOf [.int p.1 t, .int p.2 u]) ∈ ex
theorem TupAt.mono {ex ex' : List (Addr × Obj)} (hs : ∀ p ∈ ex, p ∈ ex') {v : Value} {p : Int × Int} (h : TupAt ex v p) : TupAt ex' v p :=
  let ⟨r, t, u, e, hm⟩ := h; ⟨r, t, u, e, hs _ hm⟩
def Tups (ex : List (Addr × Obj)) (ys : List Value) (ps : List (Int × Int)) : Prop := ys.length = ps.length ∧ ∀ (j : Nat) (v : Value) (p : Int × Int), ys[j]? = some v → ps[j]? = some p → TupAt ex v p
theorem Tups.nil {ex : List (Addr × Obj)} : Tups ex [] [] := ⟨rfl, fun _ _ _ h => by simp at h⟩
theorem Tups.mono {ex ex' : List (Addr × Obj)} (hs : ∀ p ∈ ex, p ∈ ex') {ys : List Value} {ps : List (Int × Int)} (h : Tups ex ys ps) : Tups ex' ys ps :=
  ⟨h.1, fun j v p a b => (h.2 j v p a b).mono hs⟩
theorem Tups.snoc {ex : List (Addr × Obj)} {ys : List Value} {ps : List (Int × Int)} (h : Tups ex ys ps) {r : Addr} {a b : Int} {t u : Tok} :
    Tups ((r, tupOf [.int a t, .int b u]) :: ex) (ys ++ [.ref r]) (ps ++ [(a, b)]) := by
  refine ⟨by simp [h.1], fun j v p hv hp => ?_⟩
  by_cases hj : j < ys.length
  · rw [List.getElem?_append_left hj] at hv
    rw [List.getElem?_append_left (h.1 ▸ hj)] at hp
    exact (h.2 j v p hv hp).mono fun q hq => List.mem_cons_of_mem _ hq
  · have e : j = ys.length := by
      have := (List.getElem?_eq_some_iff.mp hv).1
      simp at this; omega
    subst e
    rw [h.1] at hp
    simp at hv hp
    subst hv; subst hp
    exact ⟨r, t, u, rfl, List.mem_cons_self⟩
theorem Tups.snocN {h₀ h : Heap} {L : Addr} {rest ex : List (Addr × Obj)} {ys : List Value} {ps : List (Int × Int)} {r : Addr} {a b : Int} {t u : Tok}
    (hT : Tups ex ys ps) (_N : News h₀ L h ((r, ({ cls := .type "tuple", data := .seq #[.int a t, .int b u] } : Obj)) :: rest)) :
    Tups ((r, ({ cls := .type "tuple", data := .seq #[.int a t, .int b u] } : Obj)) :: ex) (ys ++ [.ref r]) (ps ++ [(a, b)]) := hT.snoc
theorem take_map_succ {α β : Type} {f : α → β} {l : List α} {i : Nat} {x : α} (h : l[i]? = some x) : (l.take (i + 1)).map f = (l.take i).map f ++ [f x] := by
  rw [List.take_add_one, h]; simp
theorem sum_lo {l : List Int} (h : ∀ v ∈ l, 1 ≤ v) : (l.length : Int) ≤ l.sum := by
  induction l with
  | nil => simp
  | cons a r ih =>
    have h1 := h a List.mem_cons_self
    have h2 := ih fun v hv => h v (List.mem_cons_of_mem _ hv)
    simp only [List.length_cons, List.sum_cons]
    omega
theorem sum_pos {l : List Int} (hne : l ≠ []) (h : ∀ v ∈ l, 1 ≤ v) : 0 < l.sum := by
  have h1 := sum_lo h
  have h2 : 0 < l.length := List.length_pos_iff.mpr hne
  omega
theorem sum_hi {l : List Int} {b : Int} (h : ∀ v ∈ l, v ≤ b) : l.sum ≤ (l.length : Int) * b := by
  induction l with
  | nil => simp
  | cons a r ih =>
    have h1 := h a List.mem_cons_self
    have h2 := ih fun v hv => h v (List.mem_cons_of_mem _ hv)
    simp only [List.length_cons, List.sum_cons]
    have e : ((r.length + 1 : Nat) : Int) * b = (r.length : Int) * b + b := by
      rw [Int.natCast_add, Int.add_mul]; simp
    omega

section
variable {prog : Program} {w : World} {A : Around} {E : Value → Shared → Prop} {s : Shared} {h₀ : Heap} {L l : Addr} {news : List (Addr × Obj)} {vs : List Value} {c : Nat}
theorem item_led {value slice : PySem.Expr} {k : Int} {u : Tok} {v : Value} {Q : Value → Shared → Prop} (N : News h₀ L s.heap news) (hm : (l, ({ cls := .type "list", data := .seq vs.toArray c } : Obj)) ∈ news)
    (h0 : 0 ≤ k) (hhi : k < 2 ^ 62) (hx : vs[k.toNat]? = some v) (h : Q v s)
    (hs : subscripted slice false (.ref l) (.int k u) = operate [.ref l, .int k u] (getItem (.ref l) (.int k u)) := by with_unfolding_all rfl) :
    wpAny (model prog w) A (subscriptTail value slice (.ref l) (.int k u)) Q E s := by
  have hl : s.heap.IsList l vs.toArray := ⟨_, N.get hm, rfl, c, rfl⟩
  exact tail_any hl.typeIs slot_list_getitem.lookup (wpAny_getItem_list hl h0 (by omega) (by simpa using hx) h) hs
theorem item_led_neg {value slice : PySem.Expr} {k : Int} {u : Tok} {v : Value} {Q : Value → Shared → Prop} (N : News h₀ L s.heap news) (hm : (l, ({ cls := .type "list", data := .seq vs.toArray c } : Obj)) ∈ news)
    (h0 : k < 0) (h1 : -(vs.length : Int) ≤ k) (hlo : -(2 ^ 62) ≤ k) (hx : vs[(k + vs.length).toNat]? = some v) (h : Q v s)
    (hs : subscripted slice false (.ref l) (.int k u) = operate [.ref l, .int k u] (getItem (.ref l) (.int k u)) := by with_unfolding_all rfl) :
    wpAny (model prog w) A (subscriptTail value slice (.ref l) (.int k u)) Q E s := by
  have hl : s.heap.IsList l vs.toArray := ⟨_, N.get hm, rfl, c, rfl⟩
  exact tail_any hl.typeIs slot_list_getitem.lookup (wpAny_getItem_list_neg hl h0 (by simpa using h1) (by omega) (by simpa using hx) h) hs
end

/-- each party's share of the house, rounded down; what is left of it, over the sum of the votes -/
def flo (votes : List Int) (k : Int) : List Int := votes.map fun p => (p * k).fdiv votes.sum
def rmd (votes : List Int) (k : Int) : List Int := votes.map fun p => p * k - (p * k).fdiv votes.sum * votes.sum
theorem flo_length {votes : List Int} {k : Int} : (flo votes k).length = votes.length := List.length_map _
theorem rmd_length {votes : List Int} {k : Int} : (rmd votes k).length = votes.length := List.length_map _
theorem mem_le_sum {l : List Int} (h : ∀ v ∈ l, 1 ≤ v) {p : Int} (hp : p ∈ l) : p ≤ l.sum := by
  induction l with
  | nil => exact nomatch hp
  | cons a r ih =>
    have h1 := h a List.mem_cons_self
    have hr : ∀ v ∈ r, 1 ≤ v := fun v hv => h v (List.mem_cons_of_mem _ hv)
    have h2 := sum_lo hr
    simp only [List.sum_cons]
    rcases List.mem_cons.mp hp with rfl | hp
    · omega
    · have := ih hr hp; omega
theorem fdiv_bd {p k S : Int} (hS : 0 < S) (h0 : 0 ≤ p) (hp : p ≤ S) (hk : 0 ≤ k) : 0 ≤ (p * k).fdiv S ∧ (p * k).fdiv S ≤ k := by
  rw [Int.fdiv_eq_ediv_of_nonneg _ (Int.le_of_lt hS)]
  have h1 : 0 ≤ p * k := Int.mul_nonneg h0 hk
  have h2 : p * k ≤ S * k := Int.mul_le_mul_of_nonneg_right hp hk
  refine ⟨Int.ediv_nonneg h1 (Int.le_of_lt hS), ?_⟩
  refine Int.ediv_le_of_le_mul hS ?_
  rw [Int.mul_comm k S]; exact h2
theorem mulOk_small {a b : Int} (h0 : 0 ≤ a) (h1 : a ≤ 1000) : IntMulOk a b := IntMulOk.of_left (intBits_le_64 (by omega) (by omega))
/-- one turn of the loop that gives the seats that are left: the house as it is so far, and whether there was a tie -/
def stp (k c : Int) (rs : List Int) (st : List Int × Bool) (i : Nat) : List Int × Bool :=
  if st.1.sum = k then (st.1, st.2 || decide (c ≤ rs.getD i 0))
  else if st.1.sum < k ∧ c ≤ rs.getD i 0 then (st.1.set i (st.1.getD i 0 + 1), st.2) else st
def runTo (k c : Int) (rs : List Int) (st : List Int × Bool) (n : Nat) : List Int × Bool := (List.range n).foldl (stp k c rs) st
theorem runTo_zero {k c : Int} {rs : List Int} {st : List Int × Bool} : runTo k c rs st 0 = st := rfl
theorem runTo_succ {k c : Int} {rs : List Int} {st : List Int × Bool} {n : Nat} : runTo k c rs st (n + 1) = stp k c rs (runTo k c rs st n) n := by
  simp [runTo, List.range_succ]
theorem stp_length {k c : Int} {rs : List Int} {st : List Int × Bool} {i : Nat} : (stp k c rs st i).1.length = st.1.length := by
  unfold stp
  split
  · rfl
  · split
    · simp
    · rfl
theorem runTo_length {k c : Int} {rs : List Int} {st : List Int × Bool} (n : Nat) : (runTo k c rs st n).1.length = st.1.length := by
  induction n with
  | zero => rfl
  | succ n ih => rw [runTo_succ, stp_length, ih]
/-- the cutoff: what is asked of it, of a list and a place from its end -/
def IsCut (rs : List Int) (j : Int) (c : Int) : Prop := c ∈ rs ∧ j ≤ (rs.countP fun x => decide (c ≤ x) : Nat) ∧ ((rs.countP fun x => decide (c < x) : Nat) : Int) < j

theorem cut_of_sorted {a rs : List Int} (p : a.Perm rs) (o : a.Pairwise (· ≤ ·)) {i : Nat} (hi : i < a.length) : IsCut rs ((a.length : Int) - i) a[i] := by
  refine ⟨p.mem_iff.mp (List.getElem_mem hi), ?_, ?_⟩
  · rw [← p.countP_eq]
    have h1 : (a.drop i).countP (fun x => decide (a[i] ≤ x)) = (a.drop i).length := by
      rw [List.countP_eq_length]
      intro x hx
      rw [decide_eq_true_eq]
      obtain ⟨j, hj, e⟩ := List.getElem_of_mem hx
      rw [List.getElem_drop] at e
      rw [← e]
      by_cases hj0 : j = 0
      · subst hj0; simp
      · exact List.pairwise_iff_getElem.mp o i (i + j) hi _ (by omega)
    have h2 : (a.drop i).countP (fun x => decide (a[i] ≤ x)) ≤ a.countP (fun x => decide (a[i] ≤ x)) := (List.drop_sublist i a).countP_le
    rw [h1, List.length_drop] at h2
    omega
  · rw [← p.countP_eq]
    have h1 : (a.take (i + 1)).countP (fun x => decide (a[i] < x)) = 0 := by
      rw [List.countP_eq_zero]
      intro x hx
      rw [decide_eq_true_eq]
      obtain ⟨j, hj, e⟩ := List.getElem_of_mem hx
      rw [List.length_take] at hj
      rw [List.getElem_take] at e
      rw [← e]
      by_cases hj0 : j = i
      · subst hj0; omega
      · have := List.pairwise_iff_getElem.mp o j i (by omega) hi (by omega)
        omega
    have h2 : a.countP (fun x => decide (a[i] < x)) = (a.take (i + 1)).countP (fun x => decide (a[i] < x)) + (a.drop (i + 1)).countP (fun x => decide (a[i] < x)) := by
      rw [← List.countP_append, List.take_append_drop]
    have h3 := List.countP_le_length (p := fun x => decide (a[i] < x)) (l := a.drop (i + 1))
    rw [List.length_drop] at h3
    rw [h2, h1]
    omega

theorem map_split {S k : Int} (votes : List Int) : (votes.map fun p => p * k).sum = (votes.map fun p => (p * k).fdiv S).sum * S + (votes.map fun p => p * k - (p * k).fdiv S * S).sum := by
  induction votes with
  | nil => simp
  | cons a r ih =>
    simp only [List.map_cons, List.sum_cons, ih, Int.add_mul]
    omega
theorem map_mul_sum {k : Int} (votes : List Int) : (votes.map fun p => p * k).sum = votes.sum * k := by
  induction votes with
  | nil => simp
  | cons a r ih => simp only [List.map_cons, List.sum_cons, ih, Int.add_mul]
theorem rmd_bd {p k S : Int} (hS : 0 < S) : 0 ≤ p * k - (p * k).fdiv S * S ∧ p * k - (p * k).fdiv S * S < S := by
  rw [Int.fdiv_eq_ediv_of_nonneg _ (Int.le_of_lt hS)]
  have h1 := Int.emod_nonneg (p * k) (Int.ne_of_gt hS)
  have h2 := Int.emod_lt_of_pos (p * k) hS
  have h3 := Int.mul_ediv_add_emod (p * k) S
  rw [Int.mul_comm] at h3
  omega
theorem sum_bd_all {S : Int} (l : List Int) (h : ∀ x ∈ l, 0 ≤ x ∧ x < S) : 0 ≤ l.sum ∧ (l ≠ [] → l.sum < (l.length : Int) * S) := by
  induction l with
  | nil => simp
  | cons a r ih =>
    have h1 := h a List.mem_cons_self
    have h2 := ih fun v hv => h v (List.mem_cons_of_mem _ hv)
    simp only [List.sum_cons, List.length_cons]
    refine ⟨by omega, fun _ => ?_⟩
    have e : ((r.length + 1 : Nat) : Int) * S = (r.length : Int) * S + S := by rw [Int.natCast_add, Int.add_mul]; simp
    rw [e]
    by_cases hr : r = []
    · subst hr; simp; omega
    · have := h2.2 hr; omega
/-- the shares rounded down make the house or less, and less than one seat a party is lacking -/
theorem flo_sum_bd {votes : List Int} {k : Int} (hS : 0 < votes.sum) (hne : votes ≠ []) : (flo votes k).sum ≤ k ∧ k < (flo votes k).sum + votes.length := by
  have h1 := map_split (S := votes.sum) (k := k) votes
  rw [map_mul_sum] at h1
  have h2 := sum_bd_all (S := votes.sum) (rmd votes k) (fun x hx => by
    obtain ⟨p, _, rfl⟩ := List.mem_map.mp hx
    exact rmd_bd hS)
  have hne' : rmd votes k ≠ [] := by simp [rmd, hne]
  have h3 := h2.2 hne'
  rw [rmd_length] at h3
  have e1 : (votes.map fun p => (p * k).fdiv votes.sum).sum = (flo votes k).sum := rfl
  have e2 : (votes.map fun p => p * k - (p * k).fdiv votes.sum * votes.sum).sum = (rmd votes k).sum := rfl
  rw [e1, e2] at h1
  constructor
  · refine Int.le_of_mul_le_mul_left (a := votes.sum) ?_ hS
    rw [Int.mul_comm votes.sum (flo votes k).sum]
    omega
  · refine Int.lt_of_mul_lt_mul_left (a := votes.sum) ?_ (Int.le_of_lt hS)
    rw [Int.mul_add, Int.mul_comm votes.sum (flo votes k).sum, Int.mul_comm votes.sum (votes.length : Int)]
    omega
theorem getD_eq' {l : List Int} {i : Nat} (h : i < l.length) : l.getD i 0 = l[i] := by
  simp [h]
theorem news_pick {h₀ h : Heap} {L : Addr} {l l' : List (Addr × Obj)} (N : News h₀ L h l) (hs : ∀ p ∈ l', p ∈ l) : News h₀ L h l' := fun p hp => N p (hs p hp)
theorem news_loop {h₀ h : Heap} {L : Addr} {p1 p2 p3 p4 c4 c3 c2 c1 : Addr × Obj} {ex : List (Addr × Obj)} (N : News h₀ L h (p1 :: p2 :: p3 :: p4 :: c4 :: c3 :: c2 :: c1 :: ex)) :
    News h₀ L h [p3, p2, c4, c3, c2, c1] := news_pick N fun p hp => by
  simp only [List.mem_cons, List.not_mem_nil, or_false] at hp ⊢
  grind
section
variable {k c : Int} {rs reps : List Int} {tie : Bool} {i : Nat}
theorem stp_tie (h : reps.sum = k) (h2 : c ≤ rs.getD i 0) : (reps, true) = stp k c rs (reps, tie) i := by
  simp only [stp, if_pos h, h2, decide_true, Bool.or_true]
theorem stp_full (h : reps.sum = k) (h2 : ¬ c ≤ rs.getD i 0) : (reps, tie) = stp k c rs (reps, tie) i := by
  simp only [stp, if_pos h, h2, decide_false, Bool.or_false]
theorem stp_inc (h : reps.sum < k) (h2 : c ≤ rs.getD i 0) : (reps.set i (reps.getD i 0 + 1), tie) = stp k c rs (reps, tie) i := by
  simp only [stp, if_neg (show ¬ reps.sum = k by omega), if_pos (And.intro h h2)]
theorem stp_low (h : reps.sum ≠ k) (h2 : ¬ (reps.sum < k ∧ c ≤ rs.getD i 0)) : (reps, tie) = stp k c rs (reps, tie) i := by
  simp only [stp, if_neg h, if_neg h2]
end
/-- what largest_remainder hands on: the house, and whether there was a tie -/
def LrOk (votes : List Int) (k : Int) (res : List Int) (tied : Bool) : Prop :=
  (¬ (flo votes k).sum < k ∧ res = flo votes k ∧ tied = false) ∨
  ((flo votes k).sum < k ∧ ∃ c, IsCut (rmd votes k) (k - (flo votes k).sum) c ∧ (res, tied) = runTo k c (rmd votes k) (flo votes k, false) votes.length)
end Mine

namespace Mine
open PySem.Calls PySem.Spec

section
variable {A A₀ A' : Around} {base h₀ h g : Heap} {outer : List Env} {env env₀ : Env} {L L' : Addr} {m m' : Str → Option Value}

theorem below_push (K : Below A₀ base outer h₀) (F : Fr h₀ L h m) (hf : env.frame = some L) (hk : env.scope.kind = .function) (hA : A'.frames = some (env :: outer)) : Below A' base (env :: outer) h := by
  have hnew : base.get? L = none := by
    cases hq : base.get? L with
    | none => rfl
    | some o => exact absurd (Nat.lt_of_lt_of_le (Heap.lt_size (K.stays L o hq)) F.above) (Nat.lt_irrefl _)
  exact ⟨hA, fun b o e => F.keep b o (K.stays b o e), .cons (by rw [hk]; decide) hf F.ns hnew (K.frames.of_keeps fun b o e _ => ⟨o, F.keep b o e, rfl⟩)⟩
end

section
variable {prog : Program} {w : World} {A A₁ : Around} {E : Value → Shared → Prop} {s : Shared} {base h₀ g : Heap} {outer : List Env} {env : Env} {L : Addr} {m mg : Str → Option Value}
  {x : Str} {C : Addr} {bm : List Value} {B newId initId : String} {np cpos pos : Pos}

/-- an exception class of the text's own, called with one text or more and raised, in any function's frame -/
theorem raise_any {e₀ : PySem.Expr} {rest : List PySem.Expr} {Q : Flow → Shared → Prop} (F : Fr h₀ L s.heap m) (hg : h₀.Ns mainGlobals mg) (O : OwnCls x C bm newId mg h₀) (FB : ExcBaseFacts B newId initId bm) (hh : A.handled = none)
    (hgl : env.globals = mainGlobals) (hk : env.scope.kind = .function) (hx : env.kindOf x = some .globalImplicit)
    (he : starEach (e₀ :: rest) env = (false, eval e₀ env) :: starEach rest env) (hplain : (backTo cpos (starEach rest env)).any (·.1) = false)
    (h : wpAny (model prog w) A (spliced (backTo cpos (starEach (e₀ :: rest) env))) (fun vs s₂ => vs.length ≤ sizeLine ∧ (∀ b o, h₀.get? b = some o → s₂.heap.get? b = some o) ∧
      ∀ h' e, Heap.MadeExcOf s₂.heap h' e (.ref C) vs → E (.ref e) { s₂ with heap := h' }) E s)
    (hd : (x == ("__debug__" : Str)) = false := by decide) :
    wpAny (model prog w) A (exec (.Raise (some (.Call (.Name x np) (e₀ :: rest) [] cpos)) none pos) env) Q E s := by
  obtain ⟨tl, N, nm, q, bs, hdct, sn, sub, ab, col, dd, k0, k1, k2, k3, k5, mN, hC, hN, hni, T⟩ := O.obj
  have hp : (backTo cpos (starEach (e₀ :: rest) env)).any (·.1) = false := by
    rw [he]
    show (false || (backTo cpos (starEach rest env)).any (·.1)) = false
    rw [hplain]; rfl
  refine wpAny_Raise_call_subT (C := C) (nm := nm) (q := q) (N := N) (bs := bs) (bm := tl) (hdct := hdct) (sn := sn) (sub := sub) (ab := ab) (col := col) (dd := dd) (k0 := k0) (k1 := k1) (k2 := k2) (k3 := k3) (k5 := k5)
    FB (mN := mN) (T.hasType FB.hasBase) hh hp hni ?_
  refine Name_function_global hk hx (loadGlobal_global (env := env) (mg := mg) (by rw [hgl]; exact hg.keeps F.keep) O.bound ⟨rfl, ?_⟩) hd
  rw [he] at h ⊢
  exact evalArgs_plain (wpAny_mono h (fun vs s₂ h₂ => ⟨rfl, h₂.1, h₂.2.1 _ _ hC, hN.keeps h₂.2.1, T.keeps h₂.2.1, h₂.2.2⟩) fun _ _ y => y)

/-- an exception made in a frame leaves it: what the frame below it has made so far (news) stands in the heap g with which the call began -/
theorem leave_any {M : Model} {h : Heap} {L' e : Addr} {m' : Str → Option Value} {cls : Value} {vs : List Value} {news : List (Addr × Obj)} {s' : Shared} {Q : Unit → Shared → Prop} {E : Value → Shared → Prop}
    (K : Below A base outer g) (hx : Heap.MadeExcOf h s'.heap e cls vs) (F : Fr g L' h m') (hf : env.frame = some L') (hk : env.scope.kind = .function)
    (hn : ∀ q ∈ news, g.get? q.1 = some q.2 ∧ base.get? q.1 = none ∧ ∀ en ∈ outer, en.frame ≠ some q.1)
    (hQ : ∀ h' t, RaisedK base outer e cls t vs news h' → g.UpToSlots h' → Q () { s' with heap := h' }) :
    wpAny M (A.deeper env) (leaving env (.ref e)) Q E s' := by
  have K' : Below (A.deeper env) base (env :: outer) h := below_push K F hf hk (Around.frames_deeper K.stack)
  have hin : ∀ en ∈ (env :: outer), ∀ b, en.frame = some b → b ∈ (env :: outer).filterMap (·.frame) := fun en he b hb => List.mem_filterMap.mpr ⟨en, he, hb⟩
  have st : base.StaysIn (hideAll h ((env :: outer).filterMap (·.frame))) := fun b o q => by
    refine hideAll_get _ (K'.stays b o q) fun hm => ?_
    rw [(K'.frames.mem hm).1] at q
    cases q
  have hl : ∀ q ∈ news, (hideAll h ((env :: outer).filterMap (·.frame))).get? q.1 = some q.2 ∧ base.get? q.1 = none := fun q hq => by
    obtain ⟨n1, n2, n3⟩ := hn q hq
    refine ⟨hideAll_get _ (F.keep _ _ n1) fun hm => ?_, n2⟩
    obtain ⟨en, he, hfr⟩ := List.mem_filterMap.mp hm
    rcases List.mem_cons.mp he with rfl | he
    · rw [hf] at hfr
      have : L' = q.1 := Option.some.inj hfr
      have h1 := Heap.lt_size n1
      rw [← this] at h1
      exact absurd (Nat.lt_of_lt_of_le h1 F.above) (Nat.lt_irrefl _)
    · exact n3 en he hfr
  exact wpAny_leaves_madeW K'.stack hf (fun b o q => of_hideAll _ q) (funFrames_hide K'.frames hin) hx fun h' t x1 x2 x3 x4 =>
    hQ h' t ⟨⟨_, st, hl, x1, x3⟩, x2⟩ (((Heap.UpToSlots.of_keeps F.keep).trans (Heap.UpToSlots.of_keeps hx.keeps)).trans x4)
end

section
variable {prog : Program} {w : World} {A₀ : Around} {E : Value → Shared → Prop} {s' : Shared} {h₀ h : Heap} {outer : List Env} {L e t : Addr} {m : Str → Option Value} {env : Env}
  {vs : List Value} {b₀ : Stmt} {suite : List Stmt} {pos np : Pos} {rest : List ExceptHandler} {Q : Flow → Shared → Prop} {news : List (Addr × Obj)} {KF : Frag} {C : Addr} {bmB : List Value} {newId : String}
  {p : Program} {loose : List Str} {mg mb : Str → Option Value} {x : Str}

/-- an exception of the text's own, caught by its name without an 'as', in any function's frame -/
theorem caught_any (K : Below A₀ h₀ outer h₀) (F : Fr h₀ L h m) (hsm : h.UpToSlots s'.heap) (R : RaisedK h₀ (env :: outer) e (.ref C) t vs news s'.heap)
    (X : KF.In h₀) (T : TopRead p loose mg mb h₀) (ex : nsIn KF mainGlobals x = some (some (.ref C))) (q : excIn KF C bmB newId = true) (hbase : bmB.contains (.type "BaseException") = true)
    (hf : env.frame = some L) (hgl : env.globals = mainGlobals) (hk : env.scope.kind = .function) (hx : env.kindOf x = some .globalImplicit)
    (k : ∀ h', Fr h₀ L h' m → News h₀ L h' news → wpAny (model prog w) ((A₀.deeper env).mark (some (.ref e))) (execs (b₀ :: suite) env) Q E { s' with heap := h' })
    (hd : (x == ("__debug__" : Str)) = false := by decide)
    (hE : PassesOwnAt (model prog w) ((A₀.deeper env).mark (some (.ref e))) (A₀.deeper env) env E := by passes_own) :
    wpAny (model prog w) (A₀.deeper env) (noteFrame (.ref e) env)
      (fun _ s₂ => wpAny (model prog w) (A₀.deeper env) (setFlight (.ref e) none) (fun _ s₃ =>
        wpAny (model prog w) (A₀.deeper env) (handleBy (.ref e) env (.ExceptHandler (some (.Name x np)) none (b₀ :: suite) pos :: rest)) Q E s₃) E s₂) E s' := by
  obtain ⟨⟨B, hB, hl, hfl, hnew⟩, htup⟩ := R
  have hL : B.get? L = none := by
    obtain ⟨_, ⟨L', _, hf', hn', _⟩, _⟩ := hfl.2.2.1
    rw [hf] at hf'
    obtain rfl : L = L' := Option.some.inj hf'
    exact hn'
  refine wpAny_looks_onW (Around.frames_deeper K.stack) hf hfl fun h₄ hheld₄ hsm₄ => ?_
  refine wpAny_landsW hheld₄ fun h₅ hheld hsm₅' => ?_
  have hsm₅ := hsm₄.trans hsm₅'
  have hheld' := flyingW_base hB hheld
  have F₅ := F.of_stays hheld'.1 (hsm.trans hsm₅)
  obtain ⟨ob, hob, hobc⟩ := hheld'.there
  refine wpAny_handleBy_cons (codeAny_handlers_test ?_) (by intro q; cases q)
  refine Name_function_global hk hx (loadGlobal_global (env := env) (mg := mg) (by rw [hgl]; exact (T.keeps F₅.keep).g) (mg_of X T.g ex) ?_) hd
  obtain ⟨bm, N, nm, qn, bs, hdct, sn, sub, ab, col, dd, k0, k1, k2, k3, k5, mN, hC, hN, hni, TL⟩ := ((own_of_in X T ex q).keeps F₅.keep).obj
  refine wpAny_excMatches_sub_self hC hob hobc (TL.hasType hbase) (codeAny_handlers_suite ?_)
  refine lands_againW hheld fun h₆ hfl₆ hsm₆ => ?_
  have hfl₆' := flyingW_base hB hfl₆
  have F₆ := F.of_stays hfl₆'.1 ((hsm.trans hsm₅).trans hsm₆)
  exact wpAny_passesOwnAt hE (k h₆ F₆ fun q hq => ⟨hfl₆.1 _ _ (hl q hq).1, (fun z => by have := (hl q hq).1; rw [z, hL] at this; cases this), (hl q hq).2⟩)
end
/-- a tree whose ways meet again: they part in the tokens alone -/
def CutAt (P : Value → Prop) (s : Shared) (v : Value) (s' : Shared) : Prop := P v ∧ ∃ tk, s' = { s with toks := tk }
theorem cut_toks {M : Model} {A : Around} {E : Value → Shared → Prop} {s : Shared} {tr : Sem Value} {Q : Value → Shared → Prop} (P : Value → Prop) (h : wpAny M A tr (CutAt P s) E s)
    (k : ∀ v tk, P v → Q v { s with toks := tk }) : wpAny M A tr Q E s :=
  wpAny_mono h (fun v _ ⟨p, tk, e⟩ => e ▸ k v tk p) fun _ _ e => e
theorem news_first {h₀ h : Heap} {L : Addr} {p1 p2 p3 p4 c4 c3 c2 c1 : Addr × Obj} (N : News h₀ L h [p1, p2, p3, p4, c4, c3, c2, c1]) :
    News h₀ L h [p1, p4, c4, c3, c2, c1] := news_pick N fun p hp => by
  simp only [List.mem_cons, List.not_mem_nil, or_false] at hp ⊢
  grind
theorem fmod_lo' (a : Int) {n : Int} (h : 0 < n) : 0 ≤ a.fmod n ∧ a.fmod n < n := by
  rw [Int.fmod_eq_emod_of_nonneg _ (Int.le_of_lt h)]
  exact ⟨Int.emod_nonneg a (Int.ne_of_gt h), Int.emod_lt_of_pos a h⟩
abbrev VLed (lw : Addr) (ws : List Value) (nn : Nat) (lv : Addr) (cls : List (Addr × Obj)) (st : (List Value × Nat) × List Int) : List (Addr × Obj) :=
  (lw, PySem.W.listOf ws.toArray nn) :: (lv, PySem.W.listOf st.1.1.toArray st.1.2) :: cls
theorem votes_snoc {vts pre : List Int} {x n b : Int} (hp : vts.length = pre.length ∧ ∀ v ∈ vts, 1 ≤ v ∧ v ≤ b) (hx : 1 ≤ x ∧ x ≤ b) :
    (vts ++ [x]).length = (pre ++ [n]).length ∧ ∀ v ∈ vts ++ [x], 1 ≤ v ∧ v ≤ b := by
  refine ⟨by simp [hp.1], fun v hv => ?_⟩
  rcases List.mem_append.mp hv with hv | hv
  · exact hp.2 v hv
  · rw [List.mem_singleton.mp hv]; exact hx
end Mine

namespace Mine
open PySem.Calls PySem.Spec

local macro_rules | `(tactic| walk_at "mine") => `(tactic| repeat' (
  (fail_if_success (with_reducible show wpAny _ _ (eval (Expr.ListComp _ _ _ _) _) _ _ _));
  (fail_if_success (with_reducible show wpAny _ _ (exec (Stmt.Assign _ (Expr.ListComp _ _ _ _) _) _) _ _ _));
  (fail_if_success (with_reducible show wpAny _ _ (exec (Stmt.For _ _ _ _ _) _) _ _ _));
  (fail_if_success (with_reducible show wpAny _ _ (pyIter _) _ _ _));
  (fail_if_success (with_reducible show InvPostN _ _ _ _ _ _ _ _ _));
  (fail_if_success (with_reducible show LCg.CompSrc _ _ _ _ _ _ _ _ _ _ _ _ _ _));
  (fail_if_success (with_reducible show LCg.CompEnd _ _ _ _ _ _ _ _ _ _ _ _ _ _));
  (fail_if_success (with_reducible show wpAny _ _ (exec (Stmt.Raise _ _ _) _) _ _ _));
  first | (k_unfold; (try dsimp only)) | walk1 | (dsimp only; walk1) | (leave1; walk_say "STEP leave1"; try dsimp only) | fail "no step"))

local macro_rules | `(tactic| k_all) => `(tactic| exact Above.ne (by assumption) (by omega))

local macro_rules | `(tactic| walk_at "subscriptTail Name Name ref int") => `(tactic| (k_here; (with_reducible show wpAny _ _ (subscriptTail _ _ (Value.ref _) (Value.int _ _)) _ _ _); (refine' item_led ?k1 ?k2 ?k3 ?k4 ?k5 ?_ ?k6; (case k1 => k_asm); (case k2 => k_mem); (case k3 => omega); (case k4 => omega); (case k5 => assumption); (case k6 => with_unfolding_all rfl); k_whole)))

local macro_rules | `(tactic| walk_at "subscriptTail Call BinOp ref int") => `(tactic| (k_here; (with_reducible show wpAny _ _ (subscriptTail _ _ (Value.ref _) (Value.int _ _)) _ _ _); (refine' item_led_neg ?k1 ?k2 ?k3 ?k4 ?k5 ?k6 ?_ ?k7; (case k1 => k_asm); (case k2 => k_mem); (case k3 => omega); (case k4 => omega); (case k5 => omega); (case k6 => assumption); (case k7 => with_unfolding_all rfl); k_whole)))
local macro_rules | `(tactic| k_all) => `(tactic| exact OwnOff.ne (by assumption) (by simp))
local macro_rules | `(tactic| mul_fits) => `(tactic| assumption)

theorem lr_call {w : World} {cs : Scope} {L a lv : Addr} {ccd : Value} {h₀ : Heap} {m mg mb : Str → Option Value} {mean : ExcName → Option Value} {s : Shared} {vs : List Value} {votes : List Int} {k : Int} {t : Tok} {ta : Bool}
    {args : List Value} {news : List (Addr × Obj)} {Q E : Value → Shared → Prop}
    (hcs : cs.kind = .function) (B : Below callerA h₀ [] h₀) (F : Fr h₀ L s.heap m) (N₀ : News h₀ L s.heap news) (X : (hd.heap_39 w.params).In h₀)
    (T : Top hd.view_39 (looseW hd.view_39 [Str.ofString "largest_remainder"]) mean mg mb h₀)
    (hb : ∀ oc od fd osl, (hd.heap_39 w.params).lookup 33 = some ⟨oc, od, .func fd, osl⟩ → BindsTo s fd ⟨args, []⟩ [(Str.ofString "votes", .ref lv), (Str.ofString "seats", .int k t), (Str.ofString "tiesallowed", .bool ta)])
    (hl : s.heap.IsList lv vs.toArray) (hi : IntsAre vs votes) (hn : votes.length ≤ 5) (hv : ∀ v ∈ votes, 1 ≤ v ∧ v ≤ 13 * 10 ^ 24) (hne : votes ≠ []) (hk : 1 ≤ k) (hk2 : k ≤ 20)
    (hQ : ∀ D ys c' h' tk res tied, (∀ b o, s.heap.get? b = some o → h'.get? b = some o) → s.heap.get? D = none → h'.get? D = some { cls := .type "list", data := .seq ys.toArray c' } → IntsAre ys res → LrOk votes k res tied →
      (tied = true → ta = true) → Q (.ref D) { s with heap := h', toks := tk })
    (hE : ∀ e x xs h' tk res, RaisedK h₀ [envOfC (Str.ofString "law") cs L a ccd] e (.ref 24) x xs news h' → s.heap.UpToSlots h' → LrOk votes k res true → ta = false → E (.ref e) { s with heap := h', toks := tk }) :
    wpAny (model PySem.Challenge.rw_ai0002_01.row.prog w) (callerA.deeper (envOfC (Str.ofString "law") cs L a ccd)) (call (.ref 33) args []) Q E s := by
  revert X
  k_fill
  intro X
  refine wpAny_call ?_
  refine' call_frozen B F X T rfl rfl hcs ?k6 ?k7 ?k8 ?k9 ?kB ?kD ?_ ?c2 ?c3 ?c4
  case k6 => k_is
  case k7 => k_is
  case k8 => k_room
  case k9 => exact hb _ _ _ _ (by k_is)
  case kB => exact rfl
  case kD => decide +kernel
  case c2 => exact rfl
  case c3 => exact rfl
  case c4 => exact rfl
  intro g L' h₁ tk cells hg F' N' Y' B' X' T'
  have hn₀ : ∀ q ∈ news, g.get? q.1 = some q.2 ∧ h₀.get? q.1 = none ∧ ∀ en ∈ [envOfC (Str.ofString "law") cs L a ccd], en.frame ≠ some q.1 := by
    intro q hq
    rw [hg]
    refine ⟨(N₀ q hq).1, (N₀ q hq).2.2, fun en he e => ?_⟩
    rw [List.mem_singleton.mp he] at e
    exact (N₀ q hq).2.1 (Option.some.inj e).symm
  rw [← hg] at hl hQ hE
  clear F N₀ X T hb hg
  k_cells Y'
  (try simp only [List.cons_append, List.nil_append] at N')
  (try dsimp only)
  (try k_fold)
  walk_at "mine"
  · exfalso; omega
  refine wpAny_Assign_Name ?_ (by with_unfolding_all rfl)
  k_dflt (refine LCg.ListComp_U (F₀ := by k_asm) (by with_unfolding_all rfl) (by decide) (by rfl) (by decide) (by rfl) ?_)
  walk_at "mine"
  have hvl : vs.length = votes.length := hi.length
  rename News _ _ _ _ => N0
  refine LCg.CompSrc.base (by rfl) (by k_asm) N0 hl (by rw [sizeLine_eq, List.size_toArray]; omega) ?_
  intro g'
  refine rest_gen (fun i ys nw => ∃ ex, nw = _ ++ ex ∧ Tups ex ys ((votes.take i).map fun p => (p * k, votes.sum)) ∧ Above (L' + 4) ex) ⟨[], (List.append_nil _).symm, Tups.nil, Above.nil⟩ ?turn ?fin
  case turn =>
    intro i v ys nw J oI C oC D m₂ h tk E' hin hP hI hC hx F N off ne
    obtain ⟨ex, rfl, hT, hA⟩ := hI
    simp only [List.cons_append, List.nil_append] at N off
    simp only [LCg.Off3, and_true] at off
    obtain ⟨pv, hpv, tv, rfl⟩ : ∃ p, votes[i]? = some p ∧ ∃ t, v = .int p t := by
      obtain ⟨q, t', e, hq⟩ := IntsAre.at hi i v (by simpa using hP)
      exact ⟨q, hq, t', e⟩
    walk_at "mine"
    rename News _ _ _ _ => N2
    rename (_ ∧ _) => l1
    refine LCg.CompEnd.intro (by k_asm) N2 _ ?sub ?off (.inl hl) ⟨?px :: ex, rfl, ?T, ?A⟩
    case T =>
      rw [take_map_succ hpv]
      exact hT.snocN N2
    case A => exact Above.cons (by (try dsimp only); omega) hA
    case sub => intro p hp; simp only [List.mem_cons, List.cons_append, List.nil_append] at hp ⊢; grind
    case off =>
      simp only [List.cons_append, List.nil_append, LCg.Off3]
      exact ⟨off.1, off.2.1, off.2.2.1, off.2.2.2.1, ⟨by k_ne, by k_ne, by k_ne⟩, off.2.2.2.2⟩
  case fin =>
    rintro ysq nw ⟨ex, rfl, hTq, hAq⟩
    rw [List.size_toArray, hvl, List.take_length] at hTq
    unfold LCg.FinE
    intro Dq hq tkq Fq Nq oq
    simp only [List.cons_append, List.nil_append] at Nq oq
    simp only [LCg.Off1] at oq
    walk_at "mine"
    have hsum : 0 < votes.sum := sum_pos hne fun v hv' => (hv v hv').1
    refine wpAny_Assign_Name ?_ (by with_unfolding_all rfl)
    k_dflt (refine LCg.ListComp_U (F₀ := by k_asm) (by with_unfolding_all rfl) (by decide) (by rfl) (by decide) (by rfl) ?_)
    walk_at "mine"
    rename News _ _ _ _ => N3
    have hql : ysq.length = votes.length := by rw [hTq.1, List.length_map]
    refine LCg.CompSrc.ledger (by rfl) (by k_asm) N3 (by k_mem) (by rw [sizeLine_eq, List.size_toArray]; omega) ?_
    intro g2
    refine rest_gen (fun i ys nw => nw = _ ∧ IntsAre ys ((votes.take i).map fun p => (p * k).fdiv votes.sum)) ⟨rfl, .nil⟩ ?turn2 ?fin2
    case turn2 =>
      intro i v ys nw J oI C oC D m₂ h tk E' hin hP hI hC hx F N off ne
      obtain ⟨rfl, hI⟩ := hI
      simp only [LCg.Off3] at off
      have hin' : i < votes.length := by rw [List.size_toArray, hql] at hin; exact hin
      have hpv : votes[i]? = some votes[i] := List.getElem?_eq_getElem hin'
      obtain ⟨r, t1, t2, rfl, hrt⟩ := hTq.2 i v (votes[i] * k, votes.sum) (by simpa using hP) (by rw [List.getElem?_map, hpv]; rfl)
      generalize hpe : votes[i] = pv at *
      have N4 : News g L' h ((r, tupOf [.int (pv * k) t1, .int votes.sum t2]) :: _) := fun p hp => by
        rcases List.mem_cons.mp hp with rfl | hp
        · exact N _ (by simp only [List.mem_cons]; exact .inr (.inr (.inr (.inr (.inr (.inr (.inr (.inr hrt))))))))
        · exact N p hp
      clear N
      walk_at "mine"
      all_goals first | (exfalso; omega; done) | skip
      rename News _ _ _ _ => N5
      refine LCg.CompEnd.intro (by k_asm) N5 _ ?sub ?off (.inr ⟨_, List.mem_cons_self, rfl, _, rfl⟩) ⟨rfl, ?T⟩
      case T =>
        rw [take_map_succ hpv]
        exact IntsAre.append hI (.cons _ _ .nil)
      case sub => intro p hp; exact List.mem_cons_of_mem _ hp
      case off => exact off
    case fin2 =>
      rintro ysr nw ⟨rfl, hIr⟩
      rw [List.size_toArray, hql, List.take_length] at hIr
      unfold LCg.FinE
      intro Dr hr tkr Fr Nr or
      simp only [LCg.Off1] at or
      have hfl : (votes.map fun p => (p * k).fdiv votes.sum) = flo votes k := rfl
      rw [hfl] at hIr
      walk_at "mine"
      rotate_left
      · dsimp only
        rename Fr _ _ _ _ => Fz
        rename News _ _ _ _ => Nz
        exact hQ Dr ysr ysr.length _ _ (flo votes k) false Fz.keep (Nz.fresh List.mem_cons_self) (Nz.get List.mem_cons_self) hIr (.inl ⟨by assumption, rfl, rfl⟩) (fun q => nomatch q)
      k_dflt (refine LCg.Assign_ListComp_U (F₀ := by k_asm) (by rfl) (by with_unfolding_all rfl) (by with_unfolding_all rfl) (by decide) (by rfl) (by decide) (by rfl) (by rfl) (by rfl) ?_)
      walk_at "mine"
      rename News _ _ _ _ => N6
      rename IsRange _ _ _ _ _ _ _ _ => R6
      refine LCg.CompSrc.range (by rfl) (by k_asm) N6 R6 (small_one (by omega) (by omega) (by omega) (by omega)) (rangeSize_nat _ _) (by rw [sizeLine_eq]; omega) ?_
      intro g3
      refine rest_gen (fun i ys nw => nw = _ ∧ IntsAre ys ((rmd votes k).take i)) ⟨rfl, .nil⟩ ?turn3 ?fin3
      case turn3 =>
        intro i v ys nw J oI C oC D m₂ h tk E' hin hP hI hC hx F N off ne
        obtain ⟨rfl, hI⟩ := hI
        obtain ⟨tv, rfl⟩ := hP
        rw [Int.zero_add] at hx
        simp only [LCg.Off3] at off
        have hin' : i < votes.length := hin
        have hpv : votes[i]? = some votes[i] := List.getElem?_eq_getElem hin'
        have hiq : i < ysq.length := by omega
        obtain ⟨r, t1, t2, hqv, hrt⟩ := hTq.2 i _ (votes[i] * k, votes.sum) (List.getElem?_eq_getElem hiq) (by rw [List.getElem?_map, hpv]; rfl)
        have hq6 : ysq[(i : Int).toNat]? = some (.ref r) := by rw [Int.toNat_natCast, List.getElem?_eq_getElem hiq, hqv]
        obtain ⟨t3, hr3⟩ := hIr.get i ((votes[i] * k).fdiv votes.sum) (by simp only [flo]; rw [List.getElem?_map, hpv]; rfl)
        have hr6 : ysr[(i : Int).toNat]? = some (.int ((votes[i] * k).fdiv votes.sum) t3) := by rw [Int.toNat_natCast]; exact hr3
        have hd : (rmd votes k)[i]? = some (votes[i] * k - (votes[i] * k).fdiv votes.sum * votes.sum) := by simp only [rmd]; rw [List.getElem?_map, hpv]; rfl
        have hfb := fdiv_bd (k := k) hsum (p := votes[i]) (by have := hv votes[i] (List.getElem_mem hin'); omega) (mem_le_sum (fun v hv' => (hv v hv').1) (List.getElem_mem hin')) (by omega)
        have hmul : IntMulOk ((votes[i] * k).fdiv votes.sum) votes.sum := mulOk_small hfb.1 (by omega)
        clear hqv hr3
        generalize hpe : votes[i] = pv at *
        have N7 : News g L' h ((r, tupOf [.int (pv * k) t1, .int votes.sum t2]) :: _) := fun p hp => by
          rcases List.mem_cons.mp hp with rfl | hp
          · exact N _ (by simp only [List.mem_cons]; exact .inr (.inr (.inr (.inr (.inr (.inr (.inr (.inr (.inr hrt)))))))))
          · exact N p hp
        clear N
        walk_at "mine"
        rename News _ _ _ _ => N8
        refine LCg.CompEnd.intro (by k_asm) N8 _ ?sub ?off trivial ⟨rfl, ?T⟩
        case T =>
          rw [List.take_add_one, hd]
          exact IntsAre.append hI (.cons _ _ .nil)
        case sub => intro p hp; exact List.mem_cons_of_mem _ hp
        case off => exact off
      case fin3 =>
        rintro ysm nw ⟨rfl, hIm⟩
        rw [List.take_of_length_le (by rw [rmd_length]; omega)] at hIm
        unfold LCg.FinA
        intro Dm hm tkm Fm Nm om
        simp only [LCg.Off1] at om
        walk_at "mine"
        rename (flo votes k).sum < k => hlt
        have hbd := flo_sum_bd (k := k) hsum hne
        have hfll : (flo votes k).length = votes.length := flo_length
        have hrml : (rmd votes k).length = votes.length := rmd_length
        refine kso_sorted (by k_asm) Nm ⟨_, Nm.get List.mem_cons_self, rfl, _, rfl⟩ hIm (by omega) ?_
        intro Ds vss nss cs' hs' Fs Ns ls is es ps os bs
        k_lt ls
        have hvsl : vss.length = votes.length := by rw [is.length, es, hrml]
        have hci : ((flo votes k).sum - k + (votes.length : Int)).toNat < nss.length := by omega
        have hcut : IsCut (rmd votes k) (k - (flo votes k).sum) (nss.getD ((flo votes k).sum - k + (nss.length : Int)).toNat 0) := by
          have h1 := cut_of_sorted ps os hci
          have e1 : ((flo votes k).sum - k + (nss.length : Int)).toNat = ((flo votes k).sum - k + (votes.length : Int)).toNat := by omega
          rw [show (nss.length : Int) - (((flo votes k).sum - k + (votes.length : Int)).toNat : Int) = k - (flo votes k).sum by omega] at h1
          rw [e1, getD_eq' hci]
          exact h1
        walk_at "mine"
        generalize nss.getD ((flo votes k).sum - k + (nss.length : Int)).toNat 0 = c at *
        rename Fr _ _ _ _ => Fc
        (with_unfolding_all refine' For_invVF Fc ?k1 ?k2 ?_)
        case k1 => exact rfl
        case k2 => exact rfl
        walk_at "mine"
        rename News _ _ _ _ => Nc
        rename IsRange _ _ _ _ _ _ _ _ => Rc
        have Nl := news_loop Nc
        with_unfolding_all
         refine' kst_range (σ := (List Value × Nat) × (List Int × Bool)) (fun st => (Dr, ({ cls := .type "list", data := .seq st.1.1.toArray st.1.2 } : Obj)) :: (Dm, LCg.lst ysm) :: ?cls)
          (fun st => [(Str.ofString "ties", .bool st.2.2)]) (fun st => IntsAre st.1.1 st.2.1) [Str.ofString "reps_sum"]
          (fun pre st => st.2 = runTo k c (rmd votes k) (flo votes k, false) pre.length) ((ysr, ysr.length), (flo votes k, false))
          (by rfl) Rc (small_one (by omega) (by omega) (by omega) (by omega)) (rangeSize_nat _ _) (by k_asm) Nl hIr ?kk rfl ?turn5 ?done5
        case kk => exact List.forall_mem_cons.mpr ⟨rfl, List.forall_mem_nil _⟩
        case turn5 =>
          rintro ⟨⟨vals, cnt⟩, reps, tie⟩ pre x tx u h tk own hx hlt hoff hf hp F N
          rw [Int.zero_add] at hx
          subst hx
          dsimp only [kstB] at F
          dsimp only at hf hp
          simp only [List.map_cons, List.map_nil] at hoff
          simp only [List.cons_append, List.nil_append] at N
          have hrl : reps.length = votes.length := by
            have := runTo_length (k := k) (c := c) (rs := rmd votes k) (st := (flo votes k, false)) pre.length
            rw [← hp] at this
            rw [this, flo_length]
          have hpl : pre.length < votes.length := by omega
          have hvl2 := hf.length
          walk_at "mine"
          all_goals rename News _ _ _ _ => nE
          all_goals simp only [Int.toNat_natCast] at *
          all_goals
           refine' kst_end (c := ((_, _), (_, _))) (by assumption) nE (by exact List.forall_mem_cons.mpr ⟨List.mem_cons_self, fun p hp => List.mem_cons_of_mem _ (List.mem_append_left own hp)⟩)
            (by exact fun p hp => List.mem_append_right [_, _, _, _, _, _] hp) (by rfl) (by (try dsimp only); assumption) (by exact List.forall_mem_cons.mpr ⟨by with_unfolding_all rfl, List.forall_mem_nil _⟩) (by kst_same) (by
              (try dsimp only)
              rw [List.length_append, List.length_singleton, runTo_succ, ← hp]
              first
              | exact stp_tie (by assumption) (by assumption)
              | (subst_vars; exact stp_tie (by first | rfl | assumption) (by assumption))
              | exact stp_full (by assumption) (by assumption)
              | exact stp_inc (by assumption) (by omega)
              | exact stp_low (by omega) (by omega))
        case done5 =>
          rintro ⟨⟨vals, cnt⟩, reps, tie⟩ u h tk hf hp F N
          dsimp only [kstB] at F
          dsimp only at hf hp N
          rw [rangeKs_length, show ((votes.length : Int) - 0).toNat = votes.length by omega] at hp
          dsimp only
          walk_at "mine"
          · dsimp only
            exact hQ Dr vals cnt h tk reps tie F.keep (N.fresh List.mem_cons_self) (N.get List.mem_cons_self) hf (.inr ⟨hlt, c, hcut, hp⟩) (fun _ => by assumption)
          · refine raise_any F (TopRead.g (by k_asm)) (own_of_in (bmB := [.type "Exception", .type "BaseException", .type "object"]) (newId := "Exception.__new__") (C := 24) X' (topRead_of T') (by k_is) (by k_exc)) PySem.F.excBase_Exception rfl rfl rfl rfl rfl rfl ?_
            walk_at "mine"
            rename Heap.MadeExcOf _ _ _ _ _ => hmm
            rename tie = true => htt
            subst htt
            refine leave_any B' hmm F rfl rfl hn₀ ?_
            intro h6 x6 R6 U6
            exact hE _ _ _ _ _ reps R6 U6 (.inr ⟨hlt, c, hcut, hp⟩) (by assumption)
          · dsimp only
            exact hQ Dr vals cnt h tk reps tie F.keep (N.fresh List.mem_cons_self) (N.get List.mem_cons_self) hf (.inr ⟨hlt, c, hcut, hp⟩) (fun q => by simp_all)
end Mine

namespace Mine
open PySem.Calls PySem.Spec

section
variable {prog : Program} {w : World} {A : Around} {E : Value → Shared → Prop} {s : Shared} {h₀ : Heap} {env : Env} {x : Str} {px pos : Pos} {iter : PySem.Expr} {body : List Stmt} {Q : Flow → Shared → Prop} {cH cL : Addr} {led : List (Addr × Obj)}

/-- a turn's end of the loop over the houses: two cells may have turned, the rest stands -/
def HouseTurn (h₀ : Heap) (L cH cL : Addr) (led : List (Addr × Obj)) (I : Addr) (oI : Obj) (s₁ : Shared) (f : Flow) (s' : Shared) : Prop :=
  f = .next ∧ ∃ h' tk m oH oL vH vL, s' = { s₁ with heap := h', toks := tk } ∧ Fr h₀ L h' m ∧ News h₀ L h' ((I, oI) :: (cH, oH) :: (cL, oL) :: led) ∧ oH.data = .cell vH ∧ oL.data = .cell vL

def HouseSrc (prog : Program) (w : World) (A : Around) (h₀ : Heap) (env : Env) (body : List Stmt) (Q : Flow → Shared → Prop) (E : Value → Shared → Prop) (cH cL : Addr) (led : List (Addr × Obj)) (xv : Value) (s₁ : Shared) : Prop :=
  ∃ (r : Addr) (a b : Int) (t u v : Tok) (n : Nat) (m : Str → Option Value) (oH oL : Obj) (vH vL : Option Value), xv = .ref r ∧ A.handled = none ∧ IsRange s₁.heap r a b 1 t u v ∧ Builtin.Range.small a b 1 = true ∧ Builtin.Range.rangeSize a b 1 = ((n : Nat) : Int) ∧
    Fr h₀ env.locals s₁.heap m ∧ News h₀ env.locals s₁.heap ((cH, oH) :: (cL, oL) :: led) ∧ oH.data = .cell vH ∧ oL.data = .cell vL ∧ (∀ p ∈ led, p.1 ≠ cH) ∧ cL ≠ cH ∧
    (∀ (i : Nat) m I oI oH oL t vL h tk, i < n → Fr h₀ env.locals h m → News h₀ env.locals h ((I, oI) :: (cH, oH) :: (cL, oL) :: led) → @LT.lt Nat _ cH I → @LT.lt Nat _ cL I → AllLt I led → oH.data = .cell (some (.int (a + (i : Int)) t)) → oL.data = .cell vL →
      wpAny (model prog w) A (execs body env) (HouseTurn h₀ env.locals cH cL led I oI { s₁ with heap := h, toks := tk }) E { s₁ with heap := h, toks := tk }) ∧
    ∀ h tk m, Fr h₀ env.locals h m → News h₀ env.locals h led → Q .next { s₁ with heap := h, toks := tk }

theorem allLt_list {d : Addr} : ∀ {l : List (Addr × Obj)}, (∀ p ∈ l, @LT.lt Nat _ p.1 d) → AllLt d l
  | [], _ => trivial
  | p :: _, h => ⟨h p List.mem_cons_self, allLt_list fun q hq => h q (List.mem_cons_of_mem _ hq)⟩

theorem For_house (hk : env.scope.kind = .function) (hx : env.kindOf x = some .cell) (hc : env.cells.lookup x = some cH)
    (h : wpAny (model prog w) A (eval iter env) (HouseSrc prog w A h₀ env body Q E cH cL led) E s)
    (hs : ∀ x, foldedSetIterable iter env x = pure x := by intro _; rfl)
    (hE : PassesOwn (model prog w) A env E := by passes_own) :
    wpAny (model prog w) A (exec (.For (.Name x px) iter body [] pos) env) Q E s := by
  refine wpAny_For (wpAny_mono h (fun xv s₁ h₁ => ?_) fun _ _ e => e) hs
  obtain ⟨r, a, b, t, u, v, n, m, oH, oL, vH, vL, rfl, hh, hr, hsm, hn, F, N, dH, dL, hapart, hLH, turn, done⟩ := h₁
  refine wpAny_pyIter_range hr hsm ?_
  have W : Walks prog w A s₁.heap.objs.size [s₁.heap.objs.size] [s₁.heap.objs.size] n (fun i v => i < n ∧ ∃ t, v = .int (a + i * 1) t)
      (fun i h => IsRangeIter h s₁.heap.objs.size (a + (i : Nat) * 1) ((n : Int) - (i : Nat)) 1) := (Walks.range hh _ a 1 n).bound
  have hILt : ∀ p ∈ (cH, oH) :: (cL, oL) :: led, @LT.lt Nat _ p.1 s₁.heap.objs.size := fun p hp => Heap.lt_size (N p hp).1
  have hcH : @LT.lt Nat _ cH s₁.heap.objs.size := hILt _ List.mem_cons_self
  have hcL : @LT.lt Nat _ cL s₁.heap.objs.size := hILt _ (List.mem_cons_of_mem _ List.mem_cons_self)
  have hled : ∀ p ∈ led, @LT.lt Nat _ p.1 s₁.heap.objs.size := fun p hp => hILt p (List.mem_cons_of_mem _ (List.mem_cons_of_mem _ hp))
  have hLlt : @LT.lt Nat _ env.locals s₁.heap.objs.size := F.ns.lt
  have hI₀ : h₀.get? s₁.heap.objs.size = none := next_is_new F
  have hcH₀ : h₀.get? cH = none := (N _ List.mem_cons_self).2.2
  have hcHL : cH ≠ env.locals := (N _ List.mem_cons_self).2.1
  generalize hII : s₁.heap.objs.size = I at *
  refine codeAny_forLoop
    (fun k s' => ∃ h' tk i m oH oL vH vL, s' = { s₁ with heap := h', toks := tk } ∧ i ≤ n ∧ k = n + 1 - i ∧ IsRangeIter h' I (a + (i : Nat) * 1) ((n : Int) - (i : Nat)) 1 ∧ Fr h₀ env.locals h' m ∧
      News h₀ env.locals h' ((cH, oH) :: (cL, oL) :: led) ∧ oH.data = .cell vH ∧ oL.data = .cell vL) ?_ (n + 1)
    ⟨_, s₁.toks, 0, m, oH, oL, vH, vL, rfl, Nat.zero_le _, rfl, ?_, F.push _, fun p hp => ⟨Heap.get?_push_of_some _ (N p hp).1, (N p hp).2⟩, dH, dL⟩
  · rintro k s' ⟨h', tk, i, m', oH', oL', vH', vL', rfl, hi, rfl, hst, F', N', dH', dL'⟩
    have off : ∀ p ∈ (cH, oH') :: (cL, oL') :: led, p.1 ≠ I := fun p hp e => by
      have : @LT.lt Nat _ p.1 I := by
        rcases List.mem_cons.mp hp with rfl | hp
        · exact hcH
        · rcases List.mem_cons.mp hp with rfl | hp
          · exact hcL
          · exact hled p hp
      rw [e] at this
      exact Nat.lt_irrefl _ this
    by_cases hlt : i < n
    · refine W.item i _ _ _ hlt hst fun v h₁ tk₁ hPv hst₁ hk₁ => ?_
      obtain ⟨_, tv, rfl⟩ := hPv
      have F₁ : Fr h₀ env.locals h₁ m' := LCg.fr_but F' hk₁ (Nat.ne_of_lt hLlt) hI₀
      have N₁ : News h₀ env.locals h₁ ((cH, oH') :: (cL, oL') :: led) := LCg.news_but N' hk₁ off
      refine wpAny_assign_Name (wpAny_storeName_cell hk hx hc ⟨oH', N₁.get List.mem_cons_self, dH'⟩ fun h₂ hcell hs₂ => ?_)
      obtain ⟨oN, hoN, hdN⟩ := hcell
      have e1 : a + (i : Int) * 1 = a + (i : Int) := by omega
      rw [e1] at hdN
      have F₂ : Fr h₀ env.locals h₂ m' := ⟨F₁.ns.sameBut hs₂ (Ne.symm hcHL), fun b o e => (hs₂.2 b (fun q => by rw [q, hcH₀] at e; cases e)).trans (F₁.keep b o e), F₁.above⟩
      have hIget : ∃ oI, h₁.get? I = some oI := ⟨_, hst₁⟩
      obtain ⟨oI, hoI⟩ := hIget
      have hIH : I ≠ cH := fun e => by rw [← e] at hcH; exact Nat.lt_irrefl _ hcH
      have hoI₂ : h₂.get? I = some oI := (hs₂.2 I hIH).trans hoI
      have hIL : I ≠ env.locals := fun e => by rw [← e] at hLlt; exact Nat.lt_irrefl _ hLlt
      have N₂ : News h₀ env.locals h₂ ((I, oI) :: (cH, oN) :: (cL, oL') :: led) := fun p hp => by
        rcases List.mem_cons.mp hp with rfl | hp
        · exact ⟨hoI₂, hIL, hI₀⟩
        · rcases List.mem_cons.mp hp with rfl | hp
          · exact ⟨hoN, hcHL, hcH₀⟩
          · have z := N₁ p (List.mem_cons_of_mem _ hp)
            refine ⟨(hs₂.2 p.1 ?_).trans z.1, z.2⟩
            rcases List.mem_cons.mp hp with rfl | hp
            · exact hLH
            · exact hapart p hp
      refine wpAny_mono (wpAny_passesOwn hE (turn i m' I oI oN oL' tv vL' h₂ tk₁ hlt F₂ N₂ hcH hcL (allLt_list hled) hdN dL')) (fun f s₃ h₃ => ?_) fun _ _ e => e
      obtain ⟨rfl, h₃, tk₃, m₃, oH₃, oL₃, vH₃, vL₃, rfl, F₃, N₃, dH₃, dL₃⟩ := h₃
      refine ⟨n + 1 - (i + 1), by omega, h₃, tk₃, i + 1, m₃, oH₃, oL₃, vH₃, vL₃, rfl, hlt, rfl, ?_, F₃, fun p hp => N₃ p (List.mem_cons_of_mem _ hp), dH₃, dL₃⟩
      refine W.frame (i + 1) h₁ h₃ hst₁ fun b hb o e => ?_
      rw [List.mem_singleton.mp hb, hoI] at e
      rw [List.mem_singleton.mp hb, ← e]
      exact N₃.get List.mem_cons_self
    · obtain rfl : i = n := Nat.le_antisymm hi (Nat.not_lt.mp hlt)
      refine W.done _ _ _ hst fun h₁ tk₁ hk₁ => wpAny_execs_nil ?_
      exact done h₁ tk₁ m' (LCg.fr_but F' hk₁ (Nat.ne_of_lt hLlt) hI₀) fun p hp => LCg.news_but N' hk₁ off p (List.mem_cons_of_mem _ (List.mem_cons_of_mem _ hp))
  · show IsRangeIter _ _ _ _ _
    rw [hn, ← hII]
    simpa using Heap.get?_push_size _ rfl
end
/-- the body of the loop over the houses, and the law's scope, read off the program's form -/
def lawTurn : List Stmt := match PySem.Challenge.pw_ai0002_01.main.body with
  | [_, _, _, _, .FunctionDef _ _ b _ _ _ _ _ _ _] => (match b with
    | [_, _, _, _, _, .For _ _ tb _ _, _] => tb
    | _ => [])
  | _ => []
def lawScope : Scope := match PySem.Challenge.pw_ai0002_01.main.body with
  | [_, _, _, _, .FunctionDef _ _ _ _ _ _ sc _ _ _] => sc
  | _ => default
abbrev HLed (L lv : Addr) (vals : List Value) (cnt : Nat) (oT oV : Obj) : List (Addr × Obj) := [(lv, PySem.W.listOf vals.toArray cnt), (L + 1 + 1, oT), (L + 1, oV)]
/-- where the try has come to: told and tied, both ways in one -/
def TryPost (h₀ : Heap) (L : Addr) (m : Str → Option Value) (led : List (Addr × Obj)) (votes : List Int) (k : Int) (s : Shared) (f : Flow) (s' : Shared) : Prop :=
  f = .next ∧ ∃ h' tk b D ys c res, s' = { s with heap := h', toks := tk } ∧ Fr h₀ L h' (fun y => if y = Str.ofString "told" then some (.ref D) else if y = Str.ofString "tied" then some (.bool b) else m y) ∧
    News h₀ L h' ((D, PySem.W.listOf ys.toArray c) :: led) ∧ LCg.Off1 D led ∧ IntsAre ys res ∧ ((b = false ∧ LrOk votes k res false) ∨ (b = true ∧ res = [] ∧ ∃ r, LrOk votes k r true))
theorem hb_of {K : Frag} {f : Addr} {oc : Value} {od : Option Addr} {fd : FuncData} {osl : Array (Option Value)} {P : FuncData → Prop} (h : K.lookup f = some ⟨oc, od, .func fd, osl⟩) (hp : P fd) :
    ∀ oc' od' fd' osl', K.lookup f = some ⟨oc', od', .func fd', osl'⟩ → P fd' := fun oc' od' fd' osl' e => by
  rw [h] at e
  cases e
  exact hp
theorem off1_of {D : Addr} : ∀ {l : List (Addr × Obj)}, (∀ p ∈ l, p.1 ≠ D) → LCg.Off1 D l
  | [], _ => trivial
  | p :: _, h => ⟨h p List.mem_cons_self, off1_of fun q hq => h q (List.mem_cons_of_mem _ hq)⟩
/-- a call's new list put onto the caller's ledger -/
theorem call_back {h₀ h h' : Heap} {L D : Addr} {m : Str → Option Value} {news : List (Addr × Obj)} {o : Obj} (F : Fr h₀ L h m) (N : News h₀ L h news) (hk : ∀ b ob, h.get? b = some ob → h'.get? b = some ob) (hn : h.get? D = none) (hg : h'.get? D = some o) :
    Fr h₀ L h' m ∧ News h₀ L h' ((D, o) :: news) ∧ LCg.Off1 D news := by
  obtain ⟨oL, _, _, hL, _⟩ := id F.ns
  refine ⟨F.keeps hk, fun p hp => ?_, off1_of fun p hp e => ?_⟩
  · rcases List.mem_cons.mp hp with rfl | hp
    · refine ⟨hg, fun e => ?_, ?_⟩
      · have e' : D = L := e
        rw [e', hL] at hn; cases hn
      · cases q : h₀.get? D with
        | none => rfl
        | some o' => have := F.keep _ _ q; rw [hn] at this; cases this
    · exact ⟨hk _ _ (N p hp).1, (N p hp).2⟩
  · have := (N p hp).1
    rw [e, hn] at this; cases this
theorem map_twice {h₀ h : Heap} {L : Addr} {m : Str → Option Value} {a b : Str} {v w w' : Option Value} (F : Fr h₀ L h (fun y => if y = a then v else if y = b then w else if y = b then w' else m y)) :
    Fr h₀ L h (fun y => if y = a then v else if y = b then w else m y) := by
  have e : (fun y => if y = a then v else if y = b then w else if y = b then w' else m y) = fun y => if y = a then v else if y = b then w else m y := by
    funext y
    by_cases h1 : y = a
    · simp [h1]
    · by_cases h2 : y = b
      · simp [h2]
      · simp [h1, h2]
  exact e ▸ F
/-- a party's distance from its next whole seat; the points -/
def dst (votes : List Int) (k : Int) : List Int := votes.map fun p => votes.sum - (p * k).fmod votes.sum
def pts (votes : List Int) (k : Int) : List Int := 0 :: dst votes k
theorem dst_length {votes : List Int} {k : Int} : (dst votes k).length = votes.length := List.length_map _
theorem pts_length {votes : List Int} {k : Int} : (pts votes k).length = votes.length + 1 := by simp [pts, dst_length]
end Mine

namespace Mine
open PySem.Calls PySem.Spec

section
variable {M : Model} {A : Around} {E : Value → Shared → Prop} {s : Shared}
/-- a comprehension's own room where one of its names is a cell -/
theorem env_cell {scope : Scope} {globals : Addr} {cl : List (Str × Addr)} {qual : Str} {env : Env} {x : Str} {Q : Env → Shared → Prop}
    (hc : ∀ n, cellsFrom n scope.names cl = (x, n) :: cl) (hp : ∀ h : Heap, pushCells h scope.names = h.push { cls := .type "cell", data := .cell none })
    (hQ : Q (newEnv scope s.heap.objs.size globals ((x, s.heap.objs.size + 1) :: cl) qual none .none (some env) builtinsNs)
      { s with heap := (s.heap.push { cls := .type "dict", data := .dict #[] }).push { cls := .type "cell", data := .cell none } }) :
    wpAny M A (newFunctionEnv scope globals cl [] qual none .none (some env)) Q E s := by
  simp only [newFunctionEnv, Option.isSome_some, if_true]
  refine wpAny_bind (wpAny_alloc ?_)
  refine wpAny_bind (wpAny_layCells _ (fun name kind cells => by cases hkc : kind == NameKind.cell <;> simp) _ _ _ _ ?_)
  rw [show ({ s with heap := s.heap.push { cls := .type "dict", data := .dict #[] } } : Shared).heap.objs.size = s.heap.objs.size + 1 from Heap.size_push ..]
  rw [hc, hp, List.forIn_nil]
  exact wpAny_bind (wpAny_pure (wpAny_pure hQ))
end

def Off4 (J C P D : Addr) : List (Addr × Obj) → Prop
  | [] => True
  | p :: r => ((@Ne Nat p.1 J) ∧ (@Ne Nat p.1 C) ∧ (@Ne Nat p.1 P) ∧ (@Ne Nat p.1 D)) ∧ Off4 J C P D r
theorem Off4.mem {J C P D : Addr} : ∀ {l : List (Addr × Obj)}, Off4 J C P D l → ∀ p ∈ l, p.1 ≠ J ∧ p.1 ≠ C ∧ p.1 ≠ P ∧ p.1 ≠ D
  | [], _, _, h => nomatch h
  | _ :: _, x, p, h => by
    rcases List.mem_cons.mp h with rfl | h
    · exact x.1
    · exact Off4.mem x.2 p h
theorem Off4.of {J C P D : Addr} : ∀ {l : List (Addr × Obj)}, (∀ p ∈ l, p.1 ≠ J ∧ p.1 ≠ C ∧ p.1 ≠ P ∧ p.1 ≠ D) → Off4 J C P D l
  | [], _ => trivial
  | _ :: _, h => ⟨h _ List.mem_cons_self, Off4.of fun p hp => h p (List.mem_cons_of_mem _ hp)⟩

def CEnd (h₀ : Heap) (L : Addr) (m : Str → Option Value) (s₁ : Shared) (J : Addr) (oI : Obj) (C : Addr) (oC : Obj) (P : Addr) (oP : Obj) (D : Addr) (oD : Obj) (rest : Value → List (Addr × Obj) → Prop) (y : Value) (s' : Shared) : Prop :=
  ∃ h' tk nw', s' = { s₁ with heap := h', toks := tk } ∧ Fr h₀ L h' m ∧ News h₀ L h' ((J, oI) :: (C, oC) :: (P, oP) :: (D, oD) :: nw') ∧ Off4 J C P D nw' ∧ rest y nw'

def CSrc (prog : Program) (w : World) (A : Around) (h₀ : Heap) (L : Addr) (m : Str → Option Value) (env : Env) (elt : PySem.Expr) (x y : Str) (scope : Scope) (cl : List (Str × Addr)) (Q : Flow → Shared → Prop) (xv : Value) (s₁ : Shared) : Prop :=
  ∃ (ax : Addr) (its : Array Value) (k0 : Nat) (news : List (Addr × Obj)) (I : Nat → List Value → List (Addr × Obj) → Prop), xv = .ref ax ∧ A.handled = none ∧ Fr h₀ L s₁.heap m ∧ News h₀ L s₁.heap news ∧ its.size ≤ sizeLine ∧ I 0 [] news ∧
    (∀ i ys nw, I i ys nw → (ax, ({ cls := .type "list", data := .seq its k0 } : Obj)) ∈ nw) ∧
    (∀ i v ys nw J oI C oC P oP D h tk (E' : Value → Shared → Prop), i < its.size → its[i]? = some v → I i ys nw → oP.data = .cell (some v) → Fr h₀ L h m → News h₀ L h ((J, oI) :: (C, oC) :: (P, oP) :: (D, LCg.lst ys) :: nw) → Off4 J C P D nw →
      ((@Ne Nat J C) ∧ (@Ne Nat J P) ∧ (@Ne Nat J D) ∧ (@Ne Nat C P) ∧ (@Ne Nat C D) ∧ (@Ne Nat P D)) →
      wpAny (model prog w) A (eval elt (compEnvC scope ((x, P) :: cl) C env)) (CEnd h₀ L m { s₁ with heap := h, toks := tk } J oI C oC P oP D (LCg.lst ys) (fun y nw' => I (i + 1) (ys ++ [y]) nw')) E' { s₁ with heap := h, toks := tk }) ∧
    ∀ ys nw D h tk, I its.size ys nw → Fr h₀ L h (fun z => if z = y then some (.ref D) else m z) → News h₀ L h ((D, LCg.lst ys) :: nw) → LCg.Off1 D nw → Q .next { s₁ with heap := h, toks := tk }

section
variable {prog : Program} {w : World} {A : Around} {E : Value → Shared → Prop} {s : Shared} {h₀ : Heap} {L : Addr} {m : Str → Option Value} {env : Env}

theorem lookup_relabel_cell {env : Env} : ∀ {names : List (Str × NameKind)} {x : Str}, names.lookup x = some .cell →
    (names.map fun (n, k) => if (k == NameKind.free && env.scope.kind == .function && env.kindOf n == some .cell) then (n, NameKind.cell) else (n, k)).lookup x = some .cell
  | [], _, h => by simp at h
  | (n, k) :: r, x, h => by
    have ih := @lookup_relabel_cell env r x
    show List.lookup x ((if (k == NameKind.free && env.scope.kind == .function && env.kindOf n == some .cell) = true then (n, NameKind.cell) else (n, k)) :: _) = _
    cases hx : x == n with
    | true =>
      simp only [List.lookup_cons, hx] at h
      cases h
      simp [List.lookup_cons, hx]
    | false =>
      simp only [List.lookup_cons, hx] at h
      by_cases hc : (k == NameKind.free && env.scope.kind == .function && env.kindOf n == some .cell) = true
      · rw [if_pos hc]; simp only [List.lookup_cons, hx]; exact ih h
      · rw [if_neg hc]; simp only [List.lookup_cons, hx]; exact ih h

theorem Assign_ListComp_C {elt iter : PySem.Expr} {x y : Str} {px py : Pos} {scope : Scope} {cl : List (Str × Addr)} {pos spos : Pos} {Q : Flow → Shared → Prop} (_F₀ : Fr h₀ L s.heap m) (hLe : env.locals = L)
    (hsw : swapsWith (.ListComp elt [⟨.Name x px, iter, [], 0⟩] scope pos) (some (.Name y py)) spos.line env = pure true)
    (hclos : closureFor scope env = pure cl) (hc : ∀ n, cellsFrom n scope.names cl = (x, n) :: cl) (hp : ∀ h : Heap, pushCells h scope.names = h.push { cls := .type "cell", data := .cell none }) (hkind : scope.kind = .function)
    (hnames : ∀ z ∈ scope.names, z.2 = .local → scope.names.lookup z.1 = some .local) (hx : scope.names.lookup x = some .cell)
    (hy : env.kindOf y = some .local) (hpl : (env.scope.kind == .class || (env.scope.kind == .module && env.locals != env.globals)) = false)
    (h : wpAny (model prog w) A (eval iter env) (CSrc prog w A h₀ L m env elt x y scope cl Q) E s)
    (hs : ∀ x, foldedSetIterable iter env x = pure x := by intro _; rfl) :
    wpAny (model prog w) A (exec (.Assign [.Name y py] (.ListComp elt [⟨.Name x px, iter, [], 0⟩] scope pos) spos) env) Q E s := by
  subst hLe
  rw [exec_Assign_Name_used _ _ _ _ hsw]
  refine wpAny_bind (wpAny_standAt (wpAny_bind ?_))
  show wpAny _ A (do let _ ← comprehension (.ListComp elt [⟨.Name x px, iter, [], 0⟩] scope pos) scope env _ (newList []) false (eval iter env) (some (assign (.Name y py) env))) _ _ s
  refine wpAny_bind (wpAny_mono (wpAny_comprehension_free (use := some (assign (.Name y py) env)) (Q := fun _ s' => Q .next s') rfl hs hclos hkind hnames
    (wpAny_mono h (fun xv s₁ h₁ => ?_) fun _ _ e => e)) (fun _ s' hq => wpAny_pure (wpAny_pure hq)) fun _ _ e => e)
  obtain ⟨ax, its, k0, news, I, rfl, hh, F, N, hsz, hI0, hsrc, turn, fin⟩ := h₁
  have hl : s₁.heap.IsList ax its := ⟨_, N.get (hsrc _ _ _ hI0), rfl, k0, rfl⟩
  have hlt : @LT.lt Nat _ ax s₁.heap.objs.size := Heap.lt_size (N.get (hsrc _ _ _ hI0))
  have hLlt : @LT.lt Nat _ env.locals s₁.heap.objs.size := F.ns.lt
  have hI₀ : h₀.get? s₁.heap.objs.size = none := next_is_new F
  have fresh₀ : ∀ a, s₁.heap.objs.size ≤ a → h₀.get? a = none := fun a ha => by
    cases e : h₀.get? a with
    | none => rfl
    | some o' => exact absurd (Heap.lt_size (F.keep a o' e)) (Nat.not_lt.mpr ha)
  have hnlt : ∀ p ∈ news, @LT.lt Nat _ p.1 s₁.heap.objs.size := fun p hp => Heap.lt_size (N p hp).1
  refine wpAny_pyIter_list hl ?_
  refine wpAny_newObj_type (env_cell hc hp ?_)
  -- the four new objects: the iterator J, the list D, the names C, the cell P
  generalize hn : s₁.heap.objs.size = n at *
  have z1 : (s₁.heap.push { cls := .type "list_iterator", data := .fields #[.ref ax, .int 0 0] }).objs.size = n + 1 := by rw [Heap.size_push, hn]
  have z2 : ((s₁.heap.push { cls := .type "list_iterator", data := .fields #[.ref ax, .int 0 0] }).push { cls := .type "list", dict := none, data := .seq ([] : List Value).toArray }).objs.size = n + 2 := by rw [Heap.size_push, z1]
  dsimp only
  rw [z1, z2]
  generalize hH : (((s₁.heap.push { cls := .type "list_iterator", data := .fields #[.ref ax, .int 0 0] }).push { cls := .type "list", dict := none, data := .seq ([] : List Value).toArray }).push { cls := .type "dict", data := .dict #[] }).push { cls := .type "cell", data := .cell none } = H
  have z3 : (((s₁.heap.push { cls := .type "list_iterator", data := .fields #[.ref ax, .int 0 0] }).push { cls := .type "list", dict := none, data := .seq ([] : List Value).toArray }).push { cls := .type "dict", data := .dict #[] }).objs.size = n + 3 := by rw [Heap.size_push, z2]
  have old : ∀ b o, s₁.heap.get? b = some o → H.get? b = some o := fun b o e => by
    rw [← hH]
    exact Heap.get?_push_of_some _ (Heap.get?_push_of_some _ (Heap.get?_push_of_some _ (Heap.get?_push_of_some _ e)))
  have gI : H.get? n = some { cls := .type "list_iterator", data := .fields #[.ref ax, .int 0 0] } := by
    rw [← hH]
    refine Heap.get?_push_of_some _ (Heap.get?_push_of_some _ (Heap.get?_push_of_some _ ?_))
    rw [← hn]
    exact Heap.get?_push_size _ rfl
  have gD : H.get? (n + 1) = some (LCg.lst []) := by
    rw [← hH]
    refine Heap.get?_push_of_some _ (Heap.get?_push_of_some _ ?_)
    rw [← z1]
    exact Heap.get?_push_size _ rfl
  have gC : H.get? (n + 2) = some { cls := .type "dict", data := .dict #[] } := by
    rw [← hH]
    refine Heap.get?_push_of_some _ ?_
    rw [← z2]
    exact Heap.get?_push_size _ rfl
  have gP : H.get? (n + 3) = some { cls := .type "cell", data := .cell none } := by
    rw [← hH, ← z3]
    exact Heap.get?_push_size _ rfl
  have f1 : h₀.get? (n + 1) = none := fresh₀ _ (by omega)
  have f2 : h₀.get? (n + 2) = none := fresh₀ _ (by omega)
  have f3 : h₀.get? (n + 3) = none := fresh₀ _ (by omega)
  have offOf : ∀ nw : List (Addr × Obj), (∀ p ∈ nw, @LT.lt Nat _ p.1 n) → Off4 n (n + 2) (n + 3) (n + 1) nw := fun nw hnw => Off4.of fun p hp => by
    have := hnw p hp
    refine ⟨?_, ?_, ?_, ?_⟩ <;> intro e <;> rw [e] at this <;> revert this <;> intro this <;> exact absurd this (by omega)
  have W := Walks.list (prog := prog) (w := w) hh n ax (Nat.ne_of_lt hlt) its
  have loop : ∀ s₃ : Shared, s₃ = { s₁ with heap := H } →
      codeAny (model prog w) A (.compLoop (.ListComp elt [⟨.Name x px, iter, [], 0⟩] scope pos) 0 (.ref n) (.ref (n + 1)) (compEnvC scope ((x, n + 3) :: cl) (n + 2) env))
        (compPost (model prog w) A E (some (assign (.Name y py) env)) (fun _ s' => Q .next s') (.ref (n + 1)) (n + 2)) s₃ := by
    rintro s₃ rfl
    refine codeAny_compLoop_tests
      (fun k s' => ∃ h' tk i ys oC oP vP nw, s' = { s₁ with heap := h', toks := tk } ∧ i ≤ its.size ∧ k = its.size + 1 - i ∧ ys.length = i ∧ (h'.IsListIter n ax i ∧ h'.IsList ax its) ∧ Fr h₀ env.locals h' m ∧ LCg.NsObj oC (fun _ => none) ∧ oP.data = .cell vP ∧
        News h₀ env.locals h' ((n + 2, oC) :: (n + 3, oP) :: (n + 1, LCg.lst ys) :: nw) ∧ Off4 n (n + 2) (n + 3) (n + 1) nw ∧ I i ys nw) ?_ (its.size + 1)
      ⟨H, s₁.toks, 0, [], { cls := .type "dict", data := .dict #[] }, { cls := .type "cell", data := .cell none }, none, news, rfl, Nat.zero_le _, rfl, rfl, ⟨⟨_, gI, rfl, rfl⟩, hl.at fun o e => old _ o e⟩, F.keeps old, ⟨#[], 0, rfl, by intro e he; simp at he, fun _ => rfl⟩, rfl, fun p hp => ?_, offOf news hnlt, hI0⟩
    · rintro k s' ⟨h', tk, i, ys, oC, oP, vP, nw, rfl, hi, rfl, hyl, hst, F', hoC, dP, N', off', hI⟩
      have off4 := off'.mem
      have offI : ∀ p ∈ (n + 2, oC) :: (n + 3, oP) :: (n + 1, LCg.lst ys) :: nw, p.1 ≠ n := fun p hp => by
        rcases List.mem_cons.mp hp with rfl | hp
        · show (n + 2 : Nat) ≠ n; omega
        · rcases List.mem_cons.mp hp with rfl | hp
          · show (n + 3 : Nat) ≠ n; omega
          · rcases List.mem_cons.mp hp with rfl | hp
            · show (n + 1 : Nat) ≠ n; omega
            · exact (off4 p hp).1
      by_cases hlt' : i < its.size
      · refine W.item i _ _ _ hlt' hst fun v h₂ tk₂ hPv hst₂ hk₂ => ?_
        have F₂ : Fr h₀ env.locals h₂ m := LCg.fr_but F' hk₂ (Nat.ne_of_lt hLlt) hI₀
        have N₂ := LCg.news_but N' hk₂ offI
        refine wpAny_assign_Name (wpAny_storeName_cell (by simp [compEnvC, relabel, hkind]) (lookup_relabel_cell hx) (c := n + 3) (by simp [compEnvC]) ⟨oP, N₂.get (List.mem_cons_of_mem _ List.mem_cons_self), dP⟩ fun h₃ hcell hs₃ => ?_)
        obtain ⟨oN, hoN, hdN⟩ := hcell
        refine wpAny_tests_nil ?_
        simp only [if_true]
        have hPL : (n + 3 : Nat) ≠ env.locals := by omega
        have F₃ : Fr h₀ env.locals h₃ m := F₂.change hs₃ hPL f3
        obtain ⟨oI, heI⟩ : ∃ o, h₂.get? n = some o := by obtain ⟨o, e, _⟩ := hst₂.1; exact ⟨o, e⟩
        have heI₃ : h₃.get? n = some oI := (hs₃.2 n (by show (n : Nat) ≠ n + 3; omega)).trans heI
        have N₃ : News h₀ env.locals h₃ ((n, oI) :: (n + 2, oC) :: (n + 3, oN) :: (n + 1, LCg.lst ys) :: nw) := fun p hp => by
          rcases List.mem_cons.mp hp with rfl | hp
          · exact ⟨heI₃, by show (n : Nat) ≠ _; omega, hI₀⟩
          · rcases List.mem_cons.mp hp with rfl | hp
            · have z := N₂ (n + 2, oC) List.mem_cons_self
              exact ⟨(hs₃.2 (n + 2) (by show (n + 2 : Nat) ≠ _; omega)).trans z.1, z.2⟩
            · rcases List.mem_cons.mp hp with rfl | hp
              · exact ⟨hoN, hPL, f3⟩
              · have z := N₂ p (List.mem_cons_of_mem _ (List.mem_cons_of_mem _ hp))
                refine ⟨(hs₃.2 p.1 ?_).trans z.1, z.2⟩
                rcases List.mem_cons.mp hp with rfl | hp
                · show (n + 1 : Nat) ≠ _; omega
                · exact (off4 p hp).2.2.1
        refine wpAny_mono (turn i v ys nw n oI (n + 2) oC (n + 3) oN (n + 1) h₃ tk₂ _ hlt' hPv hI hdN F₃ N₃ off' ⟨by omega, by omega, by omega, by omega, by omega, by omega⟩) (fun yv s₄ h₄ => ?_) fun _ _ e => e
        obtain ⟨h₄, tk₄, nw₄, rfl, F₄, N₄, off₄, hI₄⟩ := h₄
        have zI := N₄.get (List.mem_cons_self)
        have zD := N₄.get (List.mem_cons_of_mem _ (List.mem_cons_of_mem _ (List.mem_cons_of_mem _ List.mem_cons_self)))
        refine append_at (hsz := by show ys.toArray.size ≤ sizeLine; rw [List.size_toArray, hyl]; exact Nat.le_trans hi hsz) zD fun h₅ hs₅ hD₅ => ?_
        have off5 := off₄.mem
        have hDL : (n + 1 : Nat) ≠ env.locals := by omega
        have F₅ : Fr h₀ env.locals h₅ m := F₄.change hs₅ hDL f1
        have N₅ : News h₀ env.locals h₅ ((n + 2, oC) :: (n + 3, oN) :: (n + 1, LCg.lst (ys ++ [yv])) :: nw₄) := fun p hp => by
          rcases List.mem_cons.mp hp with rfl | hp
          · have z := N₄ (n + 2, oC) (List.mem_cons_of_mem _ List.mem_cons_self)
            exact ⟨(hs₅.2 (n + 2) (by show (n + 2 : Nat) ≠ _; omega)).trans z.1, z.2⟩
          · rcases List.mem_cons.mp hp with rfl | hp
            · have z := N₄ (n + 3, oN) (List.mem_cons_of_mem _ (List.mem_cons_of_mem _ List.mem_cons_self))
              exact ⟨(hs₅.2 (n + 3) (by show (n + 3 : Nat) ≠ _; omega)).trans z.1, z.2⟩
            · rcases List.mem_cons.mp hp with rfl | hp
              · exact ⟨hD₅.trans (congrArg some (LCg.lst_snoc ys yv)), hDL, f1⟩
              · have z := N₄ p (List.mem_cons_of_mem _ (List.mem_cons_of_mem _ (List.mem_cons_of_mem _ (List.mem_cons_of_mem _ hp))))
                exact ⟨(hs₅.2 p.1 (off5 p hp).2.2.2).trans z.1, z.2⟩
        have hax : (ax, ({ cls := .type "list", data := .seq its k0 } : Obj)) ∈ nw₄ := hsrc _ _ _ hI₄
        have zI₅ : h₅.get? n = some oI := (hs₅.2 n (by show (n : Nat) ≠ _; omega)).trans zI
        refine ⟨its.size + 1 - (i + 1), by omega, h₅, tk₄, i + 1, ys ++ [yv], oC, oN, some v, nw₄, rfl, hlt', rfl, by rw [List.length_append, List.length_singleton, hyl], ⟨?_, ⟨_, N₅.get (List.mem_cons_of_mem _ (List.mem_cons_of_mem _ (List.mem_cons_of_mem _ hax))), rfl, k0, rfl⟩⟩, F₅, hoC, hdN, N₅, off₄, hI₄⟩
        obtain ⟨o', q, r⟩ := hst₂.1
        rw [heI] at q
        cases q
        exact ⟨oI, zI₅, r⟩
      · obtain rfl : i = its.size := Nat.le_antisymm hi (Nat.not_lt.mp hlt')
        refine W.done _ _ _ hst fun h₂ tk₂ hk₂ => ?_
        have F₂ : Fr h₀ env.locals h₂ m := LCg.fr_but F' hk₂ (Nat.ne_of_lt hLlt) hI₀
        have N₂ := LCg.news_but N' hk₂ offI
        show wpAny _ A (assign (.Name y py) env (.ref (n + 1))) _ _ _
        refine wpAny_assign_Name (wpAny_storeName_local hy F₂.ns (fun h₃ hn₃ hs₃ => ?_) hpl)
        have F₃ : Fr h₀ env.locals h₃ (fun z => if z = y then some (.ref (n + 1)) else m z) := F₂.set hn₃ hs₃
        have N₃ := N₂.set hs₃
        refine ⟨_, hoC.ns (N₃.get List.mem_cons_self), fun h₄ hs₄ => fin ys nw (n + 1) h₄ _ hI (F₃.change hs₄ (by show (n + 2 : Nat) ≠ _; omega) f2) (fun p hp => ?_) (off1_of fun p hp => (off4 p hp).2.2.2)⟩
        have z := N₃ p (List.mem_cons_of_mem _ (List.mem_cons_of_mem _ hp))
        refine ⟨(hs₄.2 p.1 ?_).trans z.1, z.2⟩
        rcases List.mem_cons.mp hp with rfl | hp
        · show (n + 1 : Nat) ≠ _; omega
        · exact (off4 p hp).2.1
    · rcases List.mem_cons.mp hp with rfl | hp
      · exact ⟨gC, by show (n + 2 : Nat) ≠ _; omega, f2⟩
      · rcases List.mem_cons.mp hp with rfl | hp
        · exact ⟨gP, by show (n + 3 : Nat) ≠ _; omega, f3⟩
        · rcases List.mem_cons.mp hp with rfl | hp
          · exact ⟨gD, by show (n + 1 : Nat) ≠ _; omega, f1⟩
          · exact ⟨old _ _ (N p hp).1, (N p hp).2⟩
  exact codeAny_compStart_list (loop _ rfl) (W.self 0 _ _ _ ⟨⟨_, gI, rfl, rfl⟩, hl.at fun o e => old _ o e⟩ (loop _ rfl))
end

section
variable {prog : Program} {w : World} {A : Around} {h₀ : Heap} {L : Addr} {m : Str → Option Value} {env : Env} {ct elt : PySem.Expr} {x : Str} {scope : Scope} {cl : List (Str × Addr)} {s : Shared} {S : List (Addr × Obj) → Prop} {P : Nat → Value → Prop} {Fin : List Value → List (Addr × Obj) → Prop} {news : List (Addr × Obj)}

theorem rest_genT {n : Nat} (I : Nat → List Value → List (Addr × Obj) → Prop) (h0 : I 0 [] news)
    (turn : ∀ i v ys nw J oI C oC D m₂ h tk (E' : Value → Shared → Prop), i < n → P i v → I i ys nw → LCg.NsObj oC m₂ → m₂ x = some v → Fr h₀ L h m →
      News h₀ L h ((J, oI) :: (C, oC) :: (D, LCg.lst ys) :: nw) → LCg.Off3 J C D nw → ((@Ne Nat J C) ∧ (@Ne Nat J D) ∧ (@Ne Nat C D)) →
      wpAny (model prog w) A (isTrue ct (compEnvC scope cl C env) (eval ct (compEnvC scope cl C env))) (fun ok s' => if ok = true then
        wpAny (model prog w) A (eval elt (compEnvC scope cl C env)) (LCg.CompEnd h₀ L m { s with heap := h, toks := tk } J oI C oC D (LCg.lst ys) S (fun y nw' => I (i + 1) (ys ++ [y]) nw')) E' s'
        else LCg.CompEnd h₀ L m { s with heap := h, toks := tk } J oI C oC D (LCg.lst ys) S (fun _ nw' => I (i + 1) ys nw') Value.none s') E' { s with heap := h, toks := tk })
    (fin : ∀ ys nw, I n ys nw → Fin ys nw) : LCt.CompRestT prog w A h₀ L m env ct elt x scope cl s S P Fin n 0 [] news := by
  have key : ∀ (j i : Nat) (ys : List Value) (nw : List (Addr × Obj)), i + j = n → I i ys nw → LCt.CompRestT prog w A h₀ L m env ct elt x scope cl s S P Fin j i ys nw := by
    intro j
    induction j with
    | zero =>
      intro i ys nw hi hy
      have e : i = n := by omega
      subst e
      exact LCt.CompRestT.zero (fin ys nw hy)
    | succ j ih =>
      intro i ys nw hi hy
      refine LCt.CompRestT.succ ?_
      intro v J oI C oC D m₂ h tk E' hv hC hx F N off ne
      refine wpAny_mono (turn i v ys nw J oI C oC D m₂ h tk E' (by omega) hv hy hC hx F N off ne) (fun ok s₂ hq => ?_) fun _ _ e => e
      cases ok with
      | true =>
        simp only [if_true] at hq ⊢
        refine wpAny_mono hq (fun y s₃ hq3 => ?_) fun _ _ e => e
        obtain ⟨h', tk', nw', e, F', N', off', hS, hI⟩ := hq3
        exact ⟨h', tk', nw', e, F', N', off', hS, ih (i + 1) _ _ (by omega) hI⟩
      | false =>
        simp only [Bool.false_eq_true, if_false] at hq ⊢
        obtain ⟨h', tk', nw', e, F', N', off', hS, hI⟩ := hq
        exact ⟨h', tk', nw', e, F', N', off', hS, ih (i + 1) _ _ (by omega) hI⟩
  exact key n 0 [] news (by omega) h0
end

/-- rows of ints, as lists that a ledger holds -/
def RowAt (ex : List (Addr × Obj)) (v : Value) (row : List Int) : Prop := ∃ r vs c, v = .ref r ∧ (r, PySem.W.listOf (List.toArray vs) c) ∈ ex ∧ IntsAre vs row
theorem RowAt.mono {ex ex' : List (Addr × Obj)} (hs : ∀ p ∈ ex, p ∈ ex') {v : Value} {p : List Int} (h : RowAt ex v p) : RowAt ex' v p :=
  let ⟨r, vs, c, e, hm, hi⟩ := h; ⟨r, vs, c, e, hs _ hm, hi⟩
def Rws (ex : List (Addr × Obj)) (ys : List Value) (ps : List (List Int)) : Prop := ys.length = ps.length ∧ ∀ (j : Nat) (v : Value) (p : List Int), ys[j]? = some v → ps[j]? = some p → RowAt ex v p
theorem Rws.nil {ex : List (Addr × Obj)} : Rws ex [] [] := ⟨rfl, fun _ _ _ h => by simp at h⟩
theorem Rws.mono {ex ex' : List (Addr × Obj)} (hs : ∀ p ∈ ex, p ∈ ex') {ys : List Value} {ps : List (List Int)} (h : Rws ex ys ps) : Rws ex' ys ps :=
  ⟨h.1, fun j v p a b => (h.2 j v p a b).mono hs⟩
theorem Rws.snoc {ex : List (Addr × Obj)} {ys : List Value} {ps : List (List Int)} (h : Rws ex ys ps) {v : Value} {row : List Int} (hr : RowAt ex v row) : Rws ex (ys ++ [v]) (ps ++ [row]) := by
  refine ⟨by simp [h.1], fun j v' p hv hp => ?_⟩
  by_cases hj : j < ys.length
  · rw [List.getElem?_append_left hj] at hv
    rw [List.getElem?_append_left (h.1 ▸ hj)] at hp
    exact h.2 j v' p hv hp
  · have e : j = ys.length := by
      have := (List.getElem?_eq_some_iff.mp hv).1
      simp at this; omega
    subst e
    rw [h.1] at hp
    simp at hv hp
    subst hv; subst hp
    exact hr
theorem Rws.at {ex : List (Addr × Obj)} {ys : List Value} {ps : List (List Int)} (h : Rws ex ys ps) {j : Nat} {p : List Int} (hp : ps[j]? = some p) : ∃ v, ys[j]? = some v ∧ RowAt ex v p := by
  have hj : j < ys.length := by rw [h.1]; exact (List.getElem?_eq_some_iff.mp hp).1
  exact ⟨ys[j], List.getElem?_eq_getElem hj, h.2 j _ p (List.getElem?_eq_getElem hj) hp⟩

/-- the row of a point; the rows -/
def rowOf (votes : List Int) (k q : Int) : List Int := votes.map fun p => (p * k + q).fdiv votes.sum
def rowsOf (votes : List Int) (k : Int) : List (List Int) := (pts votes k).map (rowOf votes k)
theorem rowOf_length {votes : List Int} {k q : Int} : (rowOf votes k q).length = votes.length := List.length_map _
theorem rowsOf_length {votes : List Int} {k : Int} : (rowsOf votes k).length = votes.length + 1 := by rw [rowsOf, List.length_map, pts_length]
def NeAll (c : Addr) (ex : List (Addr × Obj)) : Prop := ∀ p ∈ ex, p.1 ≠ c
theorem NeAll.nil {c : Addr} : NeAll c [] := fun _ h => nomatch h
theorem NeAll.cons {c : Addr} {p : Addr × Obj} {ex : List (Addr × Obj)} (h : @Ne Nat p.1 c) (r : NeAll c ex) : NeAll c (p :: ex) := fun q hq => by
  rcases List.mem_cons.mp hq with rfl | hq
  · exact h
  · exact r q hq
end Mine

namespace Mine
open PySem.Calls PySem.Spec PySem.SeqAt

/-- the shares with a seat more for each remainder from the cut on -/
def upC (votes : List Int) (k c : Int) : List Int := votes.map fun p => (p * k).fdiv votes.sum + if c ≤ p * k - (p * k).fdiv votes.sum * votes.sum then 1 else 0

theorem fmod_is {a S : Int} (hS : 0 < S) : a.fmod S = a - a.fdiv S * S := by
  have := Int.mul_fdiv_add_fmod a S
  rw [Int.mul_comm] at this
  omega
theorem fdiv_up {a S r : Int} (hS : 0 < S) (h0 : 0 ≤ r) (h1 : r < S) : (a + (S - r)).fdiv S = a.fdiv S + if r ≤ a - a.fdiv S * S then 1 else 0 := by
  have hb := rmd_bd (p := a) (k := 1) hS
  rw [Int.mul_one] at hb
  generalize a.fdiv S = q at *
  rw [Int.fdiv_eq_ediv_of_nonneg _ (Int.le_of_lt hS)]
  split
  · rename_i h
    have e : a + (S - r) = (a - q * S - r) + (q + 1) * S := by rw [Int.add_mul]; omega
    rw [e, Int.add_mul_ediv_right _ _ (Int.ne_of_gt hS), Int.ediv_eq_zero_of_lt (by omega) (by omega)]
    omega
  · rename_i h
    have e : a + (S - r) = (a - q * S + (S - r)) + q * S := by omega
    rw [e, Int.add_mul_ediv_right _ _ (Int.ne_of_gt hS), Int.ediv_eq_zero_of_lt (by omega) (by omega)]
    omega

theorem rowsOf_eq {votes : List Int} {k : Int} (hS : 0 < votes.sum) : rowsOf votes k = flo votes k :: (rmd votes k).map (upC votes k) := by
  rw [rowsOf, pts, List.map_cons]
  congr 1
  · rw [rowOf, flo]
    exact List.map_congr_left fun p _ => by rw [Int.add_zero]
  · rw [dst, rmd, List.map_map, List.map_map]
    refine List.map_congr_left fun x _ => ?_
    show rowOf votes k (votes.sum - (x * k).fmod votes.sum) = upC votes k _
    rw [rowOf, upC]
    refine List.map_congr_left fun p _ => ?_
    have hb := rmd_bd (p := x) (k := k) hS
    rw [fmod_is hS, fdiv_up hS hb.1 hb.2]

theorem upC_length {votes : List Int} {k c : Int} : (upC votes k c).length = votes.length := List.length_map _
theorem upC_sum_aux {S k c : Int} : ∀ l : List Int, (l.map fun p => (p * k).fdiv S + if c ≤ p * k - (p * k).fdiv S * S then (1 : Int) else 0).sum =
    (l.map fun p => (p * k).fdiv S).sum + ((l.map fun p => p * k - (p * k).fdiv S * S).countP fun x => decide (c ≤ x) : Nat)
  | [] => by simp
  | p :: r => by
    have ih := upC_sum_aux (S := S) (k := k) (c := c) r
    simp only [List.map_cons, List.sum_cons, List.countP_cons, ih]
    by_cases h : c ≤ p * k - (p * k).fdiv S * S
    · simp only [h, if_true, decide_true]; omega
    · simp only [h, if_false, decide_false, Bool.false_eq_true]; omega
theorem upC_sum {votes : List Int} {k c : Int} : (upC votes k c).sum = (flo votes k).sum + ((rmd votes k).countP fun x => decide (c ≤ x) : Nat) := upC_sum_aux votes

theorem upC_get {votes : List Int} {k c : Int} {i : Nat} (hi : i < votes.length) : (upC votes k c).getD i 0 = (flo votes k).getD i 0 + if c ≤ (rmd votes k).getD i 0 then 1 else 0 := by
  rw [getD_eq' (by rw [upC_length]; exact hi), getD_eq' (by rw [flo_length]; exact hi), getD_eq' (by rw [rmd_length]; exact hi)]
  simp only [upC, flo, rmd, List.getElem_map]

theorem upC_le {votes : List Int} {k c c' : Int} (h : c ≤ c') {i : Nat} (hi : i < votes.length) : (upC votes k c').getD i 0 ≤ (upC votes k c).getD i 0 := by
  rw [upC_get hi, upC_get hi]
  split <;> split <;> omega

/-- two lists, one nowhere above the other, with the same sum: they are the same -/
theorem eq_of_le_sum : ∀ {a b : List Int}, a.length = b.length → (∀ i, i < a.length → a.getD i 0 ≤ b.getD i 0) → b.sum ≤ a.sum → a = b
  | [], [], _, _, _ => rfl
  | [], _ :: _, h, _, _ => by simp at h
  | _ :: _, [], h, _, _ => by simp at h
  | x :: a, y :: b, hl, hle, hs => by
    have h0 : x ≤ y := by simpa using hle 0 (by simp)
    have hr : ∀ i, i < a.length → a.getD i 0 ≤ b.getD i 0 := fun i hi => by simpa using hle (i + 1) (by simpa using hi)
    have hl' : a.length = b.length := by simpa using hl
    have hle' : a.sum ≤ b.sum := by
      clear hs hle h0 hl
      induction a generalizing b with
      | nil => cases b <;> simp_all
      | cons u a ih =>
        cases b with
        | nil => simp at hl'
        | cons v b =>
          have h0 : u ≤ v := by simpa using hr 0 (by simp)
          have := ih _ (fun i hi => by simpa using hr (i + 1) (by simpa using hi)) (by simpa using hl')
          simp only [List.sum_cons]; omega
    simp only [List.sum_cons] at hs
    have hxy : x = y := by omega
    rw [hxy, eq_of_le_sum hl' hr (by omega)]
theorem cut_uniq {rs : List Int} {j c c' : Int} (h : IsCut rs j c) (h' : IsCut rs j c') : c = c' := by
  have mono : ∀ {a b : Int}, a < b → (rs.countP fun x => decide (b ≤ x)) ≤ rs.countP fun x => decide (a < x) := fun {a b} hab =>
    List.countP_mono_left fun x _ hx => by simp only [decide_eq_true_eq] at hx ⊢; omega
  rcases Int.lt_trichotomy c c' with hlt | rfl | hlt
  · have := mono hlt; have := h.2.2; have := h'.2.1; omega
  · rfl
  · have := mono hlt; have := h'.2.2; have := h.2.1; omega

theorem sum_set {l : List Int} {i : Nat} (hi : i < l.length) (x : Int) : (l.set i x).sum = l.sum + x - l.getD i 0 := by
  induction l generalizing i with
  | nil => simp at hi
  | cons a r ih =>
    cases i with
    | zero => simp; omega
    | succ i =>
      have := ih (i := i) (by simpa using hi)
      simp only [List.set_cons_succ, List.sum_cons, this, List.getD_cons_succ]; omega

section
variable {votes : List Int} {k c : Int}
/-- where the loop stands after n parties -/
def Inv (votes : List Int) (k c : Int) (n : Nat) (st : List Int × Bool) : Prop :=
  st.1.length = votes.length ∧ (∀ i, i < votes.length → (flo votes k).getD i 0 ≤ st.1.getD i 0 ∧ st.1.getD i 0 ≤ (upC votes k c).getD i 0) ∧ (∀ i, n ≤ i → i < votes.length → st.1.getD i 0 = (flo votes k).getD i 0) ∧
  (∃ e : Nat, (((rmd votes k).take n).countP fun x => decide (c ≤ x)) = e ∧
    (((flo votes k).sum + (e : Int) ≤ k ∧ st.1.sum = (flo votes k).sum + (e : Int) ∧ st.2 = false ∧ ∀ i, i < n → i < votes.length → st.1.getD i 0 = (upC votes k c).getD i 0) ∨
     (k < (flo votes k).sum + (e : Int) ∧ st.1.sum = k ∧ st.2 = true)))

theorem getD_set {l : List Int} {i j : Nat} {x : Int} (hi : i < l.length) : (l.set i x).getD j 0 = if i = j then x else l.getD j 0 := by
  simp only [List.getD_eq_getElem?_getD, List.getElem?_set]
  by_cases h : i = j
  · subst h; simp [hi]
  · simp [h]

theorem inv_step (hf : (flo votes k).sum ≤ k) {n : Nat} (hn : n < votes.length) {st : List Int × Bool} (h : Inv votes k c n st) : Inv votes k c (n + 1) (stp k c (rmd votes k) st n) := by
  obtain ⟨reps, tie⟩ := st
  obtain ⟨hl, hb, ht, e, he, hc⟩ := h
  dsimp only at hl hb ht hc
  have hr : (rmd votes k)[n]? = some ((rmd votes k).getD n 0) := by
    rw [getD_eq' (by rw [rmd_length]; exact hn)]
    exact List.getElem?_eq_getElem _
  have hcount : (((rmd votes k).take (n + 1)).countP fun x => decide (c ≤ x)) = e + if c ≤ (rmd votes k).getD n 0 then 1 else 0 := by
    rw [List.take_add_one, hr, List.countP_append, he]
    simp [List.countP_cons]
  have hup := upC_get (k := k) (c := c) hn
  have htn := ht n (Nat.le_refl _) hn
  by_cases hle : c ≤ (rmd votes k).getD n 0
  · rw [if_pos hle] at hcount hup
    rcases hc with ⟨h1, h2, h3, h4⟩ | ⟨h1, h2, h3⟩
    · subst h3
      by_cases hk : reps.sum = k
      · rw [← stp_tie hk hle]
        refine ⟨hl, hb, fun i hi => ht i (by omega), e + 1, hcount, .inr ⟨by omega, hk, rfl⟩⟩
      · rw [← stp_inc (by omega) hle]
        have hs := sum_set (l := reps) (i := n) (by rw [hl]; exact hn) (reps.getD n 0 + 1)
        refine ⟨by simpa using hl, fun i hi => ?_, fun i hi hi' => ?_, e + 1, hcount, .inl ⟨by omega, ?_, rfl, fun i hi hi' => ?_⟩⟩
        · dsimp only
          rw [getD_set (by rw [hl]; exact hn)]
          split
          · rename_i e; subst e; omega
          · exact hb i hi
        · dsimp only
          rw [getD_set (by rw [hl]; exact hn), if_neg (by omega)]
          exact ht i (by omega) hi'
        · dsimp only
          rw [hs]; omega
        · dsimp only
          rw [getD_set (by rw [hl]; exact hn)]
          split
          · rename_i e; subst e; omega
          · exact h4 i (by omega) hi'
    · subst h3
      rw [← stp_tie h2 hle]
      exact ⟨hl, hb, fun i hi => ht i (by omega), e + 1, hcount, .inr ⟨by omega, h2, rfl⟩⟩
  · rw [if_neg hle] at hcount hup
    have same : stp k c (rmd votes k) (reps, tie) n = (reps, tie) := by
      by_cases hk : reps.sum = k
      · exact (stp_full hk hle).symm
      · exact (stp_low hk (fun x => hle x.2)).symm
    rw [same]
    refine ⟨hl, hb, fun i hi => ht i (by omega), e, hcount, ?_⟩
    rcases hc with ⟨h1, h2, h3, h4⟩ | h1
    · refine .inl ⟨h1, h2, h3, fun i hi hi' => ?_⟩
      by_cases e : i = n
      · subst e; dsimp only; omega
      · exact h4 i (by omega) hi'
    · exact .inr h1
theorem inv_all (hf : (flo votes k).sum ≤ k) : ∀ n, n ≤ votes.length → Inv votes k c n (runTo k c (rmd votes k) (flo votes k, false) n)
  | 0, _ => by
    rw [runTo_zero]
    refine ⟨flo_length, fun i hi => ⟨Int.le_refl _, ?_⟩, fun _ _ _ => rfl, 0, by simp, .inl ⟨by simpa using hf, by simp, rfl, fun i hi => absurd hi (Nat.not_lt_zero _)⟩⟩
    rw [upC_get hi]
    show (flo votes k).getD i 0 ≤ _
    split <;> omega
  | n + 1, h => by
    rw [runTo_succ]
    exact inv_step hf (by omega) (inv_all hf n (by omega))
end
end Mine

namespace Mine
open PySem.Calls PySem.Spec PySem.SeqAt
def justs (votes : List Int) (k : Int) : List (List Int) := (rowsOf votes k).filter fun row => decide (row.sum = k)
def overs (votes : List Int) (k : Int) : List Int := ((rowsOf votes k).filter fun row => decide (k < row.sum)).map List.sum
def atLeast (votes : List Int) (k l : Int) : List (List Int) := (rowsOf votes k).filter fun row => decide (row.sum = l)
theorem getD_of {l : List Int} {i : Nat} {a : Int} (h : l[i]? = some a) : l.getD i 0 = a := by
  rw [List.getD_eq_getElem?_getD, h]; rfl
theorem upC_mono {votes : List Int} {k c c' : Int} (h : c ≤ c') : (upC votes k c').sum ≤ (upC votes k c).sum := by
  rw [upC_sum, upC_sum]
  have : ((rmd votes k).countP fun x => decide (c' ≤ x)) ≤ (rmd votes k).countP fun x => decide (c ≤ x) := List.countP_mono_left fun x _ hx => by simp only [decide_eq_true_eq] at hx ⊢; omega
  omega
theorem upC_over {votes : List Int} {k j c c' : Int} (h : IsCut (rmd votes k) j c) (hc : c < c') : (upC votes k c').sum < (flo votes k).sum + j := by
  rw [upC_sum]
  have : ((rmd votes k).countP fun x => decide (c' ≤ x)) ≤ (rmd votes k).countP fun x => decide (c < x) := List.countP_mono_left fun x _ hx => by simp only [decide_eq_true_eq] at hx ⊢; omega
  have := h.2.2
  omega
theorem upC_eq {votes : List Int} {k c c' : Int} (h : (upC votes k c).sum = (upC votes k c').sum) : upC votes k c = upC votes k c' := by
  rcases Int.le_total c c' with hc | hc
  · exact (eq_of_le_sum (by rw [upC_length, upC_length]) (fun i hi => upC_le hc (by rwa [upC_length] at hi)) (by omega)).symm
  · exact eq_of_le_sum (by rw [upC_length, upC_length]) (fun i hi => upC_le hc (by rwa [upC_length] at hi)) (by omega)
theorem ext_getD {a b : List Int} (hl : a.length = b.length) (h : ∀ i, i < a.length → a.getD i 0 = b.getD i 0) : a = b :=
  List.ext_getElem hl fun i h1 h2 => by rw [← getD_eq' h1, ← getD_eq' h2]; exact h i h1
section
variable {votes : List Int} {k : Int} {r r' : List Int} {t t' : Bool} (hne : votes ≠ []) (hpos : ∀ v ∈ votes, 1 ≤ v) (hk : 1 ≤ k)
include hne hpos hk
theorem lr_false (h : LrOk votes k r false) : ((flo votes k).sum = k ∧ r = flo votes k) ∨ ((flo votes k).sum < k ∧ ∃ c, IsCut (rmd votes k) (k - (flo votes k).sum) c ∧ r = upC votes k c ∧ (upC votes k c).sum = k) := by
  have hS := sum_pos hne hpos
  have hf := flo_sum_bd (k := k) hS hne
  rcases h with ⟨h1, h2, _⟩ | ⟨h1, c, hc, e⟩
  · exact .inl ⟨by omega, h2⟩
  · have inv := inv_all (c := c) hf.1 votes.length (Nat.le_refl _)
    rw [← e] at inv
    obtain ⟨hl, hb, ht, n, hn, hh⟩ := inv
    rw [List.take_of_length_le (by rw [rmd_length]; exact Nat.le_refl _)] at hn
    have hs := upC_sum (votes := votes) (k := k) (c := c)
    rw [hn] at hs
    have hc2 := hc.2.1
    rw [hn] at hc2
    rcases hh with ⟨a1, a2, a3, a4⟩ | ⟨_, _, a3⟩
    · exact .inr ⟨h1, c, hc, ext_getD (by rw [upC_length]; exact hl) (fun i hi => a4 i (by rw [← hl]; exact hi) (by rw [← hl]; exact hi)), by omega⟩
    · cases a3
theorem lr_true (h : LrOk votes k r true) : (flo votes k).sum < k ∧ ∃ c, IsCut (rmd votes k) (k - (flo votes k).sum) c ∧ k < (upC votes k c).sum ∧ r.length = votes.length ∧ r.sum = k ∧
    ∀ i, i < votes.length → (flo votes k).getD i 0 ≤ r.getD i 0 ∧ r.getD i 0 ≤ (upC votes k c).getD i 0 := by
  have hS := sum_pos hne hpos
  have hf := flo_sum_bd (k := k) hS hne
  rcases h with ⟨_, _, h2⟩ | ⟨h1, c, hc, e⟩
  · cases h2
  · have inv := inv_all (c := c) hf.1 votes.length (Nat.le_refl _)
    rw [← e] at inv
    obtain ⟨hl, hb, ht, n, hn, hh⟩ := inv
    rw [List.take_of_length_le (by rw [rmd_length]; exact Nat.le_refl _)] at hn
    have hs := upC_sum (votes := votes) (k := k) (c := c)
    rw [hn] at hs
    rcases hh with ⟨_, _, a3, _⟩ | ⟨a1, a2, _⟩
    · cases a3
    · exact ⟨h1, c, hc, by omega, hl, a2, hb⟩
theorem pl_tied (h : LrOk votes k r true) : justs votes k = [] := by
  obtain ⟨h1, c, hc, h2, _⟩ := lr_true hne hpos hk h
  rw [justs, List.filter_eq_nil_iff, rowsOf_eq (sum_pos hne hpos)]
  intro x hx
  rw [decide_eq_true_eq]
  rcases List.mem_cons.mp hx with rfl | hx
  · omega
  · obtain ⟨c', _, rfl⟩ := List.mem_map.mp hx
    rcases Int.lt_or_le c c' with hlt | hle
    · have := upC_over hc hlt; omega
    · have := upC_mono (votes := votes) (k := k) hle; omega
theorem pl_told (h : LrOk votes k r false) : ∃ rest, justs votes k = r :: rest := by
  rw [justs, rowsOf_eq (sum_pos hne hpos)]
  rcases lr_false hne hpos hk h with ⟨h1, rfl⟩ | ⟨h1, c, hc, rfl, h2⟩
  · rw [List.filter_cons, if_pos (by simpa using h1)]
    exact ⟨_, rfl⟩
  · rw [List.filter_cons, if_neg (by simp; omega)]
    have hm : upC votes k c ∈ ((rmd votes k).map (upC votes k)).filter fun row => decide (row.sum = k) := List.mem_filter.mpr ⟨List.mem_map.mpr ⟨c, hc.1, rfl⟩, by simpa using h2⟩
    generalize hg : ((rmd votes k).map (upC votes k)).filter (fun row => decide (row.sum = k)) = l at hm
    cases l with
    | nil => exact nomatch hm
    | cons x rest =>
      have hx : x ∈ ((rmd votes k).map (upC votes k)).filter fun row => decide (row.sum = k) := by rw [hg]; exact List.mem_cons_self
      obtain ⟨hx1, hx2⟩ := List.mem_filter.mp hx
      obtain ⟨c', _, rfl⟩ := List.mem_map.mp hx1
      rw [decide_eq_true_eq] at hx2
      exact ⟨rest, by rw [upC_eq (c := c') (c' := c) (by omega)]⟩
theorem pl_same (h : LrOk votes k r t) (h' : LrOk votes k r' t') : r = r' ∧ t = t' := by
  rcases h with ⟨h1, h2, h3⟩ | ⟨h1, c, hc, e⟩
  · rcases h' with ⟨g1, g2, g3⟩ | ⟨g1, _⟩
    · exact ⟨h2.trans g2.symm, h3.trans g3.symm⟩
    · exact absurd g1 h1
  · rcases h' with ⟨g1, _⟩ | ⟨g1, c', hc', e'⟩
    · exact absurd h1 g1
    · have := cut_uniq hc hc'
      subst this
      have := e.trans e'.symm
      exact ⟨congrArg Prod.fst this, congrArg Prod.snd this⟩
theorem pl_over (h : LrOk votes k r true) : r.length = votes.length ∧ r.sum = k ∧ overs votes k ≠ [] ∧ ∀ l ∈ overs votes k, (∀ x ∈ overs votes k, l ≤ x) → ∃ most rest, atLeast votes k l = most :: rest ∧ most ∈ rowsOf votes k ∧
    ∀ (i : Nat) (a b c : Int), (flo votes k)[i]? = some a → r[i]? = some b → most[i]? = some c → a ≤ b ∧ b ≤ c := by
  obtain ⟨h1, c, hc, h2, hl, hs, hb⟩ := lr_true hne hpos hk h
  have hrows := rowsOf_eq (k := k) (sum_pos hne hpos)
  refine ⟨hl, hs, ?_, fun l hlm _ => ?_⟩
  · have hm : (upC votes k c).sum ∈ overs votes k := List.mem_map.mpr ⟨_, List.mem_filter.mpr ⟨by rw [hrows]; exact List.mem_cons_of_mem _ (List.mem_map.mpr ⟨c, hc.1, rfl⟩), by simpa using h2⟩, rfl⟩
    intro e
    rw [e] at hm
    exact nomatch hm
  · obtain ⟨row, hrow, rfl⟩ := List.mem_map.mp hlm
    obtain ⟨hr1, hr2⟩ := List.mem_filter.mp hrow
    rw [decide_eq_true_eq] at hr2
    have hm : row ∈ atLeast votes k row.sum := List.mem_filter.mpr ⟨hr1, by simp⟩
    generalize hg : atLeast votes k row.sum = ls at hm
    cases ls with
    | nil => exact nomatch hm
    | cons most rest =>
      have hx : most ∈ atLeast votes k row.sum := by rw [hg]; exact List.mem_cons_self
      obtain ⟨hx1, hx2⟩ := List.mem_filter.mp hx
      rw [decide_eq_true_eq] at hx2
      refine ⟨most, rest, rfl, hx1, fun i a b d ha hb' hd => ?_⟩
      have hi : i < votes.length := by rw [← hl]; exact (List.getElem?_eq_some_iff.mp hb').1
      have hbi := hb i hi
      rw [getD_of ha, getD_of hb'] at hbi
      refine ⟨hbi.1, Int.le_trans hbi.2 ?_⟩
      rw [hrows] at hx1
      rcases List.mem_cons.mp hx1 with rfl | hx1
      · omega
      · obtain ⟨c', _, rfl⟩ := List.mem_map.mp hx1
        rw [← getD_of hd]
        rcases Int.lt_or_le c c' with hlt | hle
        · have := upC_over hc hlt; omega
        · exact upC_le hle hi
theorem rows_head : (rowsOf votes k)[0]? = some (flo votes k) := by
  rw [rowsOf_eq (sum_pos hne hpos)]; rfl
end

theorem readsAll_rows {h : Heap} {ex : List (Addr × Obj)} (hex : ∀ p ∈ ex, h.get? p.1 = some p.2) : ∀ {ys : List Value} {rows : List (List Int)}, (∀ (j : Nat) v p, ys[j]? = some v → rows[j]? = some p → RowAt ex v p) → ys.length = rows.length →
    ∃ as, ReadsAll h ys (rows.map fun row => PyData.list (row.map PyData.int)) as
  | [], [], _, _ => ⟨[], .nil⟩
  | [], _ :: _, _, h => by simp at h
  | _ :: _, [], _, h => by simp at h
  | v :: ys, p :: rows, hr, hl => by
    obtain ⟨as, hA⟩ := readsAll_rows hex (ys := ys) (rows := rows) (fun j v p a b => hr (j + 1) v p (by simpa using a) (by simpa using b)) (by simpa using hl)
    obtain ⟨r, vs, c, rfl, hm, hi⟩ := hr 0 v p (by simp) (by simp)
    have hl : h.IsList r vs.toArray := ⟨_, hex _ hm, rfl, _, rfl⟩
    exact ⟨_, ReadsAll.cons (reads_of_ints hl hi) hA⟩
theorem canLayAll0_rows : ∀ rows : List (List Int), PyData.canLayAll0 (rows.map fun row => PyData.list (row.map PyData.int)) = true
  | [] => by simp [PyData.canLayAll0]
  | n :: r => by simp [PyData.canLayAll0, PyData.canLay0, canLayAll0_rows r, canLayAll0_ints]
theorem depthAll_rows : ∀ rows : List (List Int), PyData.depthAll (rows.map fun row => PyData.list (row.map PyData.int)) ≤ 2
  | [] => by simp [PyData.depthAll]
  | n :: r => by
    have := depthAll_rows r
    have := W.depthAll_ints n
    simp only [List.map_cons, PyData.depthAll, PyData.depth]
    omega
theorem shaped_rows (rows : List (List Int)) : shaped (.list (rows.map fun row => PyData.list (row.map PyData.int))) = true := by
  have h1 := depthAll_rows rows
  have h2 : PyData.depth (.list (rows.map fun row => PyData.list (row.map PyData.int))) ≤ 64 := by simp only [PyData.depth]; omega
  show (PyData.canLay0 (.list (rows.map fun row => PyData.list (row.map PyData.int))) && decide (PyData.depth (.list (rows.map fun row => PyData.list (row.map PyData.int))) ≤ 64)) = true
  rw [Bool.and_eq_true]
  exact ⟨by simp only [PyData.canLay0]; exact canLayAll0_rows rows, decide_eq_true h2⟩
section
variable {prog : Program} {w : World} {A : Around} {E : Value → Shared → Prop} {s : Shared}
/-- a list of rows compared with the empty list -/
theorem eq_rows_nil {h₀ : Heap} {L : Addr} {a b : Addr} {ex : List (Addr × Obj)} {ys : List Value} {rows : List (List Int)} {ca cb : Nat} {Q : Value → Shared → Prop}
    (N : News h₀ L s.heap ex) (ha : (a, PySem.W.listOf ys.toArray ca) ∈ ex) (hR : Rws ex ys rows) (hb : (b, PySem.W.listOf #[] cb) ∈ ex) (hu : A.units + 64 < cLine)
    (h : Q (.bool (decide (rows = []))) s) : wpAny (model prog w) A (compareOp .Eq (.ref a) (.ref b)) Q E s := by
  obtain ⟨as, hA⟩ := readsAll_rows (fun p hp => (N p hp).1) hR.2 hR.1
  have r1 : Reads s.heap (.ref a) (.list (rows.map fun row => PyData.list (row.map PyData.int))) (a :: as) := Reads.list (N _ ha).1 rfl rfl (by simpa using hA)
  have r2 : Reads s.heap (.ref b) (.list (([] : List Int).map PyData.int)) [b] := reads_of_ints ⟨_, (N _ hb).1, rfl, _, rfl⟩ .nil
  refine eq_dataH_same r1 r2 (shaped_rows rows) (shaped_ints []) hu ?_ ?_
  · cases rows <;> simp [noMix, noMixAll]
  · have e : PySem.Spec.same (.list (rows.map fun row => PyData.list (row.map PyData.int))) (.list (([] : List Int).map PyData.int)) = decide (rows = []) := by
      cases rows <;> simp [PySem.Spec.same, PySem.Spec.sameAll]
    rw [e]; exact h
end
theorem map_show {h₀ h : Heap} {L : Addr} {m : Str → Option Value} {a b c d : Str} {va vb vc vd : Option Value} (F : Fr h₀ L h m) (ha : m a = va) (hb : m b = vb) (hc : m c = vc) (hd : m d = vd) :
    Fr h₀ L h (fun y => if y = a then va else if y = b then vb else if y = c then vc else if y = d then vd else m y) := by
  have e : (fun y => if y = a then va else if y = b then vb else if y = c then vc else if y = d then vd else m y) = m := by
    funext y
    split
    · rename_i e; rw [e, ha]
    · split
      · rename_i e; rw [e, hb]
      · split
        · rename_i e; rw [e, hc]
        · split
          · rename_i e; rw [e, hd]
          · rfl
  rw [e]; exact F
theorem rws_at' {ex : List (Addr × Obj)} {ys : List Value} {ps : List (List Int)} (h : Rws ex ys ps) {j : Nat} {v : Value} (hv : ys[j]? = some v) : ∃ p, ps[j]? = some p ∧ RowAt ex v p := by
  have hj : j < ps.length := by rw [← h.1]; exact (List.getElem?_eq_some_iff.mp hv).1
  exact ⟨ps[j], List.getElem?_eq_getElem hj, h.2 j v _ hv (List.getElem?_eq_getElem hj)⟩
theorem take_filter_pos {α : Type} {p : α → Bool} {l : List α} {i : Nat} {x : α} (h : l[i]? = some x) (hp : p x = true) : (l.take (i + 1)).filter p = (l.take i).filter p ++ [x] := by
  rw [List.take_add_one, h, List.filter_append]; simp [hp]
theorem take_filter_neg {α : Type} {p : α → Bool} {l : List α} {i : Nat} {x : α} (h : l[i]? = some x) (hp : p x = false) : (l.take (i + 1)).filter p = (l.take i).filter p := by
  rw [List.take_add_one, h, List.filter_append]; simp [hp]
end Mine

namespace Mine
open PySem.Calls PySem.Spec

abbrev IsTrip (h : Heap) (T : Addr) (a b c : Value) : Prop := h.get? T = some { cls := .type "tuple", data := .seq #[a, b, c] }

section
variable {prog : Program} {w : World} {A : Around} {E : Value → Shared → Prop} {s : Shared}

theorem updateSeq_trip {T : Addr} {a b c x : Value} {k : Nat} {Q : Unit → Shared → Prop} (hT : IsTrip s.heap T a b c)
    (h : ∀ h', h'.get? T = some { cls := .type "tuple", data := .seq ((#[a, b, c] : Array Value).setIfInBounds k x) } → Heap.SameBut T s.heap h' → Q () { s with heap := h' }) :
    wpAny (model prog w) A (updateSeq T (·.setIfInBounds k x)) Q E s := by
  refine wpAny_updateSeq hT rfl (h _ ?_ (Heap.SameBut.update ..))
  rw [Heap.get?_update_self _ hT rfl]
  simp [Obj.mapSeq]


theorem zip3_item {I l1 l2 l3 : Nat} {k : Nat} {xs ys zs : Array Value} {x y v a b c : Value} {Q : Value → Shared → Prop} (L1 : l1 < I) (L2 : l2 < I) (L3 : l3 < I)
    (hz : IsZip s.heap (I + 5) (I + 3) (I + 4) .none) (hTI : IsTrip s.heap (I + 3) (.ref I) (.ref (I + 1)) (.ref (I + 2))) (hTO : IsTrip s.heap (I + 4) a b c)
    (h1 : s.heap.IsListIter I l1 k) (h2 : s.heap.IsListIter (I + 1) l2 k) (h3 : s.heap.IsListIter (I + 2) l3 k) (hl1 : s.heap.IsList l1 xs) (hl2 : s.heap.IsList l2 ys) (hl3 : s.heap.IsList l3 zs)
    (hx : xs[k]? = some x) (hy : ys[k]? = some y) (hv : zs[k]? = some v)
    (hQ : ∀ h', IsZip h' (I + 5) (I + 3) (I + 4) (rawInt s.heap.objs.size) → IsTrip h' (I + 4) x y v → h'.IsListIter I l1 (k + 1) → h'.IsListIter (I + 1) l2 (k + 1) → h'.IsListIter (I + 2) l3 (k + 1) → IsTrip h' s.heap.objs.size x y v →
      (∀ d o, d ≠ I + 5 → d ≠ I + 4 → d ≠ I → d ≠ I + 1 → d ≠ I + 2 → s.heap.get? d = some o → h'.get? d = some o) → Q (.ref s.heap.objs.size) { s with heap := h' }) :
    wpAny (model prog w) A (Builtin.«zip.__next__» ⟨[.ref (I + 5)], []⟩) (fun fin s' => ∃ v, fin = .done (.ret v) ∧ Q v s') E s := by
  show wpAny _ _ (field (.ref (I + 5)) 2 >>= _) _ _ _
  refine wpAny_bind (wpAny_field hz rfl (x := .bool false) rfl ?_)
  show wpAny _ _ (field (.ref (I + 5)) 3 >>= _) _ _ _
  refine wpAny_bind (wpAny_field hz rfl (x := .ref (I + 3)) rfl ?_)
  refine wpAny_bind (wpAny_seqItems hTI rfl ?_)
  show wpAny _ _ (Builtin.SmallTypes.ownedTupleIsFree (.ref (I + 5)) >>= _) _ _ _
  refine wpAny_bind ?_
  unfold Builtin.SmallTypes.ownedTupleIsFree
  refine wpAny_bind (wpAny_field hz rfl (x := .none) rfl (wpAny_pure ?_))
  simp only [if_true]
  refine wpAny_bind (wpAny_rule ?_)
  refine wpAny_bind (wpAny_field hz rfl (x := .ref (I + 4)) rfl ?_)
  refine wpAny_bind (wpAny_setField_rec hz (by simp) fun h₁ hz₁ hs₁ => ?_)
  replace hz₁ : IsZip h₁ (I + 5) (I + 3) (I + 4) .ellipsis := hz₁
  refine wpAny_bind ?_
  simp only [List.zipIdx_cons, List.zipIdx_nil, List.forIn_cons, List.forIn_nil]
  refine wpAny_bind (wpAny_bind (wpAny_onRaise ?_))
  show wpAny _ _ (Builtin.SmallTypes.nextOf (.ref I) >>= _) _ _ _
  refine wpAny_bind (wpAny_nextOf_list_item (h1.extBut hs₁.extBut (by (refine neN ?_; omega))) (hl1.extBut hs₁.extBut (by (refine neN ?_; omega))) hx fun h₂ h1₂ hs₂ => wpAny_pure ?_)
  have hTO₂ : IsTrip h₂ (I + 4) a b c := hs₂.extBut _ _ (by (refine neN ?_; omega)) (hs₁.extBut _ _ (by (refine neN ?_; omega)) hTO)
  refine wpAny_bind (wpAny_seqItems hTO₂ rfl ?_)
  refine wpAny_bind (updateSeq_trip hTO₂ fun h₃ hTO₃ hs₃ => ?_)
  replace hTO₃ : IsTrip h₃ (I + 4) x b c := hTO₃
  refine wpAny_bind (wpAny_letGo (wpAny_pure ?_))
  have e3 : ∀ d o, d ≠ I + 5 → d ≠ I + 4 → d ≠ I → s.heap.get? d = some o → h₃.get? d = some o := fun d o d1 d2 d3 e => hs₃.extBut _ _ d2 (hs₂.extBut _ _ d3 (hs₁.extBut _ _ d1 e))
  refine wpAny_bind (wpAny_bind (wpAny_onRaise ?_))
  show wpAny _ _ (Builtin.SmallTypes.nextOf (.ref (I + 1)) >>= _) _ _ _
  refine wpAny_bind (wpAny_nextOf_list_item (h2.at fun o e => e3 _ o (by (refine neN ?_; omega)) (by (refine neN ?_; omega)) (by (refine neN ?_; omega)) e) (hl2.at fun o e => e3 _ o (by (refine neN ?_; omega)) (by (refine neN ?_; omega)) (by (refine neN ?_; omega)) e) hy fun h₄ h2₄ hs₄ => wpAny_pure ?_)
  have hTO₄ : IsTrip h₄ (I + 4) x b c := hs₄.extBut _ _ (by (refine neN ?_; omega)) hTO₃
  refine wpAny_bind (wpAny_seqItems hTO₄ rfl ?_)
  refine wpAny_bind (updateSeq_trip hTO₄ fun h₅ hTO₅ hs₅ => ?_)
  replace hTO₅ : IsTrip h₅ (I + 4) x y c := hTO₅
  refine wpAny_bind (wpAny_letGo (wpAny_pure ?_))
  have e5 : ∀ d o, d ≠ I + 5 → d ≠ I + 4 → d ≠ I → d ≠ I + 1 → s.heap.get? d = some o → h₅.get? d = some o := fun d o d1 d2 d3 d4 e => hs₅.extBut _ _ d2 (hs₄.extBut _ _ d4 (e3 d o d1 d2 d3 e))
  refine wpAny_bind (wpAny_bind (wpAny_onRaise ?_))
  show wpAny _ _ (Builtin.SmallTypes.nextOf (.ref (I + 2)) >>= _) _ _ _
  refine wpAny_bind (wpAny_nextOf_list_item (h3.at fun o e => e5 _ o (by (refine neN ?_; omega)) (by (refine neN ?_; omega)) (by (refine neN ?_; omega)) (by (refine neN ?_; omega)) e) (hl3.at fun o e => e5 _ o (by (refine neN ?_; omega)) (by (refine neN ?_; omega)) (by (refine neN ?_; omega)) (by (refine neN ?_; omega)) e) hv fun h₆ h3₆ hs₆ => wpAny_pure ?_)
  have hTO₆ : IsTrip h₆ (I + 4) x y c := hs₆.extBut _ _ (by (refine neN ?_; omega)) hTO₅
  refine wpAny_bind (wpAny_seqItems hTO₆ rfl ?_)
  refine wpAny_bind (updateSeq_trip hTO₆ fun h₇ hTO₇ hs₇ => ?_)
  replace hTO₇ : IsTrip h₇ (I + 4) x y v := hTO₇
  refine wpAny_bind (wpAny_letGo (wpAny_pure (wpAny_pure ?_)))
  have e7 : ∀ d o, d ≠ I + 5 → d ≠ I + 4 → d ≠ I → d ≠ I + 1 → d ≠ I + 2 → s.heap.get? d = some o → h₇.get? d = some o := fun d o d1 d2 d3 d4 d5 e => hs₇.extBut _ _ d2 (hs₆.extBut _ _ d5 (e5 d o d1 d2 d3 d4 e))
  refine wpAny_bind (wpAny_seqItems hTO₇ rfl ?_)
  refine wpAny_bind (wpAny_newTuple ?_)
  have hsz : h₇.objs.size = s.heap.objs.size := by rw [hs₇.1, hs₆.1, hs₅.1, hs₄.1, hs₃.1, hs₂.1, hs₁.1]
  have hz₇ : IsZip h₇ (I + 5) (I + 3) (I + 4) .ellipsis := hs₇.extBut _ _ (by (refine neN ?_; omega)) (hs₆.extBut _ _ (by (refine neN ?_; omega)) (hs₅.extBut _ _ (by (refine neN ?_; omega)) (hs₄.extBut _ _ (by (refine neN ?_; omega)) (hs₃.extBut _ _ (by (refine neN ?_; omega)) (hs₂.extBut _ _ (by (refine neN ?_; omega)) hz₁)))))
  have h1₇ : h₇.IsListIter I l1 (k + 1) := ((((h1₂.extBut hs₃.extBut (by (refine neN ?_; omega))).extBut hs₄.extBut (by (refine neN ?_; omega))).extBut hs₅.extBut (by (refine neN ?_; omega))).extBut hs₆.extBut (by (refine neN ?_; omega))).extBut hs₇.extBut (by (refine neN ?_; omega))
  have h2₇ : h₇.IsListIter (I + 1) l2 (k + 1) := ((h2₄.extBut hs₅.extBut (by (refine neN ?_; omega))).extBut hs₆.extBut (by (refine neN ?_; omega))).extBut hs₇.extBut (by (refine neN ?_; omega))
  have h3₇ : h₇.IsListIter (I + 2) l3 (k + 1) := h3₆.extBut hs₇.extBut (by (refine neN ?_; omega))
  have hzlt : I + 5 < h₇.objs.size := Heap.lt_size hz₇
  show wpAny _ _ (Builtin.SmallTypes.ownedTupleHandOut (.ref (I + 5)) (.ref h₇.objs.size) >>= _) _ _ _
  refine wpAny_bind ?_
  unfold Builtin.SmallTypes.ownedTupleHandOut
  have hz₈ : IsZip (h₇.push { cls := .type "tuple", data := .seq #[x, y, v] }) (I + 5) (I + 3) (I + 4) .ellipsis := Heap.get?_push_of_some _ hz₇
  refine wpAny_bind (wpAny_setField_rec hz₈ (by simp) fun h₉ hz₉ hs₉ => ?_)
  replace hz₉ : IsZip h₉ (I + 5) (I + 3) (I + 4) (rawInt h₇.objs.size) := hz₉
  refine wpAny_setField_rec hz₉ (by simp) fun h₁₀ hz₁₀ hs₁₀ => ?_
  replace hz₁₀ : IsZip h₁₀ (I + 5) (I + 3) (I + 4) (rawInt h₇.objs.size) := hz₁₀
  have up : ∀ d o, d ≠ I + 5 → h₇.get? d = some o → h₁₀.get? d = some o := fun d o d1 e => hs₁₀.extBut _ _ d1 (hs₉.extBut _ _ d1 (Heap.get?_push_of_some _ e))
  have hT₁₀ : IsTrip h₁₀ h₇.objs.size x y v := hs₁₀.extBut _ _ (Nat.ne_of_gt hzlt) (hs₉.extBut _ _ (Nat.ne_of_gt hzlt) (Heap.get?_push_size _ rfl))
  rw [hsz] at hz₁₀ hT₁₀
  refine wpAny_pure ⟨_, rfl, ?_⟩
  show Q (.ref h₇.objs.size) _
  rw [hsz]
  exact hQ h₁₀ hz₁₀ (up _ _ (by (refine neN ?_; omega)) hTO₇) (h1₇.at fun o e => up _ o (by (refine neN ?_; omega)) e) (h2₇.at fun o e => up _ o (by (refine neN ?_; omega)) e) (h3₇.at fun o e => up _ o (by (refine neN ?_; omega)) e) hT₁₀
    fun d o d1 d2 d3 d4 d5 e => up d o d1 (e7 d o d1 d2 d3 d4 d5 e)

theorem zip3_end {I l1 : Nat} {k : Nat} {xs : Array Value} {b c : Value} {TI TO : Addr} {Q : Fin → Shared → Prop} (hh : A.handled = none) (L1 : l1 < I)
    (hz : IsZip s.heap (I + 5) TI TO .none) (hTI : IsTrip s.heap TI (.ref I) b c) (h1 : s.heap.IsListIter I l1 k) (hl1 : s.heap.IsList l1 xs) (hend : xs[k]? = none)
    (hE : ∀ h' e, (∀ d o, d ≠ I + 5 → d ≠ I → s.heap.get? d = some o → h'.get? d = some o) → (∃ o, h'.get? e = some o ∧ o.cls = .type "StopIteration") → E (.ref e) { s with heap := h' }) :
    wpAny (model prog w) A (Builtin.«zip.__next__» ⟨[.ref (I + 5)], []⟩) Q E s := by
  show wpAny _ _ (field (.ref (I + 5)) 2 >>= _) _ _ _
  refine wpAny_bind (wpAny_field hz rfl (x := .bool false) rfl ?_)
  show wpAny _ _ (field (.ref (I + 5)) 3 >>= _) _ _ _
  refine wpAny_bind (wpAny_field hz rfl (x := .ref TI) rfl ?_)
  refine wpAny_bind (wpAny_seqItems hTI rfl ?_)
  show wpAny _ _ (Builtin.SmallTypes.ownedTupleIsFree (.ref (I + 5)) >>= _) _ _ _
  refine wpAny_bind ?_
  unfold Builtin.SmallTypes.ownedTupleIsFree
  refine wpAny_bind (wpAny_field hz rfl (x := .none) rfl (wpAny_pure ?_))
  simp only [if_true]
  refine wpAny_bind (wpAny_rule ?_)
  refine wpAny_bind (wpAny_field hz rfl (x := .ref TO) rfl ?_)
  refine wpAny_bind (wpAny_setField_rec hz (by simp) fun h₁ hz₁ hs₁ => ?_)
  replace hz₁ : IsZip h₁ (I + 5) TI TO .ellipsis := hz₁
  refine wpAny_bind ?_
  simp only [List.zipIdx_cons, List.zipIdx_nil, List.forIn_cons, List.forIn_nil]
  refine wpAny_bind (wpAny_bind (wpAny_onRaise ?_))
  show wpAny _ _ (Builtin.SmallTypes.nextOf (.ref I) >>= _) _ _ _
  refine wpAny_bind (wpAny_nextOf_list_end hh (h1.extBut hs₁.extBut (by (refine neN ?_; omega))) (hl1.extBut hs₁.extBut (by (refine neN ?_; omega))) hend fun h₂ e hs₂ he => ?_)
  obtain ⟨oe, hoe, hce⟩ := he
  have hz₂ : IsZip h₂ (I + 5) TI TO .ellipsis := hs₂ _ _ (by (refine neN ?_; omega)) hz₁
  have hez : e ≠ I + 5 := fun x => by subst x; rw [hz₂] at hoe; cases hoe; simp at hce
  exact wpAny_setField_rec hz₂ (by simp) fun h₃ _ hs₃ => hE h₃ e (fun d o d1 d3 x => hs₃.extBut _ _ d1 (hs₂ _ _ d3 (hs₁.extBut _ _ d1 x))) ⟨oe, hs₃.extBut _ _ hez hoe, hce⟩

theorem walks_zip3 (hh : A.handled = none) (I l1 l2 l3 : Nat) (L1 : l1 < I) (L2 : l2 < I) (L3 : l3 < I) (xs ys zs : Array Value) (n : Nat) (n1 : xs.size = n) (n2 : ys.size = n) (n3 : zs.size = n) :
    WalksU prog w A (I + 5) [I + 5, I + 3, I + 4, I, I + 1, I + 2, l1, l2, l3] [I + 5, I + 4, I, I + 1, I + 2] n
      (fun i vals => ∃ x y v, xs[i]? = some x ∧ ys[i]? = some y ∧ zs[i]? = some v ∧ vals = #[x, y, v])
      (fun i h => IsZip h (I + 5) (I + 3) (I + 4) .none ∧ IsTrip h (I + 3) (.ref I) (.ref (I + 1)) (.ref (I + 2)) ∧ (∃ a b c, IsTrip h (I + 4) a b c) ∧ h.IsListIter I l1 i ∧ h.IsListIter (I + 1) l2 i ∧ h.IsListIter (I + 2) l3 i ∧ h.IsList l1 xs ∧ h.IsList l2 ys ∧ h.IsList l3 zs)
      (fun i T h => IsZip h (I + 5) (I + 3) (I + 4) (rawInt T) ∧ IsTrip h (I + 3) (.ref I) (.ref (I + 1)) (.ref (I + 2)) ∧ (∃ a b c, IsTrip h (I + 4) a b c) ∧ h.IsListIter I l1 (i + 1) ∧ h.IsListIter (I + 1) l2 (i + 1) ∧ h.IsListIter (I + 2) l3 (i + 1) ∧ h.IsList l1 xs ∧ h.IsList l2 ys ∧ h.IsList l3 zs ∧
        @LT.lt Nat _ (I + 5) T) where
  sub := fun c hc => by simp at hc ⊢; rcases hc with rfl | rfl | rfl | rfl | rfl <;> simp
  frame := fun i h h' hst hk => by
    obtain ⟨hz, hTI, ⟨a, b, c, hTO⟩, h1, h2, h3, hl1, hl2, hl3⟩ := hst
    exact ⟨hk (I + 5) (by simp) _ hz, hk (I + 3) (by simp) _ hTI, ⟨a, b, c, hk (I + 4) (by simp) _ hTO⟩, h1.at fun o e => hk I (by simp) o e, h2.at fun o e => hk (I + 1) (by simp) o e, h3.at fun o e => hk (I + 2) (by simp) o e,
      hl1.at fun o e => hk l1 (by simp) o e, hl2.at fun o e => hk l2 (by simp) o e, hl3.at fun o e => hk l3 (by simp) o e⟩
  item := fun i s Q E hi hst hQ => by
    obtain ⟨hz, hTI, ⟨a, b, c, hTO⟩, h1, h2, h3, hl1, hl2, hl3⟩ := hst
    have g1 : xs[i]? = some xs[i] := Array.getElem?_eq_getElem (n1 ▸ hi)
    have g2 : ys[i]? = some ys[i] := Array.getElem?_eq_getElem (n2 ▸ hi)
    have g3 : zs[i]? = some zs[i] := Array.getElem?_eq_getElem (n3 ▸ hi)
    have hT : s.TypeIs (.ref (I + 5)) "zip" := ⟨_, hz, rfl⟩
    have hzlt : I + 5 < s.heap.objs.size := Heap.lt_size hz
    unfold pyNext
    refine wpAny_bind (wpAny_attempt (wpAny_callSpecial?_slot (name := Str.ofString "__next__") hT F.slot_zip_next
      (wpAny_call_entry F.slot_zip_next hT F.entry_zip_next
        (zip3_item L1 L2 L3 hz hTI hTO h1 h2 h3 hl1 hl2 hl3 g1 g2 g3 fun h' a1 a2 a3 a4 a5 a6 hk => wpAny_pure ?_) (F.args_zip_next_1 _))))
    exact hQ s.heap.objs.size #[xs[i], ys[i], zs[i]] h' s.toks ⟨_, _, _, g1, g2, g3, rfl⟩ ⟨_, a6, rfl, _, rfl⟩
      ⟨a1, hk _ _ (by (refine neN ?_; omega)) (by (refine neN ?_; omega)) (by (refine neN ?_; omega)) (by (refine neN ?_; omega)) (by (refine neN ?_; omega)) hTI, ⟨_, _, _, a2⟩, a3, a4, a5, hl1.at fun o e => hk _ o (by (refine neN ?_; omega)) (by (refine neN ?_; omega)) (by (refine neN ?_; omega)) (by (refine neN ?_; omega)) (by (refine neN ?_; omega)) e, hl2.at fun o e => hk _ o (by (refine neN ?_; omega)) (by (refine neN ?_; omega)) (by (refine neN ?_; omega)) (by (refine neN ?_; omega)) (by (refine neN ?_; omega)) e,
        hl3.at fun o e => hk _ o (by (refine neN ?_; omega)) (by (refine neN ?_; omega)) (by (refine neN ?_; omega)) (by (refine neN ?_; omega)) (by (refine neN ?_; omega)) e, hzlt⟩
      fun c o hc e => hk c o (fun x => hc (by simp [x])) (fun x => hc (by simp [x])) (fun x => hc (by simp [x])) (fun x => hc (by simp [x])) (fun x => hc (by simp [x])) e
  go := fun elts k pos i T s Q E hm hQ => by
    obtain ⟨hz, hTI, ⟨a, b, c, hTO⟩, h1, h2, h3, hl1, hl2, hl3, _⟩ := hm
    refine wpAny_letOwnedTupleGo_zip hz fun h' hz' hs' => hQ h' ⟨hz', hs'.extBut _ _ (by (refine neN ?_; omega)) hTI, ⟨a, b, c, hs'.extBut _ _ (by (refine neN ?_; omega)) hTO⟩, h1.extBut hs'.extBut (by (refine neN ?_; omega)), h2.extBut hs'.extBut (by (refine neN ?_; omega)), h3.extBut hs'.extBut (by (refine neN ?_; omega)),
      hl1.extBut hs'.extBut (by (refine neN ?_; omega)), hl2.extBut hs'.extBut (by (refine neN ?_; omega)), hl3.extBut hs'.extBut (by (refine neN ?_; omega))⟩ fun c o hc e => hs'.extBut _ _ (fun x => hc (by simp [x])) e
  apart := fun i T h hm hT => by
    obtain ⟨_, _, _, _, _, _, _, _, _, t1⟩ := hm
    have hT' : T = I + 5 ∨ T = I + 4 ∨ T = I ∨ T = I + 1 ∨ T = I + 2 := by simpa using hT
    have hT2 : @Eq Nat T (I + 5) ∨ @Eq Nat T (I + 4) ∨ @Eq Nat T I ∨ @Eq Nat T (I + 1) ∨ @Eq Nat T (I + 2) := hT'
    omega
  done := fun s Q E hst hQ => by
    obtain ⟨hz, hTI, ⟨a, b, c, hTO⟩, h1, h2, h3, hl1, hl2, hl3⟩ := hst
    have hend : xs[n]? = none := Array.getElem?_eq_none (by omega)
    have hT : s.TypeIs (.ref (I + 5)) "zip" := ⟨_, hz, rfl⟩
    unfold pyNext
    refine wpAny_bind (wpAny_attempt (wpAny_callSpecial?_slot (name := Str.ofString "__next__") hT F.slot_zip_next
      (wpAny_call_entry F.slot_zip_next hT F.entry_zip_next (zip3_end hh L1 hz hTI h1 hl1 hend fun h' e hk he => ?_) (F.args_zip_next_1 _))))
    obtain ⟨o, ho, hc⟩ := he
    refine wpAny_bind (wpAny_isInstance (T := "StopIteration") (b := true) ⟨o, ho, hc⟩ isSubtype_stop ?_)
    exact wpAny_pure (hQ h' s.toks fun c o hc e => hk c o (fun x => hc (by simp [x])) (fun x => hc (by simp [x])) e)
  self := fun i s Q E hst hQ => wpAny_pyIter_zip hst.1 hQ

end

theorem typeCall_zip_3 (a b c : Value) : checkTypeCall "zip" ⟨[a, b, c], []⟩ = pure () := by kernel_rfl
theorem newCall_zip_3 (a b c : Value) : checkBuiltinCall "zip.__new__" ⟨[.type "zip", a, b, c], []⟩ = pure () := by kernel_rfl
theorem args_object_init_4 (a b c d : Value) : argsOk "object.__init__" ⟨[a, b, c, d], []⟩ := by
  unfold argsOk; rw [signature?_of (id := "object.__init__") (n := ['_', '_', 't', 'i', 'n', 'i', '_', '_']) (o := ['t', 'c', 'e', 'j', 'b', 'o']) (by kernel_rfl) F.owner_object]; kernel_rfl

abbrev z3a (h : Heap) (l1 : Addr) : Heap := h.push { cls := .type "list_iterator", data := .fields #[.ref l1, .int 0 0] }
abbrev z3b (h : Heap) (l1 l2 : Addr) : Heap := (z3a h l1).push { cls := .type "list_iterator", data := .fields #[.ref l2, .int 0 0] }
abbrev z3c (h : Heap) (l1 l2 l3 : Addr) : Heap := (z3b h l1 l2).push { cls := .type "list_iterator", data := .fields #[.ref l3, .int 0 0] }
abbrev z3d (h : Heap) (l1 l2 l3 : Addr) : Heap := (z3c h l1 l2 l3).push { cls := .type "tuple", data := .seq #[.ref h.objs.size, .ref (z3a h l1).objs.size, .ref (z3b h l1 l2).objs.size] }
abbrev z3e (h : Heap) (l1 l2 l3 : Addr) : Heap := (z3d h l1 l2 l3).push { cls := .type "tuple", data := .seq #[.none, .none, .none] }
abbrev z3f (h : Heap) (l1 l2 l3 : Addr) : Heap := (z3e h l1 l2 l3).push { cls := .type "zip", data := .fields #[.none, .bool false, .bool false, .ref (z3c h l1 l2 l3).objs.size, .ref (z3d h l1 l2 l3).objs.size] }

set_option maxHeartbeats 4000000 in
theorem meets_zip3 (l1 l2 l3 : Addr) (xs ys zs : Array Value) :
    Meets (Builtin.«zip.__new__» ⟨[.type "zip", .ref l1, .ref l2, .ref l3], []⟩) (fun _ R s => s.heap.IsList l1 xs ∧ s.heap.IsList l2 ys ∧ s.heap.IsList l3 zs ∧
      R (.ok (.ret (.ref (z3e s.heap l1 l2 l3).objs.size))) { s with heap := z3f s.heap l1 l2 l3 }) :=
  .of_wp fun prog w A R s h => by
    obtain ⟨hp, g, d, tk, os⟩ := s; obtain ⟨hl1, hl2, hl3, h⟩ := h
    have hsub := sub_zip
    have hL1 : Heap.IsList (Shared.heap ⟨hp, g, d, tk, os⟩) l1 xs := hl1
    have hL2 : Heap.IsList (Shared.heap ⟨hp.push { cls := .type "list_iterator", data := .fields #[.ref l1, .int 0 0] }, g, d, tk, os⟩) l2 ys := Heap.IsList.push hl2 _
    have hL3 : Heap.IsList (Shared.heap ⟨(hp.push { cls := .type "list_iterator", data := .fields #[.ref l1, .int 0 0] }).push { cls := .type "list_iterator", data := .fields #[.ref l2, .int 0 0] }, g, d, tk, os⟩) l3 zs := Heap.IsList.push (Heap.IsList.push hl3 _) _
    wp_walk using wpAny_pyIter_list hL1, wpAny_pyIter_list hL2, wpAny_pyIter_list hL3
    exact ⟨_, rfl, h⟩
end Mine

namespace Mine
open PySem.Calls PySem.Spec

section
variable {prog : Program} {w : World} {A : Around} {E : Value → Shared → Prop} {s : Shared}

theorem call_zip3 {l1 l2 l3 : Addr} {xs ys zs : Array Value} {Q : Value → Shared → Prop} (hl1 : s.heap.IsList l1 xs) (hl2 : s.heap.IsList l2 ys) (hl3 : s.heap.IsList l3 zs)
    (h : ∀ h', IsZip h' (s.heap.objs.size + 5) (s.heap.objs.size + 3) (s.heap.objs.size + 4) .none → IsTrip h' (s.heap.objs.size + 3) (.ref s.heap.objs.size) (.ref (s.heap.objs.size + 1)) (.ref (s.heap.objs.size + 2)) →
      IsTrip h' (s.heap.objs.size + 4) .none .none .none → h'.IsListIter s.heap.objs.size l1 0 → h'.IsListIter (s.heap.objs.size + 1) l2 0 → h'.IsListIter (s.heap.objs.size + 2) l3 0 →
      (∀ c o, s.heap.get? c = some o → h'.get? c = some o) → Q (.ref (s.heap.objs.size + 5)) { s with heap := h' }) :
    wpAny (model prog w) A (call (.type "zip") [.ref l1, .ref l2, .ref l3]) Q E s := by
  refine callType_new F.called_zip (by decide) (typeCall_zip_3 _ _ _) (newCall_zip_3 _ _ _) (fun obj => args_object_init_4 obj _ _ _) F.entry_zip_new
    (meets_zip3 l1 l2 l3 xs ys zs) ⟨hl1, hl2, hl3, ?_⟩
  have z1 : (z3a s.heap l1).objs.size = s.heap.objs.size + 1 := Heap.size_push ..
  have z2 : (z3b s.heap l1 l2).objs.size = s.heap.objs.size + 2 := by rw [Heap.size_push, z1]
  have z3 : (z3c s.heap l1 l2 l3).objs.size = s.heap.objs.size + 3 := by rw [Heap.size_push, z2]
  have z4 : (z3d s.heap l1 l2 l3).objs.size = s.heap.objs.size + 4 := by rw [Heap.size_push, z3]
  have z5 : (z3e s.heap l1 l2 l3).objs.size = s.heap.objs.size + 5 := by rw [Heap.size_push, z4]
  have g6 : (z3f s.heap l1 l2 l3).get? (z3e s.heap l1 l2 l3).objs.size = some _ := Heap.get?_push_size _ rfl
  have g5 : (z3f s.heap l1 l2 l3).get? (z3d s.heap l1 l2 l3).objs.size = some _ := Heap.get?_push_of_some _ (Heap.get?_push_size _ rfl)
  have g4 : (z3f s.heap l1 l2 l3).get? (z3c s.heap l1 l2 l3).objs.size = some _ := Heap.get?_push_of_some _ (Heap.get?_push_of_some _ (Heap.get?_push_size _ rfl))
  have g3 : (z3f s.heap l1 l2 l3).get? (z3b s.heap l1 l2).objs.size = some _ := Heap.get?_push_of_some _ (Heap.get?_push_of_some _ (Heap.get?_push_of_some _ (Heap.get?_push_size _ rfl)))
  have g2 : (z3f s.heap l1 l2 l3).get? (z3a s.heap l1).objs.size = some _ := Heap.get?_push_of_some _ (Heap.get?_push_of_some _ (Heap.get?_push_of_some _ (Heap.get?_push_of_some _ (Heap.get?_push_size _ rfl))))
  have g1 : (z3f s.heap l1 l2 l3).get? s.heap.objs.size = some _ := Heap.get?_push_of_some _ (Heap.get?_push_of_some _ (Heap.get?_push_of_some _ (Heap.get?_push_of_some _ (Heap.get?_push_of_some _ (Heap.get?_push_size _ rfl)))))
  show _ ∧ _
  rw [z3, z4, z5] at g6
  rw [z4] at g5
  rw [z3, z1, z2] at g4
  rw [z2] at g3
  rw [z1] at g2
  rw [z5]
  exact ⟨⟨_, g6, rfl⟩, h _ g6 g4 g5 ⟨_, g1, rfl, rfl⟩ ⟨_, g2, rfl, rfl⟩ ⟨_, g3, rfl, rfl⟩ fun c o x =>
    Heap.get?_push_of_some _ (Heap.get?_push_of_some _ (Heap.get?_push_of_some _ (Heap.get?_push_of_some _ (Heap.get?_push_of_some _ (Heap.get?_push_of_some _ x)))))⟩

variable {h₀ : Heap} {env : Env} {m : Str → Option Value} {news : List (Addr × Obj)} {elts : List PySem.Expr} {kk : Nat} {pos : Pos} {body : List Stmt} {Q : Flow → Shared → Prop}

def ZipTurn (h₀ : Heap) (L : Addr) (news : List (Addr × Obj)) (s : Shared) (f : Flow) (s' : Shared) : Prop :=
  f = .next ∧ ∃ h' tk' m', s' = { s with heap := h', toks := tk' } ∧ Fr h₀ L h' m' ∧ News h₀ L h' news
theorem zip3_turns {l1 l2 l3 : Addr} {lo1 lo2 lo3 : Obj} {xs ys zs : List Value} {n1 n2 n3 n : Nat}
    (hh : A.handled = none) (F : Fr h₀ env.locals s.heap m) (N : News h₀ env.locals s.heap news)
    (hm1 : (l1, lo1) ∈ news) (hc1 : lo1.cls = .type "list") (hd1 : lo1.data = .seq xs.toArray n1) (hm2 : (l2, lo2) ∈ news) (hc2 : lo2.cls = .type "list") (hd2 : lo2.data = .seq ys.toArray n2)
    (hm3 : (l3, lo3) ∈ news) (hc3 : lo3.cls = .type "list") (hd3 : lo3.data = .seq zs.toArray n3) (e1 : xs.length = n) (e2 : ys.length = n) (e3 : zs.length = n)
    (turn : ∀ (i : Nat) a b c T m₁ h tk own, xs[i]? = some a → ys[i]? = some b → zs[i]? = some c → IsTup h T #[a, b, c] → Fr h₀ env.locals h m₁ → News h₀ env.locals h (news ++ own) →
      wpAny (model prog w) A (assign (.Tuple elts kk pos) env (.ref T)) (fun _ s₂ => wpAny (model prog w) A (execs body env)
        (ZipTurn h₀ env.locals (news ++ own) s) E s₂) E { s with heap := h, toks := tk })
    (done : ∀ h tk m', Fr h₀ env.locals h m' → News h₀ env.locals h news → Q .next { s with heap := h, toks := tk }) :
    wpAny (model prog w) A (call (.type "zip") [.ref l1, .ref l2, .ref l3]) (fun xv s₁ => wpAny (model prog w) A (pyIter xv) (fun it s₂ => TurnsAt prog w A h₀ env (.Tuple elts kk pos) body Q E it s₂) E s₁) E s := by
  have hax1 := N _ hm1
  have hax2 := N _ hm2
  have hax3 := N _ hm3
  have hl1 : s.heap.IsList l1 xs.toArray := ⟨lo1, hax1.1, hc1, n1, hd1⟩
  have hl2 : s.heap.IsList l2 ys.toArray := ⟨lo2, hax2.1, hc2, n2, hd2⟩
  have hl3 : s.heap.IsList l3 zs.toArray := ⟨lo3, hax3.1, hc3, n3, hd3⟩
  have hLs : @LT.lt Nat _ env.locals s.heap.objs.size := F.ns.lt
  have hnl : ∀ p ∈ news, @LT.lt Nat _ p.1 s.heap.objs.size := fun p hp => Heap.lt_size (N p hp).1
  have hL1 := hnl _ hm1
  have hL2 := hnl _ hm2
  have hL3 := hnl _ hm3
  refine call_zip3 hl1 hl2 hl3 fun h' hz hTI hTO hi1 hi2 hi3 hk => ?_
  refine wpAny_pyIter_zip hz ?_
  have W := KTurns.ofWalksU (elts := elts) (k := kk) (pos := pos) ((walks_zip3 (prog := prog) (w := w) hh s.heap.objs.size l1 l2 l3 hL1 hL2 hL3 xs.toArray ys.toArray zs.toArray n (by simpa using e1) (by simpa using e2) (by simpa using e3)))
  have nnew : ∀ k : Nat, h₀.get? (s.heap.objs.size + k) = none := fun k => ktu_new F (Nat.le_add_right _ _)
  refine ⟨s.heap.objs.size + 5, _, _, n, _, _, _, m, news, fun _ _ nw => nw = news, rfl, W, ?_, ?_, ?_,
    ⟨hz, hTI, ⟨_, _, _, hTO⟩, hi1, hi2, hi3, hl1.at fun o e => hk _ o e, hl2.at fun o e => hk _ o e, hl3.at fun o e => hk _ o e⟩, F.keeps hk, N.grown hk, rfl, ?_, ?_⟩
  · intro hb
    have hb' : @Eq Nat env.locals (s.heap.objs.size + 5) ∨ @Eq Nat env.locals (s.heap.objs.size + 3) ∨ @Eq Nat env.locals (s.heap.objs.size + 4) ∨ @Eq Nat env.locals s.heap.objs.size ∨ @Eq Nat env.locals (s.heap.objs.size + 1) ∨ @Eq Nat env.locals (s.heap.objs.size + 2) ∨ env.locals = l1 ∨ env.locals = l2 ∨ env.locals = l3 := by simpa using hb
    rcases hb' with e | e | e | e | e | e | e | e | e
    · omega
    · omega
    · omega
    · omega
    · omega
    · omega
    · exact hax1.2.1 e.symm
    · exact hax2.2.1 e.symm
    · exact hax3.2.1 e.symm
  · intro b hb
    have hb' : b = s.heap.objs.size + 5 ∨ b = s.heap.objs.size + 4 ∨ b = s.heap.objs.size ∨ b = s.heap.objs.size + 1 ∨ b = s.heap.objs.size + 2 := by simpa using hb
    rcases hb' with rfl | rfl | rfl | rfl | rfl
    · exact nnew 5
    · exact nnew 4
    · exact nnew 0
    · exact nnew 1
    · exact nnew 2
  · intro p hp hb
    have hlp := hnl p hp
    have hb' : @Eq Nat p.1 (s.heap.objs.size + 5) ∨ @Eq Nat p.1 (s.heap.objs.size + 4) ∨ @Eq Nat p.1 s.heap.objs.size ∨ @Eq Nat p.1 (s.heap.objs.size + 1) ∨ @Eq Nat p.1 (s.heap.objs.size + 2) := by simpa using hb
    omega
  · rintro i v m₁ news₁ h₁ tk₁ own hin ⟨T, vals, rfl, ⟨a, b, c, ha, hb, hc, rfl⟩, hT⟩ rfl hoff hown hget hall hst F₁ N₁
    have hT' : IsTup h₁ T #[a, b, c] := hT
    refine wpAny_mono (turn i a b c T m₁ h₁ tk₁ own (by simpa using ha) (by simpa using hb) (by simpa using hc) hT' F₁ fun p hp => N₁ p (by simp only [List.mem_append] at hp ⊢; exact hp.symm)) (fun _ s₂ h₂ => wpAny_mono h₂ (fun f s₃ p => ?_) fun _ _ e => e) fun _ _ e => e
    obtain ⟨rfl, h', tk', m', rfl, F', N'⟩ := p
    exact .next ⟨rfl, h', tk', m', _, rfl, F', fun p hp => N' p (by simp only [List.mem_append] at hp ⊢; exact hp.symm), hoff, rfl⟩
  · rintro h₁ tk m' news' F' N' _ rfl
    exact done h₁ tk m' F' N'
end
end Mine

namespace Mine
open PySem.Calls PySem.Spec

local macro_rules | `(tactic| walk_at "mine") => `(tactic| repeat' (
  (fail_if_success (with_reducible show wpAny _ _ (eval (Expr.ListComp _ _ _ _) _) _ _ _));
  (fail_if_success (with_reducible show wpAny _ _ (eval (Expr.IfExp _ _ _ _) _) _ _ _));
  (fail_if_success (with_reducible show wpAny _ _ (exec (Stmt.Assign _ (Expr.ListComp _ _ _ _) _) _) _ _ _));
  (fail_if_success (with_reducible show wpAny _ _ (exec (Stmt.For _ _ _ _ _) _) _ _ _));
  (fail_if_success (with_reducible show wpAny _ _ (exec (Stmt.Try _ _ _ _ _) _) _ _ _));
  (fail_if_success (with_reducible show wpAny _ _ (pyIter _) _ _ _));
  (fail_if_success (with_reducible show wpAny _ _ (call (Value.type "zip") _ _) _ _ _));
  (fail_if_success (with_reducible show InvPostN _ _ _ _ _ _ _ _ _));
  (fail_if_success (with_reducible show LCt.CompSrcT _ _ _ _ _ _ _ _ _ _ _ _ _ _ _));
  (fail_if_success (with_reducible show LCg.CompSrc _ _ _ _ _ _ _ _ _ _ _ _ _ _));
  (fail_if_success (with_reducible show LCg.CompEnd _ _ _ _ _ _ _ _ _ _ _ _ _ _));
  first | (k_unfold; (try dsimp only)) | walk1 | (dsimp only; walk1) | (leave1; walk_say "STEP leave1"; try dsimp only) | fail "no step"))
local macro_rules | `(tactic| k_all) => `(tactic| exact (by assumption))
local macro_rules | `(tactic| walk_at "mine2") => `(tactic| first | (k_unfold; (try dsimp only)) | walk1 | (dsimp only; walk1) | (leave1; walk_say "STEP leave1"; try dsimp only))

theorem house_rest {w : World} {L fa lv : Addr} {ccd : Value} {h₀ : Heap} {m mg mb : Str → Option Value} {mean : ExcName → Option Value} {s : Shared} {vals : List Value} {cnt : Nat} {votes : List Int} {k : Int} {t tT : Tok}
    {I : Addr} {oI oV oT oH oL : Obj} {vL : Option Value} {b : Bool} {D D2 DR : Addr} {ys ys2 ysR : List Value} {c c2 cR : Nat} {res res2 : List Int} {tied2 : Bool} {ex : List (Addr × Obj)} {h : Heap} {tk : Nat}
    (B : Below callerA h₀ [] h₀) (X : (hd.heap_39 w.params).In h₀) (T : Top hd.view_39 (looseW hd.view_39 [Str.ofString "largest_remainder"]) mean mg mb h₀)
    (F : Fr h₀ L h (fun y => if y = Str.ofString "rows" then some (.ref DR) else if y = Str.ofString "given" then some (.ref D2) else if y = Str.ofString "told" then some (.ref D) else if y = Str.ofString "tied" then some (.bool b) else m y))
    (N : News h₀ L h ((DR, PySem.W.listOf ysR.toArray cR) :: (D2, PySem.W.listOf ys2.toArray c2) :: (D, PySem.W.listOf ys.toArray c) :: (I, oI) :: (L + 1 + 1 + 1, oH) :: (L + 1 + 1 + 1 + 1, oL) :: (lv, PySem.W.listOf vals.toArray cnt) :: (L + 1 + 1, oT) :: (L + 1, oV) :: ex))
    (hI : AllLt I ((L + 1 + 1 + 1, oH) :: (L + 1 + 1 + 1 + 1, oL) :: HLed L lv vals cnt oT oV)) (hlv : @LT.lt Nat _ (L + 1 + 1 + 1 + 1) lv)
    (nD : @Ne Nat D (L + 1 + 1 + 1 + 1)) (nD2 : @Ne Nat D2 (L + 1 + 1 + 1 + 1)) (nDR : @Ne Nat DR (L + 1 + 1 + 1 + 1)) (nex : NeAll (L + 1 + 1 + 1 + 1) ex)
    (dH : oH.data = .cell (some (.int k t))) (dL : oL.data = .cell vL) (dT : oT.data = .cell (some (.int votes.sum tT))) (dV : oV.data = .cell (some (.ref lv)))
    (hi : IntsAre vals votes) (hys : IntsAre ys res) (hys2 : IntsAre ys2 res2) (hR : Rws ex ysR (rowsOf votes k)) (hlen : 2 ≤ votes.length ∧ votes.length ≤ 5) (hv : ∀ v ∈ votes, 1 ≤ v ∧ v ≤ 13 * 10 ^ 24) (hk : 1 ≤ k ∧ k ≤ 20)
    (hb : (b = false ∧ LrOk votes k res false) ∨ (b = true ∧ res = [] ∧ ∃ r, LrOk votes k r true)) (hok2 : LrOk votes k res2 tied2) :
    wpAny (model PySem.Challenge.rw_ai0002_01.row.prog w) (callerA.deeper (envOfC (Str.ofString "law") lawScope L fa ccd)) (execs (lawTurn.drop 5) (envOfC (Str.ofString "law") lawScope L fa ccd))
      (HouseTurn h₀ L (L + 1 + 1 + 1) (L + 1 + 1 + 1 + 1) (HLed L lv vals cnt oT oV) I oI s) (fun _ _ => False) { s with heap := h, toks := tk } := by
  revert X
  k_fill
  intro X
  simp only [AllLt, and_true] at hI
  simp only [HLed] at N ⊢
  conv => arg 4; arg 1; whnf
  conv in (occs := *) lawScope => all_goals whnf
  k_fold
  have hne : votes ≠ [] := by rintro rfl; simp at hlen
  have hpos : ∀ v ∈ votes, 1 ≤ v := fun v hv' => (hv v hv').1
  have hRl : ysR.length = votes.length + 1 := by rw [hR.1, rowsOf_length]
  walk_at "mine"
  k_dflt (refine LCt.Assign_ListComp_T (F₀ := by k_asm) (by rfl) (by with_unfolding_all rfl) (by with_unfolding_all rfl) (by decide) (by rfl) (by decide) (by rfl) (by rfl) (by rfl) ?_)
  walk_at "mine"
  rename News _ _ _ _ => N1
  refine LCt.CompSrcT.ledger (by rfl) (by k_asm) N1 (show (DR, PySem.W.listOf ysR.toArray cR) ∈ _ by k_mem) (by rw [sizeLine_eq, List.size_toArray]; omega) ?_
  intro g1
  refine rest_genT (fun i ys nw => nw = _ ∧ Rws ex ys (((rowsOf votes k).take i).filter fun row => decide (row.sum = k))) ⟨rfl, Rws.nil⟩ ?turnJ ?finJ
  case turnJ =>
    intro i v ysj nw J oJ C oC DJ m₂ h tk E' hin hP hJ hC hx F N off ne
    obtain ⟨rfl, hJ⟩ := hJ
    obtain ⟨row, hrow, r, vs, cr, rfl, hm, hvs⟩ := rws_at' hR (by simpa using hP)
    have hmem : row ∈ rowsOf votes k := List.mem_of_getElem? hrow
    have N2 := news_pick (l' := (r, PySem.W.listOf vs.toArray cr) :: (J, oJ) :: (C, oC) :: (DJ, LCg.lst ysj) :: _) N (fun p hp => by
      rcases List.mem_cons.mp hp with rfl | hp
      · simp only [List.mem_cons]; exact .inr (.inr (.inr (.inr (.inr (.inr (.inr (.inr (.inr (.inr (.inr (.inr hm)))))))))))
      · exact hp)
    clear N
    walk_at "mine"
    case refine_1 hs =>
      rename Fr _ _ _ _ => F3
      rename News _ _ _ _ => N3
      refine LCg.CompEnd.intro (by k_asm) (news_pick N3 fun p hp => List.mem_cons_of_mem _ hp) _ ?sub ?off (.inr ⟨_, (show (DR, PySem.W.listOf ysR.toArray cR) ∈ _ by k_mem), rfl, _, rfl⟩) ⟨rfl, ?T⟩
      case T =>
        rw [take_filter_pos hrow (by simpa using hs)]
        exact hJ.snoc ⟨r, vs, cr, rfl, hm, hvs⟩
      case sub => intro p hp; exact hp
      case off => exact off
    case refine_2 hs =>
      rename Fr _ _ _ _ => F3
      rename News _ _ _ _ => N3
      refine LCg.CompEnd.intro (by k_asm) (news_pick N3 fun p hp => List.mem_cons_of_mem _ hp) _ ?sub ?off (.inr ⟨_, (show (DR, PySem.W.listOf ysR.toArray cR) ∈ _ by k_mem), rfl, _, rfl⟩) ⟨rfl, ?T⟩
      case T =>
        rw [take_filter_neg hrow (by simpa using hs)]
        exact hJ
      case sub => intro p hp; exact hp
      case off => exact off
  case finJ =>
    rintro ysj nw ⟨rfl, hJ⟩
    rw [List.size_toArray, hRl, List.take_of_length_le (by rw [rowsOf_length]; exact Nat.le_refl _)] at hJ
    have hJ' : Rws ex ysj (justs votes k) := hJ
    clear hJ
    unfold LCg.FinA
    intro DJ h2 tk2 F2 N2 o2
    simp only [LCg.Off1] at o2
    walk_at "mine"
    rename Fr _ _ _ _ => F3
    rename News _ _ _ _ => N3
    refine eq_rows_nil N3 (a := DJ) (ca := ysj.length) (by k_mem) (hJ'.mono (fun p hp => by simp only [List.mem_cons]; simp [hp])) (by k_mem) (by units_room) ?_
    have N4 := news_pick (l' := (DJ, LCg.lst ysj) :: (DR, PySem.W.listOf ysR.toArray cR) :: (D2, PySem.W.listOf ys2.toArray c2) :: (D, PySem.W.listOf ys.toArray c) :: (I, oI) :: (L + 1 + 1 + 1, oH) :: (L + 1 + 1 + 1 + 1, oL) :: (lv, PySem.W.listOf vals.toArray cnt) :: (L + 1 + 1, oT) :: (L + 1, oV) :: ex) N3 (fun p hp => List.mem_cons_of_mem _ hp)
    clear N3
    rcases hb with ⟨rfl, hok⟩ | ⟨rfl, rfl, r0, hok⟩
    case inl =>
      obtain ⟨rest, hrest⟩ := pl_told hne hpos hk.1 hok
      obtain ⟨rfl, rfl⟩ := pl_same hne hpos hk.1 hok hok2
      rw [hrest] at hJ' ⊢
      obtain ⟨v0, hv0, r, vs, cr, rfl, hm, hvs⟩ := hJ'.at (j := 0) rfl
      rw [show decide (res :: rest = []) = false from rfl]
      have N5 := news_pick (l' := (r, PySem.W.listOf vs.toArray cr) :: _) N4 (fun p hp => by
        rcases List.mem_cons.mp hp with rfl | hp
        · simp only [List.mem_cons]; simp [hm]
        · exact hp)
      clear N4
      walk_at "mine"
      refine item_led N5 (show (DJ, LCg.lst ysj) ∈ _ by k_mem) (by omega) (by omega) hv0 ?_ (by with_unfolding_all rfl)
      walk_at "mine"
      rename Fr _ _ _ _ => F6
      exact ⟨rfl, _, _, _, oH, oL, _, _, rfl, F6, news_pick N5 fun p hp => by (simp only [List.mem_cons, List.not_mem_nil, or_false] at hp ⊢; grind), dH, dL⟩
    case inr =>
      rw [pl_tied hne hpos hk.1 hok]
      have hok3 : LrOk votes k res2 true := by
        have := (pl_same hne hpos hk.1 hok hok2).2
        rwa [← this] at hok2
      obtain ⟨hgl, hgs, hov, hleast⟩ := pl_over hne hpos hk.1 hok3
      rw [show decide (([] : List (List Int)) = []) = true from rfl]
      walk_at "mine"
      rename Fr _ _ _ _ => F5
      k_dflt (refine LCt.ListComp_T (F₀ := by k_asm) (by with_unfolding_all rfl) (by decide) (by rfl) (by decide) (by rfl) ?_)
      walk_at "mine"
      refine LCt.CompSrcT.ledger (by rfl) (by k_asm) N4 (show (DR, PySem.W.listOf ysR.toArray cR) ∈ _ by k_mem) (by rw [sizeLine_eq, List.size_toArray]; omega) ?_
      intro g2
      refine rest_genT (fun i ys nw => nw = _ ∧ IntsAre ys ((((rowsOf votes k).take i).filter fun row => decide (k < row.sum)).map List.sum)) ⟨rfl, .nil⟩ ?turnO ?finO
      case turnO =>
        intro i v yso nw J oJ C oC DO m₂ h tk E' hin hP hO hC hx F N off ne
        obtain ⟨rfl, hO⟩ := hO
        obtain ⟨row, hrow, r, vs, cr, rfl, hm, hvs⟩ := rws_at' hR (by simpa using hP)
        have hmem : row ∈ rowsOf votes k := List.mem_of_getElem? hrow
        have N6 := news_pick (l' := (r, PySem.W.listOf vs.toArray cr) :: (J, oJ) :: (C, oC) :: (DO, LCg.lst yso) :: _) N (fun p hp => by
          rcases List.mem_cons.mp hp with rfl | hp
          · simp only [List.mem_cons]; simp [hm]
          · exact hp)
        clear N N4
        walk_at "mine"
        case refine_1.refine'_7 =>
          have hs : k < row.sum := by assumption
          rename Fr _ _ _ _ => F7
          rename News _ _ _ _ => N7
          refine LCg.CompEnd.intro (by k_asm) (news_pick N7 fun p hp => List.mem_cons_of_mem _ hp) _ ?sub ?off (.inr ⟨_, (show (DR, PySem.W.listOf ysR.toArray cR) ∈ _ by k_mem), rfl, _, rfl⟩) ⟨rfl, ?T⟩
          case T =>
            rw [take_filter_pos hrow (by simpa using hs), List.map_append]
            exact IntsAre.append hO (.cons _ _ .nil)
          case sub => intro p hp; exact hp
          case off => exact off
        case refine_2 hs =>
          rename Fr _ _ _ _ => F7
          rename News _ _ _ _ => N7
          refine LCg.CompEnd.intro (by k_asm) (news_pick N7 fun p hp => List.mem_cons_of_mem _ hp) _ ?sub ?off (.inr ⟨_, (show (DR, PySem.W.listOf ysR.toArray cR) ∈ _ by k_mem), rfl, _, rfl⟩) ⟨rfl, ?T⟩
          case T =>
            rw [take_filter_neg hrow (by simpa using hs)]
            exact hO
          case sub => intro p hp; exact hp
          case off => exact off
      case finO =>
        rintro yso nw ⟨rfl, hO⟩
        rw [List.size_toArray, hRl, List.take_of_length_le (by rw [rowsOf_length]; exact Nat.le_refl _)] at hO
        have hO' : IntsAre yso (overs votes k) := hO
        clear hO
        unfold LCg.FinE
        intro DO h3 tk3 F7 N7 o7
        simp only [LCg.Off1] at o7
        have hov' : 0 < (overs votes k).length := by cases h : overs votes k <;> simp_all
        walk_at "mine"
        rename (_ ∈ overs votes k) => hM
        rename (∀ (a : Int), a ∈ overs votes k → _ ≤ a) => hM2
        rename Fr _ _ _ _ => F8
        rename News _ _ _ _ => N8
        obtain ⟨most, rest, hmost, hmostm, hle⟩ := hleast _ hM hM2
        rename_i M tM _ _ oL' dL'
        k_dflt (refine LCt.ListComp_T (F₀ := by k_asm) (by with_unfolding_all rfl) (by decide) (by rfl) (by decide) (by rfl) ?_)
        walk_at "mine"
        refine LCt.CompSrcT.ledger (by rfl) (by k_asm) N8 (show (DR, PySem.W.listOf ysR.toArray cR) ∈ _ by k_mem) (by rw [sizeLine_eq, List.size_toArray]; omega) ?_
        intro g3
        refine rest_genT (fun i ys nw => nw = _ ∧ Rws ex ys (((rowsOf votes k).take i).filter fun row => decide (row.sum = M))) ⟨rfl, Rws.nil⟩ ?turnM ?finM
        case turnM =>
          intro i v ysm nw J oJ C oC DM m₂ h tk E' hin hP hJ hC hx F N off ne
          obtain ⟨rfl, hJ⟩ := hJ
          obtain ⟨row, hrow, r, vs, cr, rfl, hm, hvs⟩ := rws_at' hR (by simpa using hP)
          have hmem : row ∈ rowsOf votes k := List.mem_of_getElem? hrow
          have N9 := news_pick (l' := (r, PySem.W.listOf vs.toArray cr) :: (J, oJ) :: (C, oC) :: (DM, LCg.lst ysm) :: _) N (fun p hp => by
            rcases List.mem_cons.mp hp with rfl | hp
            · simp only [List.mem_cons]; simp [hm]
            · exact hp)
          clear N N8 F8
          walk_at "mine"
          case refine_1 hs =>
            rename Fr _ _ _ _ => F7
            rename News _ _ _ _ => N7
            refine LCg.CompEnd.intro (by k_asm) (news_pick N7 fun p hp => List.mem_cons_of_mem _ hp) _ ?sub ?off (.inr ⟨_, (show (DR, PySem.W.listOf ysR.toArray cR) ∈ _ by k_mem), rfl, _, rfl⟩) ⟨rfl, ?T⟩
            case T =>
              rw [take_filter_pos hrow (by simpa using hs)]
              exact hJ.snoc ⟨r, vs, cr, rfl, hm, hvs⟩
            case sub => intro p hp; exact hp
            case off => exact off
          case refine_2 hs =>
            rename Fr _ _ _ _ => F7
            rename News _ _ _ _ => N7
            refine LCg.CompEnd.intro (by k_asm) (news_pick N7 fun p hp => List.mem_cons_of_mem _ hp) _ ?sub ?off (.inr ⟨_, (show (DR, PySem.W.listOf ysR.toArray cR) ∈ _ by k_mem), rfl, _, rfl⟩) ⟨rfl, ?T⟩
            case T =>
              rw [take_filter_neg hrow (by simpa using hs)]
              exact hJ
            case sub => intro p hp; exact hp
            case off => exact off
        case finM =>
          rintro ysm nw ⟨rfl, hJ⟩
          rw [List.size_toArray, hRl, List.take_of_length_le (by rw [rowsOf_length]; exact Nat.le_refl _)] at hJ
          have hJ2 : Rws ex ysm (most :: rest) := by rw [← hmost]; exact hJ
          clear hJ
          obtain ⟨v0, hv0, r, vs, cr, rfl, hm, hvs⟩ := hJ2.at (j := 0) rfl
          obtain ⟨vf, hvf, rf, vsf, cf, rfl, hmf, hvsf⟩ := hR.at (j := 0) (rows_head hne hpos hk.1)
          unfold LCg.FinE
          intro DM h4 tk4 F9 N9 o9
          clear N8 F8
          have N10 := news_pick (l' := (r, PySem.W.listOf vs.toArray cr) :: (rf, PySem.W.listOf vsf.toArray cf) :: _) N9 (fun p hp => by
            rcases List.mem_cons.mp hp with rfl | hp
            · simp only [List.mem_cons]; simp [hm]
            · rcases List.mem_cons.mp hp with rfl | hp
              · simp only [List.mem_cons]; simp [hmf]
              · exact hp)
          clear N9
          have hgl2 := hys2.length
          walk_at "mine"
          refine item_led N10 (show (DM, LCg.lst ysm) ∈ _ by k_mem) (by omega) (by omega) hv0 ?_ (by with_unfolding_all rfl)
          walk_at "mine"
          all_goals first | (exfalso; omega; done) | skip
          rename Fr _ _ _ _ => F11
          rename News _ _ _ _ => N11
          refine For_turns F11 ?_
          walk_at "mine"
          refine item_led N11 (show (DR, PySem.W.listOf ysR.toArray cR) ∈ _ by k_mem) (by omega) (by omega) hvf ?_ (by with_unfolding_all rfl)
          walk_at "mine"
          have e1 : ys2.length = votes.length := by omega
          have e2 : vsf.length = votes.length := by rw [hvsf.length, flo_length]
          have e3 : vs.length = votes.length := by
            obtain ⟨q, _, rfl⟩ := List.mem_map.mp hmostm
            rw [hvs.length, rowOf_length]
          refine zip3_turns (by rfl) F11 N11 (show (D2, PySem.W.listOf ys2.toArray c2) ∈ _ by k_mem) rfl rfl (show (rf, PySem.W.listOf vsf.toArray cf) ∈ _ by k_mem) rfl rfl (show (r, PySem.W.listOf vs.toArray cr) ∈ _ by k_mem) rfl rfl e1 e2 e3 ?turnZ ?doneZ
          case turnZ =>
            intro i va vb vc T m₁ h5 tk5 own ha hb hc hT F12 N12
            obtain ⟨g, tg, rfl, hg⟩ := IntsAre.at hys2 i va ha
            obtain ⟨dn, td, rfl, hd⟩ := IntsAre.at hvsf i vb hb
            obtain ⟨up, tu, rfl, hu⟩ := IntsAre.at hvs i vc hc
            have hle2 := hle i dn g up hd hg hu
            clear N11 F11
            simp only [List.cons_append] at N12 ⊢
            walk_at "mine"
            rename Fr _ _ _ _ => F13
            rename News _ _ _ _ => N13
            exact ⟨rfl, _, _, _, rfl, F13, N13⟩
          case doneZ =>
            intro h5 tk5 m5 F12 N12
            dsimp only
            walk_at "mine"
            exact ⟨rfl, _, _, _, oH, oL', _, _, rfl, F12, news_pick N12 fun p hp => by (simp only [List.mem_cons, List.not_mem_nil, or_false] at hp ⊢; grind), dH, dL'⟩
end Mine

namespace Mine
open PySem.Calls PySem.Spec

local macro_rules | `(tactic| walk_at "mine") => `(tactic| repeat' (
  (fail_if_success (with_reducible show wpAny _ _ (eval (Expr.ListComp _ _ _ _) _) _ _ _));
  (fail_if_success (with_reducible show wpAny _ _ (eval (Expr.IfExp _ _ _ _) _) _ _ _));
  (fail_if_success (with_reducible show wpAny _ _ (exec (Stmt.Assign _ (Expr.ListComp _ _ _ _) _) _) _ _ _));
  (fail_if_success (with_reducible show wpAny _ _ (exec (Stmt.For _ _ _ _ _) _) _ _ _));
  (fail_if_success (with_reducible show wpAny _ _ (exec (Stmt.Try _ _ _ _ _) _) _ _ _));
  (fail_if_success (with_reducible show wpAny _ _ (pyIter _) _ _ _));
  (fail_if_success (with_reducible show wpAny _ _ (call (Value.ref 33) _ _) _ _ _));
  (fail_if_success (with_reducible show InvPostN _ _ _ _ _ _ _ _ _));
  (fail_if_success (with_reducible show LCg.CompSrc _ _ _ _ _ _ _ _ _ _ _ _ _ _));
  (fail_if_success (with_reducible show LCg.CompEnd _ _ _ _ _ _ _ _ _ _ _ _ _ _));
  first | (k_unfold; (try dsimp only)) | walk1 | (dsimp only; walk1) | (leave1; walk_say "STEP leave1"; try dsimp only) | fail "no step"))
local macro_rules | `(tactic| k_all) => `(tactic| exact Above.ne (by assumption) (by omega))
local macro_rules | `(tactic| k_all) => `(tactic| exact OwnOff.ne (by assumption) (by simp))
local macro_rules | `(tactic| mul_fits) => `(tactic| assumption)

theorem house_turn {w : World} {L fa lv : Addr} {ccd : Value} {h₀ : Heap} {m mg mb : Str → Option Value} {mean : ExcName → Option Value} {s : Shared} {vals : List Value} {cnt : Nat} {votes : List Int} {k : Int} {t tT : Tok}
    {I : Addr} {oI oV oT oH oL : Obj} {vL : Option Value}
    (B : Below callerA h₀ [] h₀) (X : (hd.heap_39 w.params).In h₀) (T : Top hd.view_39 (looseW hd.view_39 [Str.ofString "largest_remainder"]) mean mg mb h₀)
    (F : Fr h₀ L s.heap m) (N : News h₀ L s.heap ((I, oI) :: (L + 1 + 1 + 1, oH) :: (L + 1 + 1 + 1 + 1, oL) :: HLed L lv vals cnt oT oV))
    (hI : AllLt I ((L + 1 + 1 + 1, oH) :: (L + 1 + 1 + 1 + 1, oL) :: HLed L lv vals cnt oT oV)) (hlv : @LT.lt Nat _ (L + 1 + 1 + 1 + 1) lv)
    (dH : oH.data = .cell (some (.int k t))) (dL : oL.data = .cell vL) (dT : oT.data = .cell (some (.int votes.sum tT))) (dV : oV.data = .cell (some (.ref lv)))
    (hi : IntsAre vals votes) (hlen : 2 ≤ votes.length ∧ votes.length ≤ 5) (hv : ∀ v ∈ votes, 1 ≤ v ∧ v ≤ 13 * 10 ^ 24) (hk : 1 ≤ k ∧ k ≤ 20) :
    wpAny (model PySem.Challenge.rw_ai0002_01.row.prog w) (callerA.deeper (envOfC (Str.ofString "law") lawScope L fa ccd)) (execs lawTurn (envOfC (Str.ofString "law") lawScope L fa ccd))
      (HouseTurn h₀ L (L + 1 + 1 + 1) (L + 1 + 1 + 1 + 1) (HLed L lv vals cnt oT oV) I oI s) (fun _ _ => False) s := by
  revert X
  k_fill
  intro X
  simp only [AllLt, and_true] at hI
  simp only [HLed] at N ⊢
  conv => arg 4; arg 1; whnf
  conv in (occs := *) lawScope => all_goals whnf
  k_fold
  walk_at "mine"
  rename Fr _ _ _ _ => F1
  rename News _ _ _ _ => N1
  refine wpAny_mono (Q := TryPost h₀ L m [(I, oI), (L + 1 + 1 + 1, oH), (L + 1 + 1 + 1 + 1, oL), (lv, PySem.W.listOf vals.toArray cnt), (L + 1 + 1, oT), (L + 1, oV)] votes k s) ?tryA ?cont fun _ _ e => e
  case tryA =>
    refine wpAny_Try_except ?_
    walk_at "mine"
    rename Fr _ _ _ _ => F2
    rename News _ _ _ _ => N2
    have hne : votes ≠ [] := by rintro rfl; simp at hlen
    refine lr_call (t := t) (ta := false) rfl B F2 N2 X T ?hb ⟨_, N2.get (show (lv, PySem.W.listOf vals.toArray cnt) ∈ _ by k_mem), rfl, _, rfl⟩ hi hlen.2 hv hne hk.1 hk.2 ?hQ ?hE
    case hb =>
      refine' hb_of (P := fun fd => BindsTo _ fd _ _) ?hb1 ?hb2
      case hb1 => k_is
      case hb2 => first | exact BindsTo.of_eq rfl | exact binds_K (by k_in) rfl (by k_is) rfl rfl rfl
    case hQ =>
      intro D ys c' h' tk res tied hkeep hnew hget hys hok hta
      obtain ⟨F3, N3, o3⟩ := call_back F2 N2 hkeep hnew hget
      obtain rfl : tied = false := by cases tied with | false => rfl | true => exact absurd (hta rfl) (by decide)
      walk_at "mine"
      rename Fr _ _ _ _ => F4
      rename News _ _ _ _ => N4
      exact ⟨rfl, _, _, false, D, ys, c', res, rfl, F4, N4, o3, hys, .inl ⟨rfl, hok⟩⟩
    case hE =>
      intro e x xs h' tk res R U hok _
      dsimp only
      refine caught_any (C := 24) (bmB := [.type "Exception", .type "BaseException", .type "object"]) (newId := "Exception.__new__") B F2 U R X (topRead_of T) (by k_is) (by k_exc) rfl rfl rfl rfl rfl ?_
      intro h'' F3 N3
      walk_at "mine"
      rename Fr _ _ _ _ => F4
      rename News _ _ _ _ => N4
      exact ⟨rfl, _, _, true, _, [], 0, [], rfl, map_twice F4, N4, by simp only [LCg.Off1, and_true]; omega, .nil, .inr ⟨rfl, rfl, _, hok⟩⟩
  case cont =>
    rintro f s1 ⟨rfl, h1, tk1, b, D, ys, c, res, rfl, F3, N3, o3, hys, hb⟩
    simp only [LCg.Off1] at o3
    dsimp only
    walk_at "mine"
    rename Fr _ _ _ _ => F2
    rename News _ _ _ _ => N2
    have hne : votes ≠ [] := by rintro rfl; simp at hlen
    have hsum : 0 < votes.sum := sum_pos hne fun v hv' => (hv v hv').1
    refine lr_call (t := t) (ta := true) rfl B F2 N2 X T ?hb ⟨_, N2.get (show (lv, PySem.W.listOf vals.toArray cnt) ∈ _ by k_mem), rfl, _, rfl⟩ hi hlen.2 hv hne hk.1 hk.2 ?hQ ?hE
    case hb =>
      refine' hb_of (P := fun fd => BindsTo _ fd _ _) ?hb1 ?hb2
      case hb1 => k_is
      case hb2 => first | exact BindsTo.of_eq rfl | exact binds_K (by k_in) rfl (by k_is) rfl rfl rfl
    case hE =>
      intro e x xs h' tk res R U hok hta
      exact absurd hta (by decide)
    case hQ =>
      intro D2 ys2 c2 h' tk res2 tied2 hkeep hnew hget hys2 hok2 _
      obtain ⟨F4, N4, o4⟩ := call_back F2 N2 hkeep hnew hget
      simp only [LCg.Off1] at o4
      clear F2 N2 hkeep hnew hget
      walk_at "mine"
      have hvl := hi.length
      k_dflt (refine LCg.ListComp_U (F₀ := by k_asm) (by with_unfolding_all rfl) (by decide) (by rfl) (by decide) (by rfl) ?_)
      walk_at "mine"
      rename News _ _ _ _ => N5
      refine LCg.CompSrc.ledger (by rfl) (by k_asm) N5 (show (lv, PySem.W.listOf vals.toArray cnt) ∈ _ by k_mem) (by rw [sizeLine_eq, List.size_toArray]; omega) ?_
      intro g2
      refine rest_gen (fun i ys nw => nw = _ ∧ IntsAre ys ((dst votes k).take i)) ⟨rfl, .nil⟩ ?turn ?fin
      case turn =>
        intro i v ys nw J oI C oC D m₂ h tk E' hin hP hI2 hC hx F N off ne
        obtain ⟨rfl, hI2⟩ := hI2
        simp only [LCg.Off3] at off
        have hin' : i < votes.length := by rw [List.size_toArray, hvl] at hin; exact hin
        obtain ⟨pv, hpv, tv, rfl⟩ : ∃ p, votes[i]? = some p ∧ ∃ t, v = .int p t := by
          obtain ⟨q, t', e, hq⟩ := IntsAre.at hi i v (by simpa using hP)
          exact ⟨q, hq, t', e⟩
        walk_at "mine"
        rename News _ _ _ _ => N6
        refine LCg.CompEnd.intro (by k_asm) N6 _ ?sub ?off (.inr ⟨_, (show (lv, PySem.W.listOf vals.toArray cnt) ∈ _ by k_mem), rfl, _, rfl⟩) ⟨rfl, ?T⟩
        case T =>
          rw [dst, ← List.map_take, take_map_succ hpv, List.map_take]
          exact IntsAre.append hI2 (.cons _ _ .nil)
        case sub => intro p hp; exact hp
        case off => exact off
      case fin =>
        rintro ysd nw ⟨rfl, hId⟩
        rw [List.size_toArray, hvl, List.take_of_length_le (by rw [dst_length]; exact Nat.le_refl _)] at hId
        unfold LCg.FinE
        intro Dd hd' tkd Fd Nd od
        simp only [LCg.Off1] at od
        refine kmk_add_ints (vs := [_]) Fd Nd ⟨_, Nd.get (List.mem_cons_of_mem _ List.mem_cons_self), rfl, _, rfl⟩ ⟨_, Nd.get List.mem_cons_self, rfl, _, rfl⟩ (.cons 0 _ .nil) hId ?_ (by rw [sizeLine_eq, dst_length, List.length_singleton]; omega)
        intro Dp ysp h3 F6 N6 l6 hIp
        k_lt l6
        have hpe : [0] ++ dst votes k = pts votes k := rfl
        rw [hpe] at hIp
        walk_at "mine"
        rename News _ _ _ _ => N7
        rename Fr _ _ _ _ => F7
        have N8 : News h₀ L _ [(Dp, PySem.W.listOf ysp.toArray 0), (D2, PySem.W.listOf ys2.toArray c2), (D, PySem.W.listOf ys.toArray c), (I, oI), (L + 1 + 1 + 1, oH), (L + 1 + 1 + 1 + 1, oL), (lv, PySem.W.listOf vals.toArray cnt), (L + 1 + 1, oT), (L + 1, oV)] :=
          news_pick N7 fun p hp => by simp only [List.mem_cons, List.not_mem_nil, or_false] at hp ⊢; grind
        clear N7
        have hpl : ysp.length = votes.length + 1 := by rw [hIp.length, pts_length]
        k_dflt (refine Assign_ListComp_C F7 (by rfl) (by with_unfolding_all rfl) (by with_unfolding_all rfl) (by intro _; rfl) (by intro _; rfl) (by rfl) (by decide) (by rfl) (by rfl) (by rfl) ?_)
        walk_at "mine"
        refine ⟨Dp, ysp.toArray, 0, _, fun i ys nw => ∃ ex, nw = _ ++ ex ∧ Rws ex ys ((rowsOf votes k).take i) ∧ NeAll (L + 1 + 1 + 1 + 1) ex, rfl, rfl, F7, N8, by rw [sizeLine_eq, List.size_toArray]; omega, ⟨[], (List.append_nil _).symm, Rws.nil, NeAll.nil⟩, ?src, ?turnR, ?finR⟩
        case src =>
          rintro i ys nw ⟨ex, rfl, _, _⟩
          exact List.mem_append_left _ List.mem_cons_self
        case turnR =>
          rintro i v ysr nw J oJ C oC P oP D' h tk E' hin hP ⟨ex, rfl, hR, hN⟩ dP F N off ne
          simp only [List.cons_append, List.nil_append] at N off
          simp only [Off4] at off
          have hin' : i < (pts votes k).length := by rw [pts_length, ← hpl, ← List.size_toArray]; exact hin
          obtain ⟨q, hq, tq, rfl⟩ : ∃ p, (pts votes k)[i]? = some p ∧ ∃ t, v = .int p t := by
            obtain ⟨q, t', e, hq⟩ := IntsAre.at hIp i v (by simpa using hP)
            exact ⟨q, hq, t', e⟩
          k_dflt (refine LCg.ListComp_U (F₀ := F) (by with_unfolding_all rfl) (by decide) (by rfl) (by decide) (by rfl) ?_)
          walk_at "mine"
          rename News _ _ _ _ => N9
          refine LCg.CompSrc.ledger (by rfl) (by k_asm) N9 (show (lv, PySem.W.listOf vals.toArray cnt) ∈ _ by k_mem) (by rw [sizeLine_eq, List.size_toArray]; omega) ?_
          intro g4
          refine rest_gen (fun i ys nw => nw = _ ∧ IntsAre ys ((rowOf votes k q).take i)) ⟨rfl, .nil⟩ ?turnB ?finB
          case turnB =>
            intro i v ys nw J2 oI2 C2 oC2 D2' m₂ h tk E' hin hP hI2 hC hx F N off2 ne2
            obtain ⟨rfl, hI2⟩ := hI2
            simp only [LCg.Off3] at off2
            obtain ⟨pv, hpv, tv, rfl⟩ : ∃ p, votes[i]? = some p ∧ ∃ t, v = .int p t := by
              obtain ⟨q, t', e, hq⟩ := IntsAre.at hi i v (by simpa using hP)
              exact ⟨q, hq, t', e⟩
            walk_at "mine"
            all_goals first | (exfalso; omega; done) | skip
            rename News _ _ _ _ => N10
            refine LCg.CompEnd.intro (by k_asm) N10 _ ?sub ?off (.inr ⟨_, (show (lv, PySem.W.listOf vals.toArray cnt) ∈ _ by k_mem), rfl, _, rfl⟩) ⟨rfl, ?T⟩
            case T =>
              rw [rowOf, ← List.map_take, take_map_succ hpv, List.map_take]
              exact IntsAre.append hI2 (.cons _ _ .nil)
            case sub => intro p hp; exact hp
            case off => exact off2
          case finB =>
            rintro ysq nw ⟨rfl, hIr⟩
            rw [List.size_toArray, hvl, List.take_of_length_le (by rw [rowOf_length]; exact Nat.le_refl _)] at hIr
            unfold LCg.FinE
            intro Dr hr tkr Fr' Nr or
            simp only [LCg.Off1] at or
            refine ⟨hr, tkr, _, rfl, Fr', ?N, ?off, (Dr, PySem.W.listOf ysq.toArray ysq.length) :: ex, rfl, ?T, ?A⟩
            case T =>
              rw [List.take_add_one, rowsOf, List.getElem?_map, hq]
              exact (hR.mono fun p hp => List.mem_cons_of_mem _ hp).snoc ⟨Dr, ysq, ysq.length, rfl, List.mem_cons_self, hIr⟩
            case A => exact NeAll.cons (by (try dsimp only); omega) hN
            case N =>
              refine news_pick Nr fun p hp => ?_
              simp only [List.mem_cons, List.cons_append, List.nil_append] at hp ⊢
              grind
            case off =>
              simp only [List.cons_append, List.nil_append, Off4]
              exact ⟨off.1, off.2.1, off.2.2.1, off.2.2.2.1, off.2.2.2.2.1, off.2.2.2.2.2.1, off.2.2.2.2.2.2.1, off.2.2.2.2.2.2.2.1, off.2.2.2.2.2.2.2.2.1, ⟨by omega, by omega, by omega, by omega⟩, off.2.2.2.2.2.2.2.2.2⟩
        case finR =>
          rintro ysr nw DR hr tkr ⟨ex, rfl, hR, hN⟩ Fr9 Nr or
          have hps : (rowsOf votes k).length = ysp.toArray.size := by rw [rowsOf_length, List.size_toArray, hpl]
          rw [← hps, List.take_length] at hR
          simp only [LCg.Off1, List.cons_append, List.nil_append] at or
          simp only [List.cons_append, List.nil_append] at Nr
          dsimp only
          have hI' : AllLt I ((L + 1 + 1 + 1, oH) :: (L + 1 + 1 + 1 + 1, oL) :: HLed L lv vals cnt oT oV) := by
            simp only [HLed, AllLt, and_true]
            exact hI
          exact house_rest (cR := ysr.length) B X T (map_show Fr9 (by rfl) (by rfl) (by rfl) (by rfl)) (news_pick Nr (fun p hp => (List.mem_cons.mp hp).elim (fun e => List.mem_cons.mpr (.inl e)) fun hp => List.mem_cons_of_mem _ (List.mem_cons_of_mem _ hp))) hI' hlv (by omega) (by omega) (by omega) hN dH dL dT dV hi hys hys2 hR hlen hv hk hb hok2
end Mine

namespace Mine
open PySem.Calls PySem.Spec

local macro_rules | `(tactic| walk_at "mine") => `(tactic| repeat' (
  (fail_if_success (with_reducible show wpAny _ _ (eval (Expr.ListComp _ _ _ _) _) _ _ _));
  (fail_if_success (with_reducible show wpAny _ _ (eval (Expr.IfExp _ _ _ _) _) _ _ _));
  (fail_if_success (with_reducible show wpAny _ _ (exec (Stmt.Assign _ (Expr.ListComp _ _ _ _) _) _) _ _ _));
  (fail_if_success (with_reducible show wpAny _ _ (exec (Stmt.For _ _ _ _ _) _) _ _ _));
  (fail_if_success (with_reducible show wpAny _ _ (exec (Stmt.Try _ _ _ _ _) _) _ _ _));
  (fail_if_success (with_reducible show wpAny _ _ (pyIter _) _ _ _));
  (fail_if_success (with_reducible show wpAny _ _ (call (Value.type "zip") _ _) _ _ _));
  (fail_if_success (with_reducible show HouseSrc _ _ _ _ _ _ _ _ _ _ _ _ _));
  (fail_if_success (with_reducible show InvPostN _ _ _ _ _ _ _ _ _));
  (fail_if_success (with_reducible show LCg.CompSrc _ _ _ _ _ _ _ _ _ _ _ _ _ _));
  (fail_if_success (with_reducible show LCg.CompEnd _ _ _ _ _ _ _ _ _ _ _ _ _ _));
  first | (k_unfold; (try dsimp only)) | walk1 | (dsimp only; walk1) | (leave1; walk_say "STEP leave1"; try dsimp only) | fail "no step"))
local macro_rules | `(tactic| k_all) => `(tactic| exact (by assumption))

def lawFor : Stmt := match PySem.Challenge.pw_ai0002_01.main.body with
  | [_, _, _, _, .FunctionDef _ _ b _ _ _ _ _ _ _] => (match b with
    | [_, _, _, _, _, f, _] => f
    | _ => .Pass default)
  | _ => .Pass default
def LoopEnd (h₀ : Heap) (L : Addr) (led : List (Addr × Obj)) (s : Shared) (f : Flow) (s' : Shared) : Prop :=
  f = .next ∧ ∃ h' tk m, s' = { s with heap := h', toks := tk } ∧ Fr h₀ L h' m ∧ News h₀ L h' led
theorem house_loop {w : World} {L fa lv : Addr} {ccd : Value} {h₀ : Heap} {m mg mb : Str → Option Value} {mean : ExcName → Option Value} {s : Shared} {vals : List Value} {cnt : Nat} {votes : List Int} {fst : Int} {tf tT : Tok}
    {oV oT oH oL : Obj} {vH vL : Option Value}
    (B : Below callerA h₀ [] h₀) (X : (hd.heap_39 w.params).In h₀) (T : Top hd.view_39 (looseW hd.view_39 [Str.ofString "largest_remainder"]) mean mg mb h₀)
    (F : Fr h₀ L s.heap m) (hm : m (Str.ofString "first") = some (.int fst tf)) (N : News h₀ L s.heap ((L + 1 + 1 + 1, oH) :: (L + 1 + 1 + 1 + 1, oL) :: HLed L lv vals cnt oT oV)) (hlv : @LT.lt Nat _ (L + 1 + 1 + 1 + 1) lv)
    (dH : oH.data = .cell vH) (dL : oL.data = .cell vL) (dT : oT.data = .cell (some (.int votes.sum tT))) (dV : oV.data = .cell (some (.ref lv)))
    (hi : IntsAre vals votes) (hlen : 2 ≤ votes.length ∧ votes.length ≤ 5) (hv : ∀ v ∈ votes, 1 ≤ v ∧ v ≤ 13 * 10 ^ 24) :
    wpAny (model PySem.Challenge.rw_ai0002_01.row.prog w) (callerA.deeper (envOfC (Str.ofString "law") lawScope L fa ccd)) (exec lawFor (envOfC (Str.ofString "law") lawScope L fa ccd))
      (LoopEnd h₀ L (HLed L lv vals cnt oT oV) s) (fun _ _ => False) s := by
  have F0 : Fr h₀ L s.heap (fun y => if y = Str.ofString "first" then some (.int fst tf) else m y) := by
    have e : (fun y => if y = Str.ofString "first" then some (.int fst tf) else m y) = m := by
      funext y
      split
      · rename_i e; rw [e, hm]
      · rfl
    rw [e]; exact F
  clear F
  have X0 := X
  revert X
  k_fill
  intro X
  have N0 := N
  simp only [HLed] at N
  conv => arg 4; arg 1; whnf
  k_fold
  refine For_house (h₀ := h₀) (cH := L + 1 + 1 + 1) (cL := L + 1 + 1 + 1 + 1) (led := HLed L lv vals cnt oT oV) (by rfl) (by rfl) (by rfl) ?_
  conv in (occs := *) lawScope => all_goals whnf
  have hm9 := fmod_lo' fst (n := 9) (by decide)
  walk_at "mine"
  rename IsRange _ _ _ _ _ _ _ _ => hr
  rename Fr _ _ _ _ => F1
  rename News _ _ _ _ => N1
  refine ⟨_, _, _, _, _, _, 5, _, oH, oL, _, _, rfl, by rfl, hr, small_one (by omega) (by omega) (by omega) (by omega), ?size, F1, N1, dH, dL, ?apart, ?LH, ?turn, ?done⟩
  case size =>
    rw [rangeSize_nat]
    omega
  case apart =>
    intro p hp
    simp only [HLed, List.mem_cons, List.not_mem_nil, or_false] at hp
    rcases hp with rfl | rfl | rfl
    · exact (neN (by omega))
    · exact (neN (by omega))
    · exact (neN (by omega))
  case LH => exact (neN (by omega))
  case turn =>
    intro i m2 I oI oH2 oL2 t2 vL2 h2 tk2 hi5 F2 N2 l1 l2 l3 dH2 dL2
    exact wpAny_mono (house_turn (k := 1 + fst.fmod 9 + (i : Int)) B X0 T F2 N2 ⟨l1, l2, l3⟩ hlv dH2 dL2 dT dV (by assumption) hlen hv ⟨by omega, by omega⟩) (fun _ _ x => x) (fun _ _ f => f.elim)
  case done =>
    intro h2 tk2 m2 F2 N2
    exact ⟨rfl, _, _, _, rfl, F2, N2⟩
end Mine

namespace Mine
open PySem.Calls PySem.Spec

local macro_rules | `(tactic| walk_at "mine") => `(tactic| repeat' (
  (fail_if_success (with_reducible show wpAny _ _ (eval (Expr.ListComp _ _ _ _) _) _ _ _));
  (fail_if_success (with_reducible show wpAny _ _ (eval (Expr.IfExp _ _ _ _) _) _ _ _));
  (fail_if_success (with_reducible show wpAny _ _ (exec (Stmt.Assign _ (Expr.ListComp _ _ _ _) _) _) _ _ _));
  (fail_if_success (with_reducible show wpAny _ _ (exec (Stmt.For _ _ _ _ _) _) _ _ _));
  (fail_if_success (with_reducible show wpAny _ _ (exec (Stmt.Try _ _ _ _ _) _) _ _ _));
  (fail_if_success (with_reducible show wpAny _ _ (pyIter _) _ _ _));
  (fail_if_success (with_reducible show wpAny _ _ (call (Value.ref 33) _ _) _ _ _));
  (fail_if_success (with_reducible show InvPostN _ _ _ _ _ _ _ _ _));
  (fail_if_success (with_reducible show LCg.CompSrc _ _ _ _ _ _ _ _ _ _ _ _ _ _));
  (fail_if_success (with_reducible show LCg.CompEnd _ _ _ _ _ _ _ _ _ _ _ _ _ _));
  first | (k_unfold; (try dsimp only)) | walk1 | (dsimp only; walk1) | (leave1; walk_say "STEP leave1"; try dsimp only) | fail "no step"))

local macro_rules | `(tactic| k_all) => `(tactic| exact Above.ne (by assumption) (by omega))
local macro_rules | `(tactic| k_all) => `(tactic| exact OwnOff.ne (by assumption) (by simp))
local macro_rules | `(tactic| mul_fits) => `(tactic| assumption)

local macro_rules | `(tactic| walk_at "call builtin:list.append") => `(tactic| (k_here; (with_reducible show wpAny _ _ (call (Value.builtin _) [Value.ref _, _]) _ _ _); k_dflt (refine' append_K ?k1 ?k2 ?k3 ?_ ?z; (case k1 => k_asm); (case k2 => k_asm); (case k3 => k_upd); (case z => (rw [sizeLine_eq, List.size_toArray]; omega)); k_whole); intro h' F' N'))

theorem news_six {h₀ h : Heap} {L : Addr} {pD pV p4 p3 p2 p1 : Addr × Obj} (N : News h₀ L h [pD, pV, p4, p3, p2, p1]) : News h₀ L h [p3, p4, pV, p2, p1] := news_pick N fun p hp => by
  simp only [List.mem_cons, List.not_mem_nil, or_false] at hp ⊢
  grind
theorem law_holds : PySem.Challenge.rw_ai0002_01.Holds := hd (by
  w_strict (
    k_go0
    (all_goals try k_fold)
    walk_at "mine"
    rename Below _ _ _ _ => K0
    rename IntsAre _ _ => hI
    rename List Int => ns
    refine cut_toks (fun v => ∃ t, v = Value.int (ns.getD 0 0) t) ?first ?rest
    case first =>
      refine wpAny_IfExp ?_
      walk_at "mine"
      · exact ⟨⟨_, rfl⟩, _, rfl⟩
      · rename ¬ 0 < ns.length => h0
        exact ⟨⟨_, by rw [List.eq_nil_of_length_eq_zero (Nat.eq_zero_of_not_pos h0)]; rfl⟩, _, rfl⟩
    case rest =>
      rintro v tk1 ⟨tf, rfl⟩
      generalize ns.getD 0 0 = fst
      walk_at "mine"
      rename Fr _ _ _ _ => Fc
      with_unfolding_all
       refine' For_invVF Fc ?k1 ?k2 ?_
      case k1 => exact rfl
      case k2 => exact rfl
      walk_at "mine"
      rename News _ _ _ _ => Nc
      rename IntsAre _ _ => hIw
      have Nl := news_first Nc
      with_unfolding_all
       refine' kst_listL (σ := (List Value × Nat) × List Int) (VLed _ _ _ _ _)
         (fun st => []) (fun st => IntsAre st.1.1 st.2) [Str.ofString "one"]
         (fun pre st => st.2.length = pre.length ∧ ∀ v ∈ st.2, 1 ≤ v ∧ v ≤ 13 * 10 ^ 24) (([], 0), [])
         (by rfl) (fun c => List.mem_cons_self) hIw (by k_asm) Nl .nil (List.forall_mem_nil _) ⟨rfl, List.forall_mem_nil _⟩ ?turn1 ?done1
      case turn1 =>
        rintro ⟨⟨vals, cnt⟩, vts⟩ pre post n tx u h tk own hpp hmm hoff hf hp F N
        dsimp only [kstB] at F
        dsimp only at hf hp
        simp only [VLed, List.map_cons, List.map_nil] at hoff
        simp only [VLed, List.cons_append, List.nil_append] at N
        have hvl := hf.length
        have hpl := congrArg List.length hpp
        simp only [List.length_append, List.length_cons, List.length_nil, List.length_take, List.length_drop] at hpl
        have hm1 := fmod_lo' n (n := 12) (by decide)
        have hm2 := fmod_lo' (n.fdiv 12) (n := 3) (by decide)
        walk_at "mine"
        all_goals rename News _ _ _ _ => nE
        all_goals simp only [List.push_toArray] at nE
        all_goals
         refine' kst_end (c := ((_, _), _)) (by assumption) nE (by exact List.forall_mem_cons.mpr ⟨List.mem_cons_self, List.forall_mem_cons.mpr ⟨List.mem_cons_of_mem _ List.mem_cons_self, fun p hp => List.mem_cons_of_mem _ (List.mem_cons_of_mem _ (List.mem_append_left own hp))⟩⟩)
            (by exact fun p hp => List.mem_append_right [_, _, _, _, _, _] hp) (by rfl) (by exact IntsAre.append hf (.cons _ _ .nil)) (by exact List.forall_mem_nil _) (by kst_same)
            (by exact votes_snoc hp ⟨by omega, by omega⟩)
      case done1 =>
        rintro ⟨⟨vals, cnt⟩, vts⟩ u h tk hf hp F N
        dsimp only [kstB] at F
        dsimp only at hf hp
        simp only [VLed] at N
        dsimp only
        walk_at "mine"
        rename News _ _ _ _ => N9
        have hl9 := hp.1
        simp only [List.length_append, List.length_cons, List.length_nil, List.length_take, List.length_drop] at hl9
        refine wpAny_mono (house_loop (by assumption) (by assumption) (by assumption) (by k_asm) (by rfl) (news_six N9) (by omega) (by assumption) (by assumption) (by assumption) (by assumption) hf ⟨by omega, by omega⟩ hp.2) ?cont (fun _ _ e => e.elim)
        rintro f s' ⟨rfl, h9, tk9, m9, rfl, F9, N9⟩
        dsimp only
        walk_at "mine"
        dsimp only
        first | (k_unfold; (try dsimp only)) | skip
        wrow_close
    ))
end Mine

theorem PySem.Challenge.cw_ai0002_01_holds : PySem.Challenge.rw_ai0002_01.Holds :=
  Mine.law_holds
