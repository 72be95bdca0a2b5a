import PyProof.Rows.All
import Wide.All
import OpenK.AllK
import Wide.FinOn
import PySem.Challenge.RW_nb0058_01
open PySem PySem.W PyProof.Rows PySem.Calls
set_option Elab.async false
set_option maxRecDepth 100000
set_option maxHeartbeats 8000000
namespace Mine

section
set_option maxRecDepth 100000 in
set_option maxHeartbeats 8000000 in
open_top hd for PySem.Challenge.rw_nb0058_01
end

section
noncomputable abbrev KF (w : World) : Frag := hd.heap_39 w.params

/-- what every call needs of the heap that the top left -/
structure Gd (w : World) (mg mb : Str → Option Value) (G : Heap) : Prop where
  X : (KF w).In G
  g : G.Ns mainGlobals mg
  b : G.Ns builtinsNs mb
  lim : G.NoLimit
  bi : ∀ x : Str, x ≠ "__name__" → mb x = bootBuiltins x

theorem Gd.keeps {w : World} {mg mb : Str → Option Value} {G h : Heap} (D : Gd w mg mb G) (k : ∀ b o, G.get? b = some o → h.get? b = some o) : Gd w mg mb h :=
  ⟨D.X.keeps k, D.g.keeps k, D.b.keeps k, D.lim.keeps k, D.bi⟩

section
variable {w : World} {mg mb : Str → Option Value} {G : Heap} {prog : Program} {A : Around} {E : Value → Shared → Prop} {s : Shared} {Q : Value → Shared → Prop}

/-- entering a plain def of the text: its body, no way that raises -/
theorem enter {name qual : Str} {params : Arguments} {body : List Stmt} {scope : Scope} {dV kV doc pm cdv ct oc : Value} {an od : Option Addr} {osl : Array (Option Value)} {f : Addr} {args : List Value} {kw : List (Str × Value)} {binds : List (Str × Value)}
    (D : Gd w mg mb s.heap) (hroom : A.depth < recursionLimit)
    (ho : (KF w).lookup f = some ⟨oc, od, .func (fnOf name qual params body scope dV kV doc pm an cdv ct), osl⟩)
    (hcd : codeIn (KF w) cdv qual = true)
    (hbind : BindsTo s (fnOf name qual params body scope dV kV doc pm an cdv ct) ⟨args, kw⟩ binds)
    (hcell : ∀ x ∈ scope.names, x.2 ≠ .cell) (hloc : ∀ y ∈ binds, scope.names.lookup y.1 = some .local)
    (h : ∀ h₁, Fr s.heap s.heap.objs.size h₁ (fun y => binds.reverse.lookup y) →
      wpAny (model prog w) (A.deeper (envOf qual scope s.heap.objs.size f cdv)) (execs body (envOf qual scope s.heap.objs.size f cdv))
        (fun fl s' => Q (match fl with | .ret v => v | _ => .none) s') (fun _ _ => False) { s with heap := h₁, toks := s.toks + binds.length })
    (hco : scope.isCoroutine = false := by rfl) (hgen : scope.isGenerator = false := by rfl) (hk : scope.kind = .function := by rfl) :
    wpAny (model prog w) A (call (.ref f) args kw) Q E s := by
  refine wpAny_call ?_
  refine codeAny_call_def (fd := fnOf name qual params body scope dV kV doc pm an cdv ct) (body := body) (binds := binds) hroom (D.X _ _ ho) rfl D.lim (codeRec_of D.X hcd) rfl hbind hcell hloc (fun h₁ hns hk₁ => ?_) hco hgen hk
  exact wpAny_mono (h h₁ ⟨hns, hk₁, Nat.le_refl _⟩) (fun _ _ x => x) fun _ _ x => x.elim
end
end

section
section
variable {w : World} {mg mb : Str → Option Value} {G : Heap} {prog : Program} {A : Around} {E : Value → Shared → Prop} {s : Shared} {Q : Value → Shared → Prop}

abbrev Grows (h h' : Heap) : Prop := ∀ b o, h.get? b = some o → h'.get? b = some o

def coll (x y : Str) : Int := b2i (decide (y.cps.toList < x.cps.toList)) - b2i (decide (x.cps.toList < y.cps.toList))

theorem strcoll_ {x y : Str} {t u : Tok} (D : Gd w mg mb s.heap) (hA : A.depth < recursionLimit)
    (hQ : ∀ h' tk t', Grows s.heap h' → Q (.int (coll x y) t') { s with heap := h', toks := tk }) :
    wpAny (model prog w) A (call (.ref 21) [.str x t, .str y u]) Q E s := by
  refine enter D hA rfl (by rfl) (BindsTo.of_eq rfl) (by decide) (locs rfl) ?_
  intro h₁ F
  refine wpAny_execs_cons (wpAny_Return_some (wpAny_BinOp (wpAny_Compare1 (ld F rfl (ld F rfl (P.gt_str ?_))))))
  refine wpAny_Compare1 (ld F rfl (ld F rfl (P.lt_str (sub_bool ?_))))
  exact hQ _ _ _ F.keep

theorem strxfrm_ {v : Value} (D : Gd w mg mb s.heap) (hA : A.depth < recursionLimit)
    (hQ : ∀ h' tk, Grows s.heap h' → Q v { s with heap := h', toks := tk }) :
    wpAny (model prog w) A (call (.ref 28) [v]) Q E s := by
  refine enter D hA rfl (by rfl) (BindsTo.of_eq rfl) (by decide) (locs rfl) ?_
  intro h₁ F
  refine wpAny_execs_cons (wpAny_Return_some (ld F rfl ?_))
  exact hQ _ _ F.keep
end
end

section
/-- a piece: none, or a text -/
def PV (p : Option Str) (v : Value) : Prop := match p with
  | none => v = .none
  | some x => ∃ t, v = .str x t
def Small (n : Nat) (p : Option Str) : Prop := ∀ x, p = some x → x.length ≤ n

section
variable {w : World} {mg mb : Str → Option Value} {G : Heap} {prog : Program} {A : Around} {E : Value → Shared → Prop} {s : Shared} {Q : Value → Shared → Prop}

theorem grows_trans {a b c : Heap} (h : Grows a b) (k : Grows b c) : Grows a c := fun x o e => k x o (h x o e)
theorem grows_push {h : Heap} {o : Obj} : Grows h (h.push o) := fun _ _ e => Heap.get?_push_of_some _ e

end
end

section
def dotS : Str := Str.ofString "."
def cS : Str := Str.ofString "C"
/-- what _build_localename makes of two pieces -/
def join2 (p q : Option Str) : Str := match q with
  | none => p.getD cS
  | some y => p.getD cS ++ dotS ++ y

def Unp2 (prog : Program) (w : World) (s : Shared) (a : Addr) (vx vy : Value) : Prop :=
  ∀ (A : Around) (h₁ : Heap) (L : Addr) (m : Str → Option Value) (tk : Nat) (Q : List Value → Shared → Prop) (E : Value → Shared → Prop), A.handled = none → Fr s.heap L h₁ m →
    (∀ h', Fr s.heap L h' m → Q [vx, vy] { s with heap := h', toks := tk }) → wpAny (model prog w) A (unpackItems (.ref a) 2 none) Q E { s with heap := h₁, toks := tk }

theorem str_nil {x : Str} (h : x.length = 0) : x = Str.ofString "" := by
  obtain ⟨a⟩ := x
  have : a = #[] := Array.size_eq_zero_iff.mp h
  subst this; rfl
theorem nil_add_str (x : Str) : Str.ofString "" ++ x = x := by
  obtain ⟨a⟩ := x
  show Str.mk (_ ++ a) = _
  simp [show (Str.ofString "").cps = #[] from rfl]
theorem str_add_nil (x : Str) : x ++ Str.ofString "" = x := by
  obtain ⟨a⟩ := x
  show Str.mk (a ++ _) = _
  simp [show (Str.ofString "").cps = #[] from rfl]

section
variable {w : World} {mg mb : Str → Option Value} {G : Heap} {prog : Program} {A : Around} {E : Value → Shared → Prop} {s : Shared} {Q : Value → Shared → Prop}

theorem Unp2.tup {a : Addr} {vx vy : Value} (hT : IsTup s.heap a #[vx, vy]) : Unp2 prog w s a vx vy := fun _ _ _ _ _ _ _ hh F h =>
  unpackItems_ (items := #[vx, vy]) F (IsTup.keeps hT F.keep) hh rfl h
theorem Unp2.lst {a : Addr} {vx vy : Value} (hT : s.heap.IsList a #[vx, vy]) : Unp2 prog w s a vx vy := fun _ _ _ _ _ _ _ hh F h =>
  kun_items (items := #[vx, vy]) F News.nil (hT.at fun o e => F.keep _ o e) hh rfl fun h' F' _ => h h' F'

theorem add_str' {x y : Str} {t u : Tok} (hl : x.length + y.length ≤ sizeLine) (h : ∀ t' tk, Q (.str (x ++ y) t') { s with toks := tk }) : wpAny (model prog w) A (binaryOp .Add (.str x t) (.str y u)) Q E s := by
  refine P.add_str ?_
  by_cases hx : (x.length == 0) = true
  · have e : x = Str.ofString "" := str_nil (by simpa using hx)
    rw [if_pos hx]
    subst e
    have := h u s.toks
    rw [nil_add_str] at this
    exact this
  · rw [if_neg hx]
    by_cases hy : (y.length == 0) = true
    · have e : y = Str.ofString "" := str_nil (by simpa using hy)
      rw [if_pos hy]
      subst e
      have := h t s.toks
      rw [str_add_nil] at this
      exact this
    · rw [if_neg hy]
      exact ⟨by rw [Str.length_append]; exact hl, h _ _⟩

theorem build_ {a : Addr} {vx vy : Value} {px py : Option Str} (D : Gd w mg mb s.heap) (hA : A.depth < recursionLimit) (hh : A.handled = none) (U : Unp2 prog w s a vx vy) (hx : PV px vx) (hy : PV py vy) (sx : Small 1000 px) (sy : Small 1000 py)
    (hQ : ∀ t h' tk, Grows s.heap h' → Q (.str (join2 px py) t) { s with heap := h', toks := tk }) :
    wpAny (model prog w) A (call (.ref 35) [.ref a]) Q E s := by
  refine enter (binds := [(Str.ofString "localetuple", .ref a)]) D hA rfl (by rfl) (BindsTo.of_eq rfl) (by decide) (locs rfl) ?_
  intro h₁ F
  with_reducible refine wpAny_execs_cons ?_
  with_reducible refine wpAny_Try_except ?_
  have N : News s.heap s.heap.objs.size h₁ [] := News.nil
  iterate 3 walk1
  rw [assign_Tuple]
  with_reducible refine wpAny_bind (wpAny_standAt (wpAny_bind (wpAny_holding ?_)))
  refine U _ _ _ _ _ _ _ hh F ?_
  intro h₂ F₂
  clear N
  have N : News s.heap s.heap.objs.size h₂ [] := News.nil
  show wpAny _ _ (assignInOrder [_, _] [vx, vy]) _ _ _
  rcases px with _ | x <;> rcases py with _ | y
  · cases hx
    cases hy
    repeat' walk1
    exact hQ _ _ _ (Fr.keep (by assumption))
  · cases hx
    obtain ⟨u, rfl⟩ := hy
    have ly := sy y rfl
    repeat' walk1
    exact hQ _ _ _ (Fr.keep (by assumption))
  · obtain ⟨t, rfl⟩ := hx
    cases hy
    repeat' walk1
    exact hQ _ _ _ (Fr.keep (by assumption))
  · obtain ⟨t, rfl⟩ := hx
    obtain ⟨u, rfl⟩ := hy
    have lx := sx x rfl
    have ly := sy y rfl
    repeat' walk1
    exact hQ _ _ _ (Fr.keep (by assumption))
end
end

section
/-- the end of a loop's turn -/
def TurnEnd (h₀ : Heap) (L I : Addr) (oI : Obj) (Jn : (Str → Option Value) → List (Addr × Obj) → Prop) (s : Shared) (R : Result → Shared → Prop) (fl : Flow) (s' : Shared) : Prop := match fl with
  | .next | .cont => ∃ h' tk' m' nx', s' = { s with heap := h', toks := tk' } ∧ Fr h₀ L h' m' ∧ News h₀ L h' ((I, oI) :: nx') ∧ (∀ p ∈ nx', p.1 ≠ I) ∧ Jn m' nx'
  | .brk => R (.ok .next) s'
  | .ret v => R (.ok (.ret v)) s'

theorem ite_again {x : Str} {v u : Option Value} {m : Str → Option Value} : (fun y => if y = x then v else (fun y => if y = x then u else m y) y) = fun y => if y = x then v else m y := by
  funext y
  by_cases e : y = x <;> simp [e]
theorem ite_start {x : Str} {m : Str → Option Value} (h : m x = u) : m = fun y => if y = x then u else m y := by
  funext y
  by_cases e : y = x
  · subst e; simp [h]
  · simp [e]

theorem range_small {a b : Int} (ha : 0 ≤ a) (hb : 0 ≤ b) (ha' : a < 2 ^ 40) (hb' : b < 2 ^ 40) : Builtin.Range.small a b 1 = true :=
  small_one (by omega) (by omega) (by omega) (by omega)
theorem range_size {a b : Int} {n : Nat} (h : b = a + n) : Builtin.Range.rangeSize a b 1 = (n : Int) := by
  subst h
  unfold Builtin.Range.rangeSize
  rw [if_pos (by decide)]
  split <;> omega

section
variable {w : World} {prog : Program} {A : Around} {E : Value → Shared → Prop} {s : Shared} {Q : Value → Shared → Prop}

theorem loopW {R : Result → Shared → Prop} {env : Env} {x : Str} {px : Pos} {body : List Stmt} {I : Addr} {fp : List Addr} {n : Nat} {P : Nat → Value → Prop} {St : Nat → Heap → Prop} {h₀ : Heap} {m₀ : Str → Option Value} {news : List (Addr × Obj)} {L : Addr} (hL : env.locals = L)
    (J : Nat → (Str → Option Value) → List (Addr × Obj) → Prop)
    (W : Walks prog w A I fp [I] n P St) (hI : ∀ i h, St i h → ∃ o, h.get? I = some o)
    (hx : env.kindOf x = some .local) (hp : (env.scope.kind == .class || (env.scope.kind == .module && env.locals != env.globals)) = false)
    (hLf : L ∉ fp) (hIf : I ∈ fp) (hI0 : h₀.get? I = none)
    (hfp : ∀ b ∈ fp, b = I ∨ ∃ o, (h₀.get? b = some o ∨ ∀ i m nx, J i m nx → (b, o) ∈ nx))
    (hst : St 0 s.heap) (F : Fr h₀ L s.heap m₀) (N : News h₀ L s.heap news) (hNI : ∀ p ∈ news, p.1 ≠ I) (hj : J 0 m₀ news)
    (turn : ∀ i v m nx h tk oI, i < n → P i v → J i m nx → (∀ p ∈ nx, p.1 ≠ I) → Fr h₀ L h (fun y => if y = x then some v else m y) → News h₀ L h ((I, oI) :: nx) →
      wpAny (model prog w) A (execs body env) (TurnEnd h₀ L I oI (J (i + 1)) s R) (fun _ _ => False) { s with heap := h, toks := tk })
    (done : ∀ m nx h tk, J n m nx → Fr h₀ L h m → News h₀ L h nx → R (.ok .next) { s with heap := h, toks := tk }) :
    codeAny (model prog w) A (.forLoop (.Name x px) (.ref I) body [] env) R s := by
  subst hL
  have hLI : env.locals ≠ I := fun e => hLf (e ▸ hIf)
  refine codeAny_forLoop (fun k s' => ∃ i m nx h tk, s' = { s with heap := h, toks := tk } ∧ St i h ∧ Fr h₀ env.locals h m ∧ News h₀ env.locals h nx ∧ (∀ p ∈ nx, p.1 ≠ I) ∧ J i m nx ∧ i ≤ n ∧ k = n + 1 - i) ?_ (n + 1)
    ⟨0, m₀, news, s.heap, s.toks, rfl, hst, F, N, hNI, hj, Nat.zero_le _, rfl⟩
  rintro k s' ⟨i, m, nx, h, tk, rfl, hsti, Fi, Ni, hni, hji, hi, rfl⟩
  by_cases hlt : i < n
  · refine W.item i _ _ _ hlt hsti fun v h₁ tk₁ hP hst₁ hk₁ => ?_
    have hkI : ∀ b o, b ≠ I → h.get? b = some o → h₁.get? b = some o := fun b o hb e => hk₁ b o (by simpa using hb) e
    refine wpAny_assign_Name (wpAny_storeName_local hx (Fi.ns.at' fun o e => hkI _ o hLI e) (fun h₂ hn₂ hs₂ => ?_) hp)
    have up : ∀ b o, b ≠ I → b ≠ env.locals → h.get? b = some o → h₂.get? b = some o := fun b o hb hL e => hs₂.extBut b o hL (hkI b o hb e)
    have ne0 : ∀ b o, h₀.get? b = some o → b ≠ I ∧ b ≠ env.locals := fun b o e => ⟨fun q => (by rw [q, hI0] at e; cases e), fun q => Nat.lt_irrefl _ (Nat.lt_of_lt_of_le (Heap.lt_size e) (q ▸ Fi.above))⟩
    have F₂ : Fr h₀ env.locals h₂ (fun y => if y = x then some v else m y) := ⟨hn₂, fun b o e => up b o (ne0 b o e).1 (ne0 b o e).2 (Fi.keep b o e), Fi.above⟩
    obtain ⟨oI, hoI⟩ := hI _ _ hst₁
    have hoI₂ : h₂.get? I = some oI := hs₂.extBut I oI (Ne.symm hLI) hoI
    have N₂ : News h₀ env.locals h₂ ((I, oI) :: nx) := by
      intro p hp
      rcases List.mem_cons.mp hp with rfl | hp
      · exact ⟨hoI₂, Ne.symm hLI, hI0⟩
      · exact ⟨up _ _ (hni p hp) (Ni p hp).2.1 (Ni p hp).1, (Ni p hp).2⟩
    refine wpAny_mono (turn i v m nx h₂ (tk₁ + 1) oI hlt hP hji hni F₂ N₂) (fun fl s₃ h₃ => ?_) fun _ _ e => e.elim
    have fin : (∃ h' tk' m' nx', s₃ = { s with heap := h', toks := tk' } ∧ Fr h₀ env.locals h' m' ∧ News h₀ env.locals h' ((I, oI) :: nx') ∧ (∀ p ∈ nx', p.1 ≠ I) ∧ J (i + 1) m' nx') →
        ∃ m_1, m_1 < n + 1 - i ∧ ∃ i m nx h tk, s₃ = { s with heap := h, toks := tk } ∧ St i h ∧ Fr h₀ env.locals h m ∧ News h₀ env.locals h nx ∧ (∀ p ∈ nx, p.1 ≠ I) ∧ J i m nx ∧ i ≤ n ∧ m_1 = n + 1 - i := by
      rintro ⟨h', tk', m', nx', rfl, F', N', hn', hj'⟩
      refine ⟨n + 1 - (i + 1), by omega, i + 1, m', nx', h', tk', rfl, ?_, F', fun p hp => N' p (.tail _ hp), hn', hj', hlt, rfl⟩
      have st₂ : St (i + 1) h₂ := W.frame _ _ _ hst₁ fun b hb o e => hs₂.extBut b o (fun q => hLf (q ▸ hb)) e
      refine W.frame _ _ _ st₂ fun b hb o e => ?_
      rcases hfp b hb with rfl | ⟨o', h0 | hnx⟩
      · rw [hoI₂] at e; cases e; exact (N' _ (.head _)).1
      · rw [F₂.keep b o' h0] at e; cases e; exact F'.keep b _ h0
      · have e1 := (N₂ _ (.tail _ (hnx i m nx hji))).1
        rw [e1] at e; cases e
        exact (N' _ (.tail _ (hnx _ _ _ hj'))).1
    cases fl with
    | next => exact fin h₃
    | cont => exact fin h₃
    | brk => exact h₃
    | ret v => exact h₃
  · have hin : i = n := by omega
    subst hin
    refine W.done _ _ _ hsti fun h₁ tk₁ hk₁ => wpAny_execs_nil ?_
    have hkI : ∀ b o, b ≠ I → h.get? b = some o → h₁.get? b = some o := fun b o hb e => hk₁ b o (by simpa using hb) e
    refine done m nx h₁ tk₁ hji ⟨Fi.ns.at' fun o e => hkI _ o hLI e, fun b o e => hkI b o (fun q => (by rw [q, hI0] at e; cases e)) (Fi.keep b o e), Fi.above⟩ fun p hp => ⟨hkI _ _ (hni p hp) (Ni p hp).1, (Ni p hp).2⟩

/-- for x in a list: the list lies in the base or in the ledger -/
theorem iterList {R : Result → Shared → Prop} {env : Env} {x : Str} {px : Pos} {body : List Stmt} {h₀ : Heap} {m₀ : Str → Option Value} {news : List (Addr × Obj)} {l : Addr} {vs : List Value} {nn : Nat} {L : Addr} (hL : env.locals = L)
    (J : Nat → (Str → Option Value) → List (Addr × Obj) → Prop) (hh : A.handled = none)
    (hx : env.kindOf x = some .local) (hp : (env.scope.kind == .class || (env.scope.kind == .module && env.locals != env.globals)) = false)
    (hl : s.heap.get? l = some (listOf vs.toArray nn)) (hlL : l ≠ L)
    (hlk : h₀.get? l = some (listOf vs.toArray nn) ∨ ∀ i m nx, J i m nx → (l, listOf vs.toArray nn) ∈ nx)
    (F : Fr h₀ L s.heap m₀) (N : News h₀ L s.heap news) (hj : J 0 m₀ news)
    (turn : ∀ i v m nx h tk I oI, vs[i]? = some v → J i m nx → (∀ p ∈ nx, p.1 ≠ I) → Fr h₀ L h (fun y => if y = x then some v else m y) → News h₀ L h ((I, oI) :: nx) →
      wpAny (model prog w) A (execs body env) (TurnEnd h₀ L I oI (J (i + 1)) s R) (fun _ _ => False) { s with heap := h, toks := tk })
    (done : ∀ m nx h tk, J vs.length m nx → Fr h₀ L h m → News h₀ L h nx → R (.ok .next) { s with heap := h, toks := tk }) :
    wpAny (model prog w) A (pyIter (.ref l)) (fun it s₂ => codeAny (model prog w) A (.forLoop (.Name x px) it body [] env) R s₂) E s := by
  subst hL
  have hls : s.heap.IsList l vs.toArray := ⟨_, hl, rfl, nn, rfl⟩
  have hne : l ≠ s.heap.objs.size := Nat.ne_of_lt (Heap.lt_size hl)
  refine wpAny_pyIter_list hls ?_
  have W := Walks.list (prog := prog) (w := w) hh s.heap.objs.size l hne vs.toArray
  have hlen : vs.toArray.size = vs.length := by simp
  rw [hlen] at W
  refine loopW (news := news) rfl J W (fun i h st => let ⟨o, ho, _⟩ := st.1; ⟨o, ho⟩) hx hp ?_ (by simp) (next_is_new F) ?_ ⟨⟨_, Heap.get?_push_size _ rfl, rfl, rfl⟩, hls.at fun o e => Heap.get?_push_of_some _ e⟩ (F.push _)
    (fun p hp => ⟨Heap.get?_push_of_some _ (N p hp).1, (N p hp).2⟩) (fun p hp => Nat.ne_of_lt (Heap.lt_size (N p hp).1)) hj ?_ ?_
  · intro hm
    rcases List.mem_cons.mp hm with e | hm
    · exact absurd F.ns.lt (e ▸ Nat.lt_irrefl _)
    · exact hlL (List.mem_singleton.mp hm).symm
  · intro b hb
    rcases List.mem_cons.mp hb with e | hb
    · exact .inl e
    · rw [List.mem_singleton.mp hb]
      exact .inr ⟨_, hlk⟩
  · intro i v m nx h tk oI hi hP hJ hn F' N'
    exact turn i v m nx h tk _ oI (by simpa using hP) hJ hn F' N'
  · intro m nx h tk hJ F' N'
    exact done m nx h tk hJ F' N'

/-- for x in range(a, b) -/
theorem iterRange {R : Result → Shared → Prop} {env : Env} {x : Str} {px : Pos} {body : List Stmt} {h₀ : Heap} {m₀ : Str → Option Value} {news : List (Addr × Obj)} {r : Addr} {a b : Int} {t u v : Tok} {n : Nat} {L : Addr} (hL : env.locals = L)
    (J : Nat → (Str → Option Value) → List (Addr × Obj) → Prop) (hh : A.handled = none)
    (hx : env.kindOf x = some .local) (hp : (env.scope.kind == .class || (env.scope.kind == .module && env.locals != env.globals)) = false)
    (hr : IsRange s.heap r a b 1 t u v) (hsmall : Builtin.Range.small a b 1 = true) (hsz : Builtin.Range.rangeSize a b 1 = (n : Int))
    (F : Fr h₀ L s.heap m₀) (N : News h₀ L s.heap news) (hj : J 0 m₀ news)
    (turn : ∀ i m nx h tk I oI t', i < n → J i m nx → (∀ p ∈ nx, p.1 ≠ I) → Fr h₀ L h (fun y => if y = x then some (.int (a + i) t') else m y) → News h₀ L h ((I, oI) :: nx) →
      wpAny (model prog w) A (execs body env) (TurnEnd h₀ L I oI (J (i + 1)) s R) (fun _ _ => False) { s with heap := h, toks := tk })
    (done : ∀ m nx h tk, J n m nx → Fr h₀ L h m → News h₀ L h nx → R (.ok .next) { s with heap := h, toks := tk }) :
    wpAny (model prog w) A (pyIter (.ref r)) (fun it s₂ => codeAny (model prog w) A (.forLoop (.Name x px) it body [] env) R s₂) E s := by
  subst hL
  refine wpAny_pyIter_range hr hsmall ?_
  have W := Walks.range (prog := prog) (w := w) hh s.heap.objs.size a 1 n
  refine loopW (news := news) rfl J W (fun i h st => ⟨_, st⟩) hx hp ?_ (by simp) (next_is_new F) (fun b hb => .inl (List.mem_singleton.mp hb)) ?_ (F.push _)
    (fun p hp => ⟨Heap.get?_push_of_some _ (N p hp).1, (N p hp).2⟩) (fun p hp => Nat.ne_of_lt (Heap.lt_size (N p hp).1)) hj ?_ ?_
  · intro hm
    exact absurd F.ns.lt ((List.mem_singleton.mp hm) ▸ Nat.lt_irrefl _)
  · show IsRangeIter _ _ _ _ _
    rw [hsz]; simpa using Heap.get?_push_size _ rfl
  · rintro i v m nx h tk oI hi ⟨t', rfl⟩ hJ hn F' N'
    rw [show a + (i : Int) * 1 = a + i by omega] at F'
    exact turn i m nx h tk _ oI t' hi hJ hn F' N'
  · intro m nx h tk hJ F' N'
    exact done m nx h tk hJ F' N'
/-- the same where a turn neither breaks nor returns: what follows the loop stays out of the turn -/
theorem iterListN {R : Result → Shared → Prop} {env : Env} {x : Str} {px : Pos} {body : List Stmt} {h₀ : Heap} {m₀ : Str → Option Value} {news : List (Addr × Obj)} {l : Addr} {vs : List Value} {nn : Nat} {L : Addr} (hL : env.locals = L)
    (J : Nat → (Str → Option Value) → List (Addr × Obj) → Prop) (hh : A.handled = none)
    (hx : env.kindOf x = some .local) (hp : (env.scope.kind == .class || (env.scope.kind == .module && env.locals != env.globals)) = false)
    (hl : s.heap.get? l = some (listOf vs.toArray nn)) (hlL : l ≠ L)
    (hlk : h₀.get? l = some (listOf vs.toArray nn) ∨ ∀ i m nx, J i m nx → (l, listOf vs.toArray nn) ∈ nx)
    (F : Fr h₀ L s.heap m₀) (N : News h₀ L s.heap news) (hj : J 0 m₀ news)
    (turn : ∀ (R : Result → Shared → Prop) i v m nx h tk I oI, vs[i]? = some v → J i m nx → (∀ p ∈ nx, p.1 ≠ I) → Fr h₀ L h (fun y => if y = x then some v else m y) → News h₀ L h ((I, oI) :: nx) →
      wpAny (model prog w) A (execs body env) (TurnEnd h₀ L I oI (J (i + 1)) s R) (fun _ _ => False) { s with heap := h, toks := tk })
    (done : ∀ m nx h tk, J vs.length m nx → Fr h₀ L h m → News h₀ L h nx → R (.ok .next) { s with heap := h, toks := tk }) :
    wpAny (model prog w) A (pyIter (.ref l)) (fun it s₂ => codeAny (model prog w) A (.forLoop (.Name x px) it body [] env) R s₂) E s := iterList hL J hh hx hp hl hlL hlk F N hj (turn R) done

/-- the same where a turn neither breaks nor returns: what follows the loop stays out of the turn -/
theorem iterRangeN {R : Result → Shared → Prop} {env : Env} {x : Str} {px : Pos} {body : List Stmt} {h₀ : Heap} {m₀ : Str → Option Value} {news : List (Addr × Obj)} {r : Addr} {a b : Int} {t u v : Tok} {n : Nat} {L : Addr} (hL : env.locals = L)
    (J : Nat → (Str → Option Value) → List (Addr × Obj) → Prop) (hh : A.handled = none)
    (hx : env.kindOf x = some .local) (hp : (env.scope.kind == .class || (env.scope.kind == .module && env.locals != env.globals)) = false)
    (hr : IsRange s.heap r a b 1 t u v) (hsmall : Builtin.Range.small a b 1 = true) (hsz : Builtin.Range.rangeSize a b 1 = (n : Int))
    (F : Fr h₀ L s.heap m₀) (N : News h₀ L s.heap news) (hj : J 0 m₀ news)
    (turn : ∀ (R : Result → Shared → Prop) i m nx h tk I oI t', i < n → J i m nx → (∀ p ∈ nx, p.1 ≠ I) → Fr h₀ L h (fun y => if y = x then some (.int (a + i) t') else m y) → News h₀ L h ((I, oI) :: nx) →
      wpAny (model prog w) A (execs body env) (TurnEnd h₀ L I oI (J (i + 1)) s R) (fun _ _ => False) { s with heap := h, toks := tk })
    (done : ∀ m nx h tk, J n m nx → Fr h₀ L h m → News h₀ L h nx → R (.ok .next) { s with heap := h, toks := tk }) :
    wpAny (model prog w) A (pyIter (.ref r)) (fun it s₂ => codeAny (model prog w) A (.forLoop (.Name x px) it body [] env) R s₂) E s := iterRange hL J hh hx hp hr hsmall hsz F N hj (turn R) done
end
end

section
/-- each text once, in the order of their coming -/
def addNew (acc : List Str) (x : Str) : List Str := if acc.any (· == x) then acc else acc ++ [x]
def firsts (xs : List Str) : List Str := xs.foldl addNew []

section
variable {w : World} {mg mb : Str → Option Value} {G : Heap} {prog : Program} {A : Around} {E : Value → Shared → Prop} {s : Shared} {Q : Value → Shared → Prop}

theorem firsts_succ {xs : List Str} {i : Nat} {x : Str} (h : xs[i]? = some x) : firsts (xs.take (i + 1)) = addNew (firsts (xs.take i)) x := by
  unfold firsts
  rw [List.take_add_one, h]
  simp

theorem addNew_length (acc : List Str) (x : Str) : (addNew acc x).length ≤ acc.length + 1 := by
  unfold addNew; split <;> simp
theorem foldl_addNew_length : ∀ (xs acc : List Str), (xs.foldl addNew acc).length ≤ acc.length + xs.length
  | [], acc => by simp
  | x :: xs, acc => by
    have h1 := foldl_addNew_length xs (addNew acc x)
    have h2 := addNew_length acc x
    rw [List.foldl_cons, List.length_cons]; omega
theorem firsts_length_le (xs : List Str) : (firsts xs).length ≤ xs.length := by
  have := foldl_addNew_length xs []
  simpa [firsts] using this

theorem dedupU_ {l : Addr} {vs : List Value} {xs : List Str} {nn : Nat} (D : Gd w mg mb s.heap) (hA : A.depth < recursionLimit) (hh : A.handled = none)
    (hl : s.heap.get? l = some (listOf vs.toArray nn)) (hs : StrsAre vs xs) (hlen : xs.length ≤ 1000)
    (hQ : ∀ a vs' n' h' tk, s.heap.get? a = none → h'.get? a = some (listOf vs'.toArray n') → StrsAre vs' (firsts xs) → Grows s.heap h' → Q (.ref a) { s with heap := h', toks := tk }) :
    wpAny (model prog w) A (call (.ref 50) [.ref l]) Q E s := by
  refine enter (binds := [(Str.ofString "unhashable_params", .ref l)]) D hA rfl (by rfl) (BindsTo.of_eq rfl) (by decide) (locs rfl) ?_
  intro h₁ F
  have X := D.X
  have N : News s.heap s.heap.objs.size h₁ [] := News.nil
  iterate 6 walk1
  rename Fr _ _ _ _ => F
  rename News _ _ _ _ => N
  rename Addr => a
  with_reducible refine wpAny_execs_cons ?_
  with_reducible refine wpAny_For ?_ (by intro _; with_unfolding_all rfl)
  walk1
  have hlL : l ≠ s.heap.objs.size := Nat.ne_of_lt (Heap.lt_size hl)
  have hlen2 : vs.length = xs.length := hs.length
  refine iterListN (L := s.heap.objs.size) (news := [(a, listOf #[] 0)]) (h₀ := s.heap) rfl (fun i m nx => ∃ u vs' n', m = (fun y => if y = Str.ofString "t" then u else if y = Str.ofString "new_unhashable" then some (.ref a) else List.lookup y [(Str.ofString "unhashable_params", Value.ref l)].reverse) ∧ nx = [(a, listOf vs'.toArray n')] ∧ StrsAre vs' (firsts (xs.take i))) hh rfl rfl (F.keep _ _ hl) hlL (.inl hl) F N ⟨none, [], 0, ?_, rfl, .nil⟩ ?_ ?_
  · exact ite_start rfl
  · rintro R1 i v m nx h tk I oI hv ⟨u, vs', n', rfl, rfl, hs'⟩ hne F N
    obtain ⟨x, t, rfl, hx⟩ := hs.item i v hv
    have hIa : a ≠ I := hne _ (.head _)
    have hi : i < xs.length := (List.getElem?_eq_some_iff.mp hx).1
    have hlv : vs'.length ≤ 1000 := by
      have e1 := hs'.length
      have e2 := firsts_length_le (xs.take i)
      have e3 : (xs.take i).length ≤ xs.length := by rw [List.length_take]; omega
      omega
    have hsz : vs'.toArray.size ≤ sizeLine := by rw [List.size_toArray, sizeLine_eq]; omega
    iterate 7 walk1
    split
    · rename_i hb
      iterate 9 walk1
      with_reducible refine append_K F N (.tail (Ne.symm hIa) (.head (List.forall_mem_nil _))) ?_ hsz
      intro h' F' N'
      repeat' walk1
      refine ⟨_, _, _, _, rfl, F', N', ?_, some (.str x t), vs' ++ [.str x t], n' + 1, ?_, by rw [List.push_toArray], ?_⟩
      · intro p hp; rw [List.mem_singleton.mp hp]; exact hIa
      · exact ite_again
      · rw [firsts_succ hx, addNew, if_neg (by rw [Bool.not_eq_true', ] at hb; rw [hb]; simp)]
        exact hs'.append' (.cons x t .nil)
    · rename_i hb
      repeat' walk1
      refine ⟨_, _, _, _, rfl, F, N, hne, some (.str x t), vs', n', ?_, rfl, ?_⟩
      · exact ite_again
      · rw [firsts_succ hx, addNew, if_pos (by simpa using hb)]
        exact hs'
  · rintro m nx h tk ⟨u, vs', n', rfl, rfl, hs'⟩ F N
    iterate 3 walk1
    rw [List.take_of_length_le (by omega)] at hs'
    exact hQ a vs' n' h tk (N _ (.head _)).2.2 (N _ (.head _)).1 hs' F.keep
end
end

section
/-- the tests of a comprehension's clause -/
abbrev testsOf (ifs : List Expr) (env : Env) : Sem Bool := forIn ifs true fun c r => if r = true then do let ok ← isTrue c env (eval c env); pure (ForInStep.yield ok) else pure (ForInStep.yield r)

section
variable {w : World} {prog : Program} {A : Around} {E : Value → Shared → Prop} {s : Shared}

/-- what a comprehension's turn may do: grow the heap, keep J -/
def TurnC (prog : Program) (w : World) (A : Around) (s : Shared) (ifs : List Expr) (elt : Expr) (cenv : Env) (Jn : List Value → Heap → Prop) (ys : List Value) (h : Heap) (tk : Nat) : Prop :=
  wpAny (model prog w) A (testsOf ifs cenv) (fun ok s₃ => ∃ h₃ tk₃, s₃ = { s with heap := h₃, toks := tk₃ } ∧ Grows h h₃ ∧
    if ok = true then wpAny (model prog w) A (eval elt cenv) (fun y s₄ => ∃ h₄ tk₄, s₄ = { s with heap := h₄, toks := tk₄ } ∧ Grows h h₄ ∧ Jn (ys ++ [y]) h₄) (fun _ _ => False) s₃
    else Jn ys h₃) (fun _ _ => False) { s with heap := h, toks := tk }

theorem compLoop1 {R : Result → Shared → Prop} {elt iter : Expr} {x : Str} {px : Pos} {ifs : List Expr} {scope : Scope} {pos : Pos} {I D : Addr} {fp wr : List Addr} {n : Nat} {P : Nat → Value → Prop} {St : Nat → Heap → Prop}
    {cenv : Env} {m : Str → Option Value} (J : Nat → List Value → Heap → Prop) (W : Walks prog w A I fp wr n P St)
    (hx : cenv.kindOf x = some .local) (hp : (cenv.scope.kind == .class || (cenv.scope.kind == .module && cenv.locals != cenv.globals)) = false)
    (hDC : D < cenv.locals) (hDf : D ∉ fp) (hfC : ∀ b ∈ fp, b < cenv.locals)
    (hst : St 0 s.heap) (hacc : s.heap.PlainList D #[]) (hn : s.heap.Ns cenv.locals m) (hJ : J 0 [] s.heap)
    (stab : ∀ i ys h h', J i ys h → (∀ b o, cenv.locals < b → h.get? b = some o → h'.get? b = some o) → J i ys h')
    (turn : ∀ i v ys h tk m₂, i < n → P i v → h.Ns cenv.locals m₂ → m₂ x = some v → (∀ b o, b ≠ cenv.locals → b ∉ wr → b ≠ D → s.heap.get? b = some o → h.get? b = some o) → J i ys h →
      TurnC prog w A s ifs elt cenv (J (i + 1)) ys h tk)
    (hR : ∀ h' tk m' ys, h'.Ns cenv.locals m' → h'.PlainList D (List.toArray ys) → J n ys h' → ys.length ≤ n → (∀ b o, b ≠ cenv.locals → b ∉ wr → b ≠ D → s.heap.get? b = some o → h'.get? b = some o) → R (.ok .next) { s with heap := h', toks := tk })
    (hsz : n ≤ sizeLine) :
    codeAny (model prog w) A (.compLoop (.ListComp elt [⟨.Name x px, iter, ifs, 0⟩] scope pos) 0 (.ref I) (.ref D) cenv) R s := by
  have hCf : cenv.locals ∉ fp := fun hm => Nat.lt_irrefl _ (hfC _ hm)
  have hCw : cenv.locals ∉ wr := fun h => hCf (W.sub _ h)
  have hDw : D ∉ wr := fun h => hDf (W.sub _ h)
  have hDC' : D ≠ cenv.locals := Nat.ne_of_lt hDC
  have hgw : ∀ b, cenv.locals < b → b ∉ wr ∧ b ≠ D ∧ b ≠ cenv.locals := fun b hb => ⟨fun hm => Nat.lt_irrefl _ (Nat.lt_trans hb (hfC b (W.sub _ hm))), Nat.ne_of_gt (Nat.lt_trans hDC hb), Nat.ne_of_gt hb⟩
  refine codeAny_compLoop_tests
    (fun k s' => ∃ i h' tk m' ys, s' = { s with heap := h', toks := tk } ∧ St i h' ∧ h'.PlainList D (List.toArray ys) ∧ h'.Ns cenv.locals m' ∧ J i ys h' ∧ ys.length ≤ i ∧ i ≤ n ∧ k = n + 1 - i ∧
      (∀ b o, b ≠ cenv.locals → b ∉ wr → b ≠ D → s.heap.get? b = some o → h'.get? b = some o)) ?_ (n + 1)
    ⟨0, s.heap, s.toks, m, [], rfl, hst, hacc, hn, hJ, Nat.le_refl _, Nat.zero_le _, rfl, fun _ _ _ _ _ e => e⟩
  rintro k s' ⟨i, H, tk, m', ys, rfl, hst', hacc', hn', hJ', hyi, hi, rfl, hk⟩
  by_cases hlt : i < n
  · refine W.item i _ _ _ hlt hst' fun v h₁ tk₁ hPv hst₁ hk₁ => ?_
    refine wpAny_assign_Name (wpAny_storeName_local hx (hn'.at' fun o e => hk₁ _ o hCw e) (fun h₂ hn₂ hs₂ => ?_) hp)
    have up₂ : ∀ b o, b ≠ cenv.locals → b ∉ wr → H.get? b = some o → h₂.get? b = some o := fun b o hbC hbf e => hs₂.extBut b o hbC (hk₁ b o hbf e)
    have hst₂ : St (i + 1) h₂ := W.frame _ _ _ hst₁ fun b hb o e => hs₂.extBut b o (fun h => hCf (h ▸ hb)) e
    have hJ₂ : J i ys h₂ := stab _ _ _ _ hJ' fun b o hb e => up₂ b o (hgw b hb).2.2 (hgw b hb).1 e
    refine wpAny_mono (turn i v ys h₂ _ _ hlt hPv hn₂ (by simp) (fun b o hbC hbf hbD e => up₂ b o hbC hbf (hk b o hbC hbf hbD e)) hJ₂) (fun ok s₃ h₃ => ?_) fun _ _ e => e.elim
    obtain ⟨h₃, tk₃, rfl, g₃, h₃'⟩ := h₃
    cases ok with
    | false =>
      simp only [Bool.false_eq_true, if_false] at h₃' ⊢
      exact ⟨n + 1 - (i + 1), by omega, i + 1, h₃, tk₃, _, ys, rfl, W.frame _ _ _ hst₂ fun b _ o e => g₃ b o e, hacc'.at fun o e => g₃ _ o (up₂ D o hDC' hDw e), hn₂.keeps g₃, h₃', by omega, hlt, rfl,
        fun b o hbC hbf hbD e => g₃ b o (up₂ b o hbC hbf (hk b o hbC hbf hbD e))⟩
    | true =>
      simp only [if_true] at h₃' ⊢
      refine wpAny_mono h₃' (fun y s₄ h₄ => ?_) fun _ _ e => e.elim
      obtain ⟨h₄, tk₄, rfl, g₄, hJ₄⟩ := h₄
      refine wpAny_list_append_plain (hsz := by rw [List.size_toArray]; omega) (hacc'.at fun o e => g₄ _ o (up₂ D o hDC' hDw e)) fun h₅ hl₅ hs₅ => ?_
      refine ⟨n + 1 - (i + 1), by omega, i + 1, h₅, tk₄, _, ys ++ [y], rfl, ?_, by rw [List.push_toArray] at hl₅; exact hl₅, (hn₂.keeps g₄).sameBut hs₅ (Ne.symm hDC'), ?_, by rw [List.length_append, List.length_singleton]; omega, hlt, rfl,
        fun b o hbC hbf hbD e => hs₅.extBut b o hbD (g₄ b o (up₂ b o hbC hbf (hk b o hbC hbf hbD e)))⟩
      · exact W.frame _ _ h₅ hst₂ fun b hb o e => hs₅.extBut b o (fun h => hDf (h ▸ hb)) (g₄ b o e)
      · exact stab _ _ _ _ hJ₄ fun b o hb e => hs₅.extBut b o (hgw b hb).2.1 e
  · have hin : i = n := by omega
    subst hin
    refine W.done _ _ _ hst' fun h₁ tk₁ hk₁ => ?_
    exact hR h₁ tk₁ m' ys (hn'.at' fun o e => hk₁ _ o hCw e) (hacc'.at fun o e => hk₁ _ o hDw e) (stab _ _ _ _ hJ' fun b o hb e => hk₁ b o (hgw b hb).1 e) hyi
      fun b o hbC hbf hbD e => hk₁ b o hbf (hk b o hbC hbf hbD e)

/-- a comprehension's block: a new list, a new block of names, the loop -/
theorem compBlock1 {env : Env} {elt iter : Expr} {x : Str} {px : Pos} {ifs : List Expr} {scope : Scope} {cl : List (Str × Addr)} {pos : Pos} {I : Addr} {fp wr : List Addr} {n : Nat} {P : Nat → Value → Prop}
    {St : Nat → Heap → Prop} (J : Addr → Nat → List Value → Heap → Prop) (W : Walks prog w A I fp wr n P St) (hsz : n ≤ sizeLine) {RR : Value → Addr → Result → Shared → Prop}
    (hcell : ∀ y ∈ scope.names, y.2 ≠ .cell) (hkind : scope.kind = .function) (hx : scope.names.lookup x = some .local) (hst : St 0 s.heap) (hfp : ∀ b ∈ fp, b < s.heap.objs.size)
    (hJ : ∀ C h, J C 0 [] h)
    (stab : ∀ C i ys h h', J C i ys h → (∀ b o, C < b → h.get? b = some o → h'.get? b = some o) → J C i ys h')
    (turn : ∀ C i v ys h tk m₂, s.heap.objs.size < C → i < n → P i v → h.Ns C m₂ → m₂ x = some v → (∀ b o, b ∉ wr → s.heap.get? b = some o → h.get? b = some o) → J C i ys h →
      TurnC prog w A s ifs elt (compEnvC scope cl C env) (J C (i + 1)) ys h tk)
    (hRR : ∀ D C h' tk m' ys, s.heap.get? D = none → s.heap.objs.size < C → D < C → h'.Ns C m' → h'.PlainList D (List.toArray ys) → J C n ys h' → ys.length ≤ n →
      (∀ b o, b ∉ wr → s.heap.get? b = some o → h'.get? b = some o) → RR (.ref D) C (.ok .next) { s with heap := h', toks := tk }) :
    wpAny (model prog w) A (newList []) (fun acc s₃ => wpAny (model prog w) A (newFunctionEnv scope env.globals cl [] env.qual none .none (some env)) (fun cenv s₄ =>
      codeAny (model prog w) A (.compStart (.ListComp elt [⟨.Name x px, iter, ifs, 0⟩] scope pos) 0 (.ref I) acc { cenv with scope := relabel scope env }) (RR acc cenv.locals) s₄) E s₃) E s := by
  refine wpAny_newObj_type (wpAny_newFunctionEnv hcell (by intro y hy; simp at hy) (fun h₁ hns₁ hsb₁ => ?_) hkind)
  dsimp only at hns₁ hsb₁ ⊢
  generalize hH2 : s.heap.push { cls := .type "list", dict := none, data := .seq ([] : List Value).toArray } = H2 at hns₁ hsb₁ ⊢
  have hC : H2.objs.size = s.heap.objs.size + 1 := by rw [← hH2, Heap.size_push]
  have hDC : s.heap.objs.size < H2.objs.size := by rw [hC]; exact Nat.lt_succ_self _
  have below : ∀ b, b < s.heap.objs.size → b ≠ H2.objs.size ∧ b ≠ s.heap.objs.size := fun b hb => ⟨by rw [hC]; exact Nat.ne_of_lt (Nat.lt_succ_of_lt hb), Nat.ne_of_lt hb⟩
  have hDf : s.heap.objs.size ∉ fp := fun hm => Nat.lt_irrefl _ (hfp _ hm)
  have old : ∀ b o, s.heap.get? b = some o → h₁.get? b = some o := fun b o e => hsb₁.extBut b o (below b (Heap.lt_size e)).1 (Heap.get?_push_of_some _ (hH2 ▸ Heap.get?_push_of_some _ e))
  have hacc : h₁.PlainList s.heap.objs.size #[] := ⟨_, hsb₁.extBut _ _ (Nat.ne_of_lt hDC) (Heap.get?_push_of_some _ (hH2 ▸ Heap.get?_push_size _ rfl))⟩
  have hst₁ : St 0 h₁ := W.frame _ _ _ hst fun b _ o e => old b o e
  have fresh : ∀ a, s.heap.objs.size ≤ a → s.heap.get? a = none := fun a ha => by
    cases e : s.heap.get? a with
    | none => rfl
    | some o' => exact absurd (Heap.lt_size e) (Nat.not_lt.mpr ha)
  have loop : ∀ s₃ : Shared, s₃ = { s with heap := h₁, toks := s.toks + ([] : List (Str × Value)).length } →
      codeAny (model prog w) A (.compLoop (.ListComp elt [⟨.Name x px, iter, ifs, 0⟩] scope pos) 0 (.ref I) (.ref s.heap.objs.size) (compEnvC scope cl H2.objs.size env))
        (RR (.ref s.heap.objs.size) H2.objs.size) s₃ := by
    rintro s₃ rfl
    refine compLoop1 (cenv := compEnvC scope cl H2.objs.size env) (J H2.objs.size) W (lookup_relabel_local hx) (by simp [compEnvC, relabel, hkind]) hDC hDf
      (fun b hb => by show b < H2.objs.size; rw [hC]; exact Nat.lt_succ_of_lt (hfp b hb)) hst₁ hacc hns₁ (hJ _ _) (stab _)
      (fun i v ys h tk m₂ hi hP hn hm hk hj => turn _ i v ys h tk m₂ hDC hi hP hn hm (fun b o hbf e => hk b o (below b (Heap.lt_size e)).1 hbf (below b (Heap.lt_size e)).2 (old b o e)) hj)
      (fun h' tk m' ys hn hpl hj hle hk => ?_) hsz
    exact hRR _ _ h' tk m' ys (fresh _ (Nat.le_refl _)) hDC hDC hn hpl hj hle fun b o hbf e => hk b o (below b (Heap.lt_size e)).1 hbf (below b (Heap.lt_size e)).2 (old b o e)
  exact codeAny_compStart_list (loop _ rfl) (W.self 0 _ _ _ hst₁ (loop _ rfl))

/-- [elt for x in iter if ..] -/
theorem listComp1 {env : Env} {elt iter : Expr} {x : Str} {px : Pos} {ifs : List Expr} {scope : Scope} {cl : List (Str × Addr)} {pos : Pos} {Q : Value → Shared → Prop}
    (hclos : closureFor scope env = pure cl) (hcell : ∀ y ∈ scope.names, y.2 ≠ .cell) (hkind : scope.kind = .function)
    (hnames : ∀ y ∈ scope.names, y.2 = .local → scope.names.lookup y.1 = some .local) (hx : scope.names.lookup x = some .local)
    (h : wpAny (model prog w) A (eval iter env) (fun xv s₁ => wpAny (model prog w) A (pyIter xv) (fun it s₂ => ∃ (I : Addr) (fp wr : List Addr) (n : Nat) (P : Nat → Value → Prop) (St : Nat → Heap → Prop) (J : Addr → Nat → List Value → Heap → Prop),
      it = .ref I ∧ Walks prog w A I fp wr n P St ∧ n ≤ sizeLine ∧ St 0 s₂.heap ∧ (∀ b ∈ fp, b < s₂.heap.objs.size) ∧ (∀ C h, J C 0 [] h) ∧
      (∀ C i ys h h', J C i ys h → (∀ b o, C < b → h.get? b = some o → h'.get? b = some o) → J C i ys h') ∧
      (∀ C i v ys h tk m₂, s₂.heap.objs.size < C → i < n → P i v → h.Ns C m₂ → m₂ x = some v → (∀ b o, b ∉ wr → s₂.heap.get? b = some o → h.get? b = some o) → J C i ys h →
        TurnC prog w A s₂ ifs elt (compEnvC scope cl C env) (J C (i + 1)) ys h tk) ∧
      (∀ D C h' tk ys, s₂.heap.get? D = none → s₂.heap.objs.size < C → D < C → h'.PlainList D (List.toArray ys) → J C n ys h' → ys.length ≤ n →
        (∀ b o, b ∉ wr → s₂.heap.get? b = some o → h'.get? b = some o) → Q (.ref D) { s₂ with heap := h', toks := tk })) E s₁) E s)
    (hs : ∀ x, foldedSetIterable iter env x = pure x := by intro _; rfl) :
    wpAny (model prog w) A (eval (.ListComp elt [⟨.Name x px, iter, ifs, 0⟩] scope pos) env) Q E s := by
  rw [eval_ListComp]
  refine wpAny_comprehension_free (use := none) rfl hs hclos hkind hnames (wpAny_mono h (fun xv s₁ h₁ => wpAny_mono h₁ (fun it s₂ h₂ => ?_) fun _ _ e => e) fun _ _ e => e)
  obtain ⟨I, fp, wr, n, P, St, J, rfl, W, hsz, hst, hfp, hJ, stab, turn, hQ⟩ := h₂
  refine compBlock1 (RR := fun acc C => compPost (model prog w) A E none Q acc C) J W hsz hcell hkind hx hst hfp hJ stab turn ?_
  intro D C h' tk m' ys hD hC hDC hn hpl hj hle hk
  exact ⟨m', hn, fun h'' hs'' => hQ D C h'' tk ys hD hC hDC (hpl.extBut hs''.extBut (Nat.ne_of_lt hDC)) (stab _ _ _ _ _ hj fun b o hb e => hs''.extBut b o (Nat.ne_of_gt hb) e) hle
    fun b o hbf e => hs''.extBut b o (Nat.ne_of_lt (Nat.lt_trans (Heap.lt_size e) hC)) (hk b o hbf e)⟩
end
end

section
section
variable {w : World} {mg mb : Str → Option Value} {h : Heap}
theorem Gd.global (D : Gd w mg mb h) {x : Str} {v : Value} (e : nsIn (KF w) mainGlobals x = some (some v)) : mg x = some v := mg_of D.X D.g e
theorem Gd.noGlobal (D : Gd w mg mb h) {x : Str} (e : nsIn (KF w) mainGlobals x = some none) : mg x = none := mg_none_of D.X D.g e

theorem g21 (w : World) : nsIn (KF w) mainGlobals (Str.ofString "_strcoll") = some (some (.ref 21)) := by kernel_rfl
theorem g28 (w : World) : nsIn (KF w) mainGlobals (Str.ofString "_strxfrm") = some (some (.ref 28)) := by kernel_rfl
theorem g35 (w : World) : nsIn (KF w) mainGlobals (Str.ofString "_build_localename") = some (some (.ref 35)) := by kernel_rfl
theorem g43 (w : World) : nsIn (KF w) mainGlobals (Str.ofString "_deduplicate") = some (some (.ref 43)) := by kernel_rfl
theorem g50 (w : World) : nsIn (KF w) mainGlobals (Str.ofString "_deduplicate_unhashable") = some (some (.ref 50)) := by kernel_rfl
theorem g57 (w : World) : nsIn (KF w) mainGlobals (Str.ofString "_compare_args_orderless") = some (some (.ref 57)) := by kernel_rfl
theorem g64 (w : World) : nsIn (KF w) mainGlobals (Str.ofString "_law_piece") = some (some (.ref 64)) := by kernel_rfl
theorem g69 (w : World) : nsIn (KF w) mainGlobals (Str.ofString "_law_ways") = some (some (.ref 69)) := by kernel_rfl
theorem g74 (w : World) : nsIn (KF w) mainGlobals (Str.ofString "_law_first") = some (some (.ref 74)) := by kernel_rfl
theorem g79 (w : World) : nsIn (KF w) mainGlobals (Str.ofString "_law_texts") = some (some (.ref 79)) := by kernel_rfl
theorem g84 (w : World) : nsIn (KF w) mainGlobals (Str.ofString "_law_lined") = some (some (.ref 84)) := by kernel_rfl
theorem g91 (w : World) : nsIn (KF w) mainGlobals (Str.ofString "_law_signs") = some (some (.ref 91)) := by kernel_rfl
theorem g98 (w : World) : nsIn (KF w) mainGlobals (Str.ofString "_law_whole") = some (some (.ref 98)) := by kernel_rfl
theorem g103 (w : World) : nsIn (KF w) mainGlobals (Str.ofString "_law_row_holds") = some (some (.ref 103)) := by kernel_rfl
theorem kp21 (w : World) : keepIn (KF w) (.ref 21) = true := by kernel_rfl
theorem kp28 (w : World) : keepIn (KF w) (.ref 28) = true := by kernel_rfl
theorem kp35 (w : World) : keepIn (KF w) (.ref 35) = true := by kernel_rfl
theorem kp43 (w : World) : keepIn (KF w) (.ref 43) = true := by kernel_rfl
theorem kp50 (w : World) : keepIn (KF w) (.ref 50) = true := by kernel_rfl
theorem kp57 (w : World) : keepIn (KF w) (.ref 57) = true := by kernel_rfl
theorem kp64 (w : World) : keepIn (KF w) (.ref 64) = true := by kernel_rfl
theorem kp69 (w : World) : keepIn (KF w) (.ref 69) = true := by kernel_rfl
theorem kp74 (w : World) : keepIn (KF w) (.ref 74) = true := by kernel_rfl
theorem kp79 (w : World) : keepIn (KF w) (.ref 79) = true := by kernel_rfl
theorem kp84 (w : World) : keepIn (KF w) (.ref 84) = true := by kernel_rfl
theorem kp91 (w : World) : keepIn (KF w) (.ref 91) = true := by kernel_rfl
theorem kp98 (w : World) : keepIn (KF w) (.ref 98) = true := by kernel_rfl
theorem kp103 (w : World) : keepIn (KF w) (.ref 103) = true := by kernel_rfl
theorem nLen (w : World) : nsIn (KF w) mainGlobals (Str.ofString "len") = some none := by kernel_rfl
theorem nRange (w : World) : nsIn (KF w) mainGlobals (Str.ofString "range") = some none := by kernel_rfl
theorem nSorted (w : World) : nsIn (KF w) mainGlobals (Str.ofString "sorted") = some none := by kernel_rfl
theorem nList (w : World) : nsIn (KF w) mainGlobals (Str.ofString "list") = some none := by kernel_rfl
theorem nDict (w : World) : nsIn (KF w) mainGlobals (Str.ofString "dict") = some none := by kernel_rfl
theorem nType (w : World) : nsIn (KF w) mainGlobals (Str.ofString "type") = some none := by kernel_rfl
theorem nInt (w : World) : nsIn (KF w) mainGlobals (Str.ofString "int") = some none := by kernel_rfl
theorem nOrd (w : World) : nsIn (KF w) mainGlobals (Str.ofString "ord") = some none := by kernel_rfl
theorem nStr (w : World) : nsIn (KF w) mainGlobals (Str.ofString "str") = some none := by kernel_rfl
theorem nTypeError (w : World) : nsIn (KF w) mainGlobals (Str.ofString "TypeError") = some none := by kernel_rfl
theorem nValueError (w : World) : nsIn (KF w) mainGlobals (Str.ofString "ValueError") = some none := by kernel_rfl
theorem bTypeError : bootBuiltins (Str.ofString "TypeError") = some (.type "TypeError") := by decide +kernel
theorem bValueError : bootBuiltins (Str.ofString "ValueError") = some (.type "ValueError") := by decide +kernel
end

section
variable {w : World} {mg mb : Str → Option Value} {M : Model} {A : Around} {E : Value → Shared → Prop} {s : Shared} {Q : Value → Shared → Prop} {env : Env} {x : Str} {pos : Pos} {v : Value}

theorem nameG (D : Gd w mg mb s.heap) (e : nsIn (KF w) mainGlobals x = some (some v)) (h : Q v s) (hk : env.scope.kind = .function) (hx : env.kindOf x = some .globalImplicit) (hg : env.globals = mainGlobals) (hd : (x == ("__debug__" : Str)) = false) :
    wpAny M A (eval (.Name x pos) env) Q E s := Name_function_global hk hx (loadGlobal_global (hg ▸ D.g) (D.global e) h) hd
theorem nameB (D : Gd w mg mb s.heap) (e : nsIn (KF w) mainGlobals x = some none) (hv : bootBuiltins x = some v) (hn : x ≠ "__name__") (h : Q v s) (hk : env.scope.kind = .function) (hx : env.kindOf x = some .globalImplicit) (hg : env.globals = mainGlobals) (hb : env.builtins = builtinsNs) (hd : (x == ("__debug__" : Str)) = false) :
    wpAny M A (eval (.Name x pos) env) Q E s := Name_function_global hk hx (loadGlobal_builtin (hg ▸ D.g) (D.noGlobal e) (hb ▸ D.b) ((D.bi x hn).trans hv) h) hd
theorem nameG2 {h₀ : Heap} {L : Addr} {m : Str → Option Value} (F : Fr h₀ L s.heap m) (D : Gd w mg mb h₀) (e : nsIn (KF w) mainGlobals x = some (some v)) (h : Q v s) (hk : env.scope.kind = .function) (hx : env.kindOf x = some .globalImplicit) (hg : env.globals = mainGlobals) (hd : (x == ("__debug__" : Str)) = false) :
    wpAny M A (eval (.Name x pos) env) Q E s := nameG (D.keeps F.keep) e h hk hx hg hd
theorem nameB2 {h₀ : Heap} {L : Addr} {m : Str → Option Value} (F : Fr h₀ L s.heap m) (D : Gd w mg mb h₀) (e : nsIn (KF w) mainGlobals x = some none) (hv : bootBuiltins x = some v) (hn : x ≠ "__name__") (h : Q v s) (hk : env.scope.kind = .function) (hx : env.kindOf x = some .globalImplicit) (hg : env.globals = mainGlobals) (hb : env.builtins = builtinsNs) (hd : (x == ("__debug__" : Str)) = false) :
    wpAny M A (eval (.Name x pos) env) Q E s := nameB (D.keeps F.keep) e hv hn h hk hx hg hb hd
theorem nameL {m : Str → Option Value} (hn : s.heap.Ns env.locals m) (hv : m x = some v) (h : Q v s) (hk : env.scope.kind = .function) (hx : env.kindOf x = some .local) (hd : (x == ("__debug__" : Str)) = false) :
    wpAny M A (eval (.Name x pos) env) Q E s := wpAny_Name (wpAny_loadName_local hk hx hn hv h) hd
theorem nameLF {h₀ : Heap} {L : Addr} {m : Str → Option Value} (F : Fr h₀ L s.heap m) (hL : env.locals = L) (hv : m x = some v) (h : Q v s) (hk : env.scope.kind = .function) (hx : env.kindOf x = some .local) (hd : (x == ("__debug__" : Str)) = false) :
    wpAny M A (eval (.Name x pos) env) Q E s := nameL (hL ▸ F.ns) hv h hk hx hd
theorem nameC {c : Addr} (hc : env.cells.lookup x = some c) (hv : s.heap.IsCell c (some v)) (h : Q v s) (hk : env.scope.kind = .function) (hx : env.kindOf x = some .cell) (hd : (x == ("__debug__" : Str)) = false) :
    wpAny M A (eval (.Name x pos) env) Q E s := wpAny_Name (wpAny_loadName_cell hk hx hc hv h) hd
end

/-! the names of the text in tables: short lines for the walk -/
theorem lookup_all {α : Type} {P : Str → α → Prop} : ∀ (l : List (Str × α)), (∀ p ∈ l, P p.1 p.2) → ∀ {x : Str} {a : α}, l.lookup x = some a → P x a
  | [], _, _, _, h => nomatch h
  | (k, b) :: r, hp, x, a, h => by
    rw [List.lookup_cons] at h
    split at h
    · next e =>
      cases h
      rw [beq_iff_eq] at e
      subst e
      exact hp _ (.head _)
    · exact lookup_all r (fun p h => hp p (.tail _ h)) h
def gTab : List (Str × Addr) := [(Str.ofString "_strcoll", 21), (Str.ofString "_strxfrm", 28), (Str.ofString "_build_localename", 35), (Str.ofString "_deduplicate", 43), (Str.ofString "_deduplicate_unhashable", 50), (Str.ofString "_compare_args_orderless", 57), (Str.ofString "_law_piece", 64), (Str.ofString "_law_ways", 69), (Str.ofString "_law_first", 74), (Str.ofString "_law_texts", 79), (Str.ofString "_law_lined", 84), (Str.ofString "_law_signs", 91), (Str.ofString "_law_whole", 98), (Str.ofString "_law_row_holds", 103)]
def kTab : List Addr := [21, 28, 35, 43, 50, 57, 64, 69, 74, 79, 84, 91, 98, 103]
def bTab : List (Str × Value) := [(Str.ofString "len", .builtin "len"), (Str.ofString "range", .type "range"), (Str.ofString "sorted", .builtin "sorted"), (Str.ofString "list", .type "list"), (Str.ofString "dict", .type "dict"), (Str.ofString "type", .type "type"), (Str.ofString "int", .type "int"), (Str.ofString "ord", .builtin "ord"), (Str.ofString "str", .type "str"), (Str.ofString "TypeError", .type "TypeError"), (Str.ofString "ValueError", .type "ValueError")]
theorem gAny (w : World) {x : Str} {a : Addr} (h : gTab.lookup x = some a) : nsIn (KF w) mainGlobals x = some (some (.ref a)) :=
  lookup_all (P := fun x a => nsIn (KF w) mainGlobals x = some (some (.ref a))) gTab (by
    simp only [gTab, List.forall_mem_cons, List.not_mem_nil, false_implies, implies_true, and_true]
    exact ⟨g21 w, g28 w, g35 w, g43 w, g50 w, g57 w, g64 w, g69 w, g74 w, g79 w, g84 w, g91 w, g98 w, g103 w⟩) h
theorem kAny (w : World) {a : Addr} (h : kTab.contains a = true) : keepIn (KF w) (.ref a) = true := by
  have h' := List.contains_iff_mem.mp h
  simp only [kTab, List.mem_cons, List.not_mem_nil, or_false] at h'
  rcases h' with rfl | rfl | rfl | rfl | rfl | rfl | rfl | rfl | rfl | rfl | rfl | rfl | rfl | rfl
  · exact kp21 w
  · exact kp28 w
  · exact kp35 w
  · exact kp43 w
  · exact kp50 w
  · exact kp57 w
  · exact kp64 w
  · exact kp69 w
  · exact kp74 w
  · exact kp79 w
  · exact kp84 w
  · exact kp91 w
  · exact kp98 w
  · exact kp103 w
theorem bAny (w : World) {x : Str} {v : Value} (h : bTab.lookup x = some v) : nsIn (KF w) mainGlobals x = some none ∧ bootBuiltins x = some v :=
  lookup_all (P := fun x v => nsIn (KF w) mainGlobals x = some none ∧ bootBuiltins x = some v) bTab (by
    simp only [bTab, List.forall_mem_cons, List.not_mem_nil, false_implies, implies_true, and_true]
    exact ⟨⟨nLen w, boot_len⟩, ⟨nRange w, boot_range⟩, ⟨nSorted w, boot_sorted⟩, ⟨nList w, boot_list⟩, ⟨nDict w, boot_dict⟩, ⟨nType w, boot_type⟩, ⟨nInt w, boot_int⟩, ⟨nOrd w, boot_ord⟩, ⟨nStr w, boot_str⟩, ⟨nTypeError w, bTypeError⟩, ⟨nValueError w, bValueError⟩⟩) h

section
variable {w : World} {mg mb : Str → Option Value} {M : Model} {A : Around} {E : Value → Shared → Prop} {s : Shared} {Q : Value → Shared → Prop} {env : Env} {x : Str} {pos : Pos} {v : Value} {h₀ : Heap} {L : Addr} {m : Str → Option Value}
theorem nmL (h : Q v s) (hx : env.kindOf x = some .local := by with_unfolding_all rfl) (F : Fr h₀ L s.heap m := by assumption) (hL : env.locals = L := by with_unfolding_all rfl) (hv : m x = some v := by with_unfolding_all first | rfl | assumption)
    (hk : env.scope.kind = .function := by with_unfolding_all rfl) (hd : (x == ("__debug__" : Str)) = false := by decide) : wpAny M A (eval (.Name x pos) env) Q E s := nameLF F hL hv h hk hx hd
theorem nmG {a : Addr} (h : Q (.ref a) s) (e : gTab.lookup x = some a := by with_unfolding_all rfl) (F : Fr h₀ L s.heap m := by assumption) (D : Gd w mg mb h₀ := by assumption)
    (hk : env.scope.kind = .function := by with_unfolding_all rfl) (hx : env.kindOf x = some .globalImplicit := by with_unfolding_all rfl) (hg : env.globals = mainGlobals := by with_unfolding_all rfl) (hd : (x == ("__debug__" : Str)) = false := by decide) :
    wpAny M A (eval (.Name x pos) env) Q E s := nameG2 F D (gAny w e) h hk hx hg hd
theorem nmB (h : Q v s) (e : bTab.lookup x = some v := by with_unfolding_all rfl) (F : Fr h₀ L s.heap m := by assumption) (D : Gd w mg mb h₀ := by assumption)
    (hk : env.scope.kind = .function := by with_unfolding_all rfl) (hx : env.kindOf x = some .globalImplicit := by with_unfolding_all rfl) (hg : env.globals = mainGlobals := by with_unfolding_all rfl) (hb : env.builtins = builtinsNs := by with_unfolding_all rfl)
    (hn : x ≠ "__name__" := by decide) (hd : (x == ("__debug__" : Str)) = false := by decide) :
    wpAny M A (eval (.Name x pos) env) Q E s := nameB2 F D (bAny w e).1 (bAny w e).2 hn h hk hx hg hb hd
theorem nmC {c : Addr} (h : Q v s) (hc : env.cells.lookup x = some c := by with_unfolding_all rfl) (hv : s.heap.IsCell c (some v) := by assumption) (hk : env.scope.kind = .function := by with_unfolding_all rfl) (hx : env.kindOf x = some .cell := by with_unfolding_all rfl) (hd : (x == ("__debug__" : Str)) = false := by decide) :
    wpAny M A (eval (.Name x pos) env) Q E s := nameC hc hv h hk hx hd
theorem cwK {a : Addr} {first : List Value} {e : Expr} {rest : List Expr} (h : wpAny M A (spliced (backTo pos (starEach (e :: rest) env))) (fun vs s₁ => (KF w).In s₁.heap ∧ wpAny M A (call (.ref a) (first ++ vs)) Q E s₁) E s)
    (X : (KF w).In h₀ := by assumption) (hk : kTab.contains a = true := by with_unfolding_all rfl) (he : starEach (e :: rest) env = (false, eval e env) :: starEach rest env := by with_unfolding_all rfl) (hplain : (backTo pos (starEach rest env)).any (·.1) = false := by with_unfolding_all rfl) :
    wpAny M A (callWith pos (.ref a) first (backTo pos (starEach (e :: rest) env)) []) Q E s := callWith_K (K := KF w) X (kAny w hk) h he hplain
end

section
variable {w : World} {mg mb : Str → Option Value} {prog : Program} {A : Around} {E : Value → Shared → Prop} {s : Shared} {Q : Value → Shared → Prop}
/-- entering a def of the text that has cells, no way that raises -/
theorem enterC {name qual : Str} {params : Arguments} {body : List Stmt} {scope : Scope} {dV kV doc pm cdv ct oc : Value} {an od : Option Addr} {osl : Array (Option Value)} {f : Addr} {args : List Value} {binds : List (Str × Value)}
    (D : Gd w mg mb s.heap) (hroom : A.depth < recursionLimit)
    (ho : (KF w).lookup f = some ⟨oc, od, .func (fnOf name qual params body scope dV kV doc pm an cdv ct), osl⟩)
    (hcd : codeIn (KF w) cdv qual = true)
    (hbind : bindArgs (fnOf name qual params body scope dV kV doc pm an cdv ct) ⟨args, []⟩ = pure binds)
    (hkind : (binds.all fun y => scope.names.lookup y.1 == some .local || scope.names.lookup y.1 == some .cell) = true)
    (h : ∀ h₁ tk, Fr s.heap s.heap.objs.size h₁ (bindL (envOfC qual scope s.heap.objs.size f cdv).kindOf binds fun _ => none) →
      Cl s.heap.objs.size (cellsFrom (s.heap.objs.size + 1) scope.names []) h₁ (bindC (envOfC qual scope s.heap.objs.size f cdv).kindOf binds fun _ => none) →
      wpAny (model prog w) (A.deeper (envOfC qual scope s.heap.objs.size f cdv)) (execs body (envOfC qual scope s.heap.objs.size f cdv))
        (fun fl s' => Q (match fl with | .ret v => v | _ => .none) s') (fun _ _ => False) { s with heap := h₁, toks := tk })
    (hco : scope.isCoroutine = false := by rfl) (hgen : scope.isGenerator = false := by rfl) (hk : scope.kind = .function := by rfl) :
    wpAny (model prog w) A (call (.ref f) args) Q E s := by
  refine wpAny_call ?_
  refine codeAny_call_cells (fd := fnOf name qual params body scope dV kV doc pm an cdv ct) (body := body) (binds := binds) hroom (D.X _ _ ho) rfl D.lim (codeRec_of D.X hcd) rfl hbind rfl (kindsX hkind _) (fun s₁ X => ?_) hco hgen hk
  obtain ⟨h₁, tk, rfl, _⟩ := X.done
  exact wpAny_mono (h h₁ tk ⟨X.toInCall.ns, X.toInCall.keep, X.toInCall.fresh⟩ ⟨X.cell, X.apart, X.above⟩) (fun _ _ x => x) fun _ _ x => x.elim
end
end

local macro_rules | `(tactic| walk_at "eval Name") => `(tactic| (first | with_reducible refine nmL ?_ | with_reducible refine nmG ?_ | with_reducible refine nmB ?_ | with_reducible refine nmC ?_))
local macro_rules | `(tactic| walk_at "callWith ref") => `(tactic| with_reducible refine cwK ?_)

section
theorem addNew_mem {acc : List Str} {x y : Str} : y ∈ addNew acc x ↔ y ∈ acc ∨ y = x := by
  unfold addNew
  split
  · rename_i h
    constructor
    · exact .inl
    · rintro (h' | rfl)
      · exact h'
      · simpa using h
  · simp
theorem foldl_addNew_mem {y : Str} : ∀ (xs acc : List Str), y ∈ xs.foldl addNew acc ↔ y ∈ acc ∨ y ∈ xs
  | [], acc => by simp
  | x :: xs, acc => by rw [List.foldl_cons, foldl_addNew_mem xs, addNew_mem, List.mem_cons, or_assoc]
theorem firsts_mem {xs : List Str} {y : Str} : y ∈ firsts xs ↔ y ∈ xs := by
  unfold firsts; rw [foldl_addNew_mem]; simp
theorem firsts_any (xs : List Str) (x : Str) : (firsts xs).any (· == x) = xs.any (· == x) := by
  rw [Bool.eq_iff_iff]
  simp [firsts_mem]

section
variable {w : World} {mg mb : Str → Option Value} {G : Heap} {prog : Program} {A : Around} {E : Value → Shared → Prop} {s : Shared} {Q : Value → Shared → Prop}

theorem pushed_list (h : Heap) (o : Obj) (its : Array Value) : ((h.push o).push { cls := .type "list", data := .seq its }).IsList (h.objs.size + 1) its := by
  have := Heap.get?_push_size (h.push o) (o := { cls := .type "list", data := .seq its }) rfl
  rw [Heap.size_push] at this
  exact ⟨_, this, rfl, _, rfl⟩

theorem itemL {value slice : Expr} {l : Addr} {items : Array Value} {k : Int} {u : Tok} {x : Value} (hl : s.heap.IsList l items) (h0 : 0 ≤ k) (hhi : k < 2 ^ 63) (hx : items[k.toNat]? = some x) (h : Q x s)
    (hs : subscripted slice false (.ref l) (.int k u) = operate [.ref l, .int k u] (getItem (.ref l) (.int k u))) :
    wpAny (model prog w) A (subscriptTail value slice (.ref l) (.int k u)) Q E s :=
  tail_any hl.typeIs slot_list_getitem.lookup (wpAny_getItem_list hl h0 hhi hx h) hs

theorem itemNeg {value slice : Expr} {l : Addr} {items : Array Value} {k : Int} {u : Tok} {x : Value} (hl : s.heap.IsList l items) (h0 : k < 0) (hlo : -(items.size : Int) ≤ k) (hsz : (items.size : Int) ≤ 2 ^ 62) (hx : items[(k + items.size).toNat]? = some x) (h : Q x s)
    (hs : subscripted slice false (.ref l) (.int k u) = operate [.ref l, .int k u] (getItem (.ref l) (.int k u))) :
    wpAny (model prog w) A (subscriptTail value slice (.ref l) (.int k u)) Q E s :=
  tail_any hl.typeIs slot_list_getitem.lookup (wpAny_getItem_list_neg hl h0 hlo (by omega) hx h) hs

/-- append to a list of the ledger -/
theorem append_any {h₀ : Heap} {L Dd : Addr} {m : Str → Option Value} {news : List (Addr × Obj)} {its : Array Value} {n : Nat} {x : Value} (F : Fr h₀ L s.heap m) (N : News h₀ L s.heap news) (hD : (Dd, listOf its n) ∈ news)
    (rest : List (Addr × Obj)) (hrest : ∀ p ∈ rest, p ∈ news ∧ p.1 ≠ Dd) (hsz : its.size ≤ sizeLine)
    (h : ∀ h', Fr h₀ L h' m → News h₀ L h' ((Dd, listOf (its.push x) (n + 1)) :: rest) → Q .none { s with heap := h' }) : wpAny (model prog w) A (call (.builtin "list.append") [.ref Dd, x]) Q E s := by
  have z := N _ hD
  refine append_at (hsz := hsz) z.1 fun h' hs ho' => h h' ⟨F.ns.sameBut hs (Ne.symm z.2.1), fun b o e => (hs.2 b fun q => ?_).trans (F.keep b o e), F.above⟩ fun p hp => ?_
  · have := z.2.2; rw [← q] at this; rw [this] at e; cases e
  · rcases List.mem_cons.mp hp with rfl | hp
    · exact ⟨ho', z.2⟩
    · have y := N _ (hrest p hp).1
      exact ⟨(hs.2 _ (hrest p hp).2).trans y.1, y.2⟩

theorem first_ {l : Addr} {vs : List Value} {xs : List Str} {nn : Nat} (D : Gd w mg mb s.heap) (hA : A.depth < recursionLimit) (hh : A.handled = none)
    (hl : s.heap.get? l = some (listOf vs.toArray nn)) (hs : StrsAre vs xs) (hlen : xs.length ≤ 1000)
    (hQ : ∀ a vs' n' h' tk, s.heap.get? a = none → h'.get? a = some (listOf vs'.toArray n') → StrsAre vs' (firsts xs) → Grows s.heap h' → Q (.ref a) { s with heap := h', toks := tk }) :
    wpAny (model prog w) A (call (.ref 74) [.ref l]) Q E s := by
  refine enterC (binds := [(Str.ofString "values", .ref l)]) D hA rfl (by rfl) rfl (by rfl) ?_
  intro h₁ tk F X
  have hF := F.keep
  have hc : h₁.IsCell (s.heap.objs.size + 1) (some (.ref l)) := X.cell (Str.ofString "values") _ rfl
  with_reducible refine wpAny_execs_cons (wpAny_Return_some ?_)
  with_reducible refine listComp1 (cl := [(Str.ofString "values", s.heap.objs.size + 1)]) (by with_unfolding_all rfl) (by decide) (by with_unfolding_all rfl) (by with_unfolding_all decide) (by with_unfolding_all rfl) ?_ (by intro _; with_unfolding_all rfl)
  have D₁ := D.keeps F.keep
  with_reducible refine wpAny_Call_ofName (nameB (v := .type "range") D₁ (nRange w) (by with_unfolding_all exact boot_range) (by decide) ?_ (by with_unfolding_all rfl) (by with_unfolding_all rfl) (by with_unfolding_all rfl) (by with_unfolding_all rfl) (by decide))
  have N : News s.heap s.heap.objs.size h₁ [] := News.nil
  have XX := D.X
  iterate 8 walk1
  have hL : h₁.IsList l vs.toArray := ⟨_, F.keep _ _ hl, rfl, _, rfl⟩
  have hlen2 : vs.length = xs.length := hs.length
  with_reducible refine call_len_list hL (by rw [List.size_toArray]; omega) ?_
  iterate 2 walk1
  rename IsRange _ _ _ _ _ _ _ _ => hr
  rename Fr _ _ _ _ => F'
  rename (∀ b o, _ → _) => hk
  have he : ((vs.toArray.size : Nat) : Int) = (xs.length : Int) := by rw [List.size_toArray, hlen2]
  rw [he] at hr
  have hg : Grows h₁ _ := hk
  clear hk
  with_reducible rename Heap => h₂
  show wpAny (model prog w) _ (pyIter (.ref h₁.objs.size)) _ _ { s with heap := h₂, toks := _ }
  with_reducible refine wpAny_pyIter_range hr (range_small (by omega) (by omega) (by omega) (by omega)) ?_
  have hIs : h₂.IsList l vs.toArray := hL.at fun o e => hg _ o e
  have hIc : h₂.IsCell (s.heap.objs.size + 1) (some (.ref l)) := hc.keeps hg
  show ∃ I fp wr n P St J, _
  refine ⟨h₂.objs.size, [h₂.objs.size], [h₂.objs.size], xs.length, _, _, fun _ i ys _ => StrsAre ys (firsts (xs.take i)), rfl, Walks.range (by exact hh) _ 0 1 xs.length, by rw [sizeLine_eq]; omega, ?_, ?_, fun _ _ => .nil, fun _ _ _ _ _ hj _ => hj, ?_, ?_⟩
  · show IsRangeIter _ _ _ _ _
    rw [range_size (a := 0) (n := xs.length) (by omega)]
    simpa using Heap.get?_push_size _ rfl
  · intro b hb
    rw [List.mem_singleton.mp hb]
    show _ < (h₂.push _).objs.size
    rw [Heap.size_push]; exact Nat.lt_succ_self _
  · rintro C i v ys h tk m₂ hC hi ⟨t, rfl⟩ hn hm hold hj
    have hup : ∀ b o, h₂.get? b = some o → h.get? b = some o := fun b o e => hold b o (by have := Heap.lt_size e; simp; exact Nat.ne_of_lt this) (Heap.get?_push_of_some _ e)
    have hI : h.IsList l vs.toArray := hIs.at fun o e => hup _ o e
    have hC' : h.IsCell (s.heap.objs.size + 1) (some (.ref l)) := hIc.keeps hup
    obtain ⟨x, hx⟩ : ∃ x, xs[i]? = some x := ⟨_, List.getElem?_eq_getElem hi⟩
    obtain ⟨u, hv⟩ := hs.at hx
    have e0 : (0 : Int) + (i : Int) * 1 = i := by omega
    rw [e0] at hm
    unfold TurnC
    with_reducible refine wpAny_tests_one (wpAny_isTrue_Compare1 ?_ (by with_unfolding_all rfl))
    with_reducible refine Subscript_ (nameC (c := s.heap.objs.size + 1) (by with_unfolding_all rfl) hC' ?_ (by with_unfolding_all rfl) (by with_unfolding_all rfl) (by decide))
    with_reducible refine nameL (by with_unfolding_all exact hn) hm ?_ (by with_unfolding_all rfl) (by with_unfolding_all rfl) (by decide)
    with_reducible refine itemL hI (by omega) (by omega) (x := .str x u) (by simpa using hv) ?_ (by with_unfolding_all rfl)
    with_reducible refine wpAny_Subscript_list_slice ?_ (by intro _ _; with_unfolding_all rfl)
    with_reducible refine nameC (c := s.heap.objs.size + 1) (by with_unfolding_all rfl) hC' ?_ (by with_unfolding_all rfl) (by with_unfolding_all rfl) (by decide)
    rw [evalPart_none, evalPart_some]
    with_reducible refine wpAny_pure ?_
    with_reducible refine nameL (by with_unfolding_all exact hn) hm ?_ (by with_unfolding_all rfl) (by with_unfolding_all rfl) (by decide)
    refine ⟨l, vs.toArray, none, some (i : Int), rfl, hI, by rw [List.size_toArray, sizeLine_eq]; omega, .none, .int _ _, ?_⟩
    have hD : ((h.push { cls := .type "slice", data := .fields #[Value.none, Value.int i t, .none] }).push { cls := .type "list", data := .seq (slicePick vs.toArray none (some (i : Int)) none) }).IsList (h.objs.size + 1) (List.toArray (vs.take i)) := by
      rw [slicePick_upto']
      exact pushed_list _ _ _
    have g2 : Grows h ((h.push { cls := .type "slice", data := .fields #[Value.none, Value.int i t, .none] }).push { cls := .type "list", data := .seq (slicePick vs.toArray none (some (i : Int)) none) }) := grows_trans grows_push grows_push
    show wpAny _ _ (compareOp .NotIn (.str x u) (.ref (h.objs.size + 1))) _ _ { s with heap := (h.push { cls := .type "slice", data := .fields #[Value.none, Value.int i t, .none] }).push { cls := .type "list", data := .seq (slicePick vs.toArray none (some (i : Int)) none) }, toks := tk }
    with_reducible refine notin_list_strs hD (hs.take' i) (wpAny_truthy_bool ?_)
    refine ⟨_, tk, rfl, g2, ?_⟩
    split
    · rename_i hb
      show wpAny _ _ _ _ _ { s with heap := (h.push { cls := .type "slice", data := .fields #[Value.none, Value.int i t, .none] }).push { cls := .type "list", data := .seq (slicePick vs.toArray none (some (i : Int)) none) }, toks := tk }
      with_reducible refine Subscript_ (nameC (c := s.heap.objs.size + 1) (by with_unfolding_all rfl) (hC'.keeps g2) ?_ (by with_unfolding_all rfl) (by with_unfolding_all rfl) (by decide))
      with_reducible refine nameL (by with_unfolding_all exact hn.keeps g2) hm ?_ (by with_unfolding_all rfl) (by with_unfolding_all rfl) (by decide)
      with_reducible refine itemL (hI.at fun o e => g2 _ o e) (by omega) (by omega) (x := .str x u) (by simpa using hv) ?_ (by with_unfolding_all rfl)
      refine ⟨_, tk, rfl, g2, ?_⟩
      show StrsAre (ys ++ [Value.str x u]) (firsts (xs.take (i + 1)))
      rw [firsts_succ hx, addNew, if_neg (by rw [firsts_any]; rw [Bool.not_eq_true'] at hb; rw [hb]; simp)]
      exact hj.append' (.cons x u .nil)
    · rename_i hb
      show StrsAre ys (firsts (xs.take (i + 1)))
      rw [firsts_succ hx, addNew, if_pos (by rw [firsts_any]; simpa using hb)]
      exact hj
  · intro D' C h' tk ys hD hC hDC hpl hj hle hold
    rw [List.take_of_length_le (Nat.le_refl _)] at hj
    obtain ⟨n', hp⟩ := hpl
    refine hQ D' ys n' h' tk ?_ hp hj fun b o e => ?_
    · cases e : s.heap.get? D' with
      | none => rfl
      | some o => exact absurd (hD.symm.trans (Heap.get?_push_of_some _ (hg D' o (hF D' o e)))) (fun q => nomatch q)
    · have e1 := hg b o (hF b o e)
      exact hold b o (by have := Heap.lt_size e1; simp; exact Nat.ne_of_lt this) (grows_push b o e1)
end
end

section
abbrev Pc := Option Str
def PVs (vs : List Value) (ps : List Pc) : Prop := Paired (fun v p => PV p v) vs ps

/-- the ledger bears a list of pieces at v -/
def NamesIn (tl : List (Addr × Obj)) (v : Value) (ps : List Pc) : Prop := ∃ a vs n, v = .ref a ∧ (a, listOf (List.toArray vs) n) ∈ tl ∧ PVs vs ps
def RowIn (tl : List (Addr × Obj)) (v : Value) (row : List (List Pc)) : Prop := ∃ a vs n, v = .ref a ∧ (a, listOf (List.toArray vs) n) ∈ tl ∧ Paired (NamesIn tl) vs row
def RowsIn (tl : List (Addr × Obj)) (vs : List Value) (rows : List (List (List Pc))) : Prop := Paired (RowIn tl) vs rows

theorem paired_mono {α β : Type} {F G : α → β → Prop} (h : ∀ a b, F a b → G a b) : ∀ {l : List α} {r : List β}, Paired F l r → Paired G l r
  | _, _, .nil => .nil
  | _, _, .cons a b => .cons (h _ _ a) (paired_mono h b)
theorem paired_get {α β : Type} {F : α → β → Prop} : ∀ {l : List α} {r : List β}, Paired F l r → ∀ {i : Nat} {b : β}, r[i]? = some b → ∃ a, l[i]? = some a ∧ F a b
  | _, _, .nil, i, b, h => by simp at h
  | _, _, .cons (a := a) x y, 0, b, h => by simp at h; subst h; exact ⟨a, rfl, x⟩
  | _, _, .cons x y, i + 1, b, h => by
    obtain ⟨a, ha, hf⟩ := paired_get y (i := i) (b := b) (by simpa using h)
    exact ⟨a, by simpa using ha, hf⟩
theorem paired_getL {α β : Type} {F : α → β → Prop} : ∀ {l : List α} {r : List β}, Paired F l r → ∀ {i : Nat} {a : α}, l[i]? = some a → ∃ b, r[i]? = some b ∧ F a b
  | _, _, .nil, i, b, h => by simp at h
  | _, _, .cons (b := b) x y, 0, a, h => by simp at h; subst h; exact ⟨b, rfl, x⟩
  | _, _, .cons x y, i + 1, a, h => by
    obtain ⟨b, ha, hf⟩ := paired_getL y (i := i) (a := a) (by simpa using h)
    exact ⟨b, by simpa using ha, hf⟩
theorem NamesIn.mono {tl tl' : List (Addr × Obj)} (h : ∀ p ∈ tl, p ∈ tl') {v : Value} {ps : List Pc} (x : NamesIn tl v ps) : NamesIn tl' v ps :=
  let ⟨a, vs, n, e, m, p⟩ := x; ⟨a, vs, n, e, h _ m, p⟩
theorem RowIn.mono {tl tl' : List (Addr × Obj)} (h : ∀ p ∈ tl, p ∈ tl') {v : Value} {row : List (List Pc)} (x : RowIn tl v row) : RowIn tl' v row :=
  let ⟨a, vs, n, e, m, p⟩ := x; ⟨a, vs, n, e, h _ m, paired_mono (fun _ _ y => y.mono h) p⟩
theorem RowsIn.mono {tl tl' : List (Addr × Obj)} (h : ∀ p ∈ tl, p ∈ tl') {vs : List Value} {rows : List (List (List Pc))} (x : RowsIn tl vs rows) : RowsIn tl' vs rows :=
  paired_mono (fun _ _ y => y.mono h) x

def cellAtR (rows : List (List (List Pc))) (i j : Nat) : List Pc := (rows.getD i []).getD j []
def joinAll (xs ys : List Pc) : List Pc := xs.flatMap fun x => ys.map fun y => some (join2 x y)
def cutAt (rows : List (List (List Pc))) (size start c : Nat) : List Pc := joinAll (cellAtR rows c start) (cellAtR rows (size - c - 2) (start + c + 1))
def namesAt (rows : List (List (List Pc))) (size start : Nat) : List Pc := (List.range (size - 1)).flatMap (cutAt rows size start)
def rowAt (n : Nat) (rows : List (List (List Pc))) (size : Nat) : List (List Pc) := (List.range (n + 1 - size)).map (namesAt rows size)
def waysRows (ps : List Pc) : Nat → List (List (List Pc))
  | 0 => [ps.map fun p => [p]]
  | k + 1 => waysRows ps k ++ [rowAt ps.length (waysRows ps k) (k + 2)]
def ways (ps : List Pc) : List Pc := cellAtR (waysRows ps (ps.length - 1)) (ps.length - 1) 0

theorem waysRows_length (ps : List Pc) : ∀ k, (waysRows ps k).length = k + 1
  | 0 => rfl
  | k + 1 => by rw [waysRows, List.length_append, waysRows_length ps k]; rfl
theorem waysRows_get (ps : List Pc) : ∀ (k i : Nat), i ≤ k → (waysRows ps k)[i]? = (waysRows ps i)[i]?
  | 0, i, h => by have : i = 0 := by omega
                  subst this; rfl
  | k + 1, i, h => by
    by_cases e : i = k + 1
    · subst e; rfl
    · rw [waysRows, List.getElem?_append_left (by rw [waysRows_length]; omega)]
      exact waysRows_get ps k i (by omega)
/-- the i-th row holds n - i cells -/
theorem waysRow_length (ps : List Pc) : ∀ (i : Nat) (row : List (List Pc)), (waysRows ps i)[i]? = some row → row.length = ps.length - i
  | 0, row, h => by simp [waysRows] at h; subst h; simp
  | i + 1, row, h => by
    rw [waysRows, List.getElem?_append_right (by rw [waysRows_length]; omega), waysRows_length] at h
    simp at h
    subst h
    simp [rowAt]

theorem rows_cell {tl : List (Addr × Obj)} {rvals : List Value} {rows : List (List (List Pc))} (h : RowsIn tl rvals rows) {i j : Nat} (hi : i < rows.length) (hj : j < (rows.getD i []).length) :
    ∃ a vs n b ws n', rvals[i]? = some (.ref a) ∧ (a, listOf (List.toArray vs) n) ∈ tl ∧ vs[j]? = some (.ref b) ∧ (b, listOf (List.toArray ws) n') ∈ tl ∧ PVs ws (cellAtR rows i j) := by
  have e : rows[i]? = some (rows.getD i []) := by rw [List.getD_eq_getElem?_getD, List.getElem?_eq_getElem hi]; rfl
  obtain ⟨_, h1, a, vs, n, rfl, h2, h3⟩ := paired_get h e
  have e' : (rows.getD i [])[j]? = some (cellAtR rows i j) := by unfold cellAtR; rw [List.getD_eq_getElem?_getD (l := rows.getD i []), List.getElem?_eq_getElem hj]; rfl
  obtain ⟨_, h4, b, ws, n', rfl, h5, h6⟩ := paired_get h3 e'
  exact ⟨a, vs, n, b, ws, n', h1, h2, h4, h5, h6⟩
theorem waysRows_row_length (ps : List Pc) {k i : Nat} (h : i ≤ k) : ((waysRows ps k).getD i []).length = ps.length - i := by
  have e : (waysRows ps k)[i]? = some ((waysRows ps k).getD i []) := by rw [List.getD_eq_getElem?_getD, List.getElem?_eq_getElem (by rw [waysRows_length]; omega)]; rfl
  rw [waysRows_get ps k i h] at e
  exact waysRow_length ps i _ e

/-- a bound for every cell: how many, and how long -/
def CellOk (i : Nat) (c : List Pc) : Prop := c.length ≤ 10 ^ i ∧ ∀ p ∈ c, Small (8 * (i + 1) - 4) p
def RowsOk (rows : List (List (List Pc))) : Prop := ∀ i row, rows[i]? = some row → ∀ c ∈ row, CellOk i c

theorem join2_length {p q : Pc} {a b : Nat} (ha : 1 ≤ a) (hp : Small a p) (hq : Small b q) : (join2 p q).length ≤ a + 1 + b := by
  have h1 : (p.getD cS).length ≤ a := by
    cases p with
    | none => show 1 ≤ a; exact ha
    | some x => exact hp x rfl
  cases q with
  | none => show (p.getD cS).length ≤ _; omega
  | some y =>
    show (p.getD cS ++ dotS ++ y).length ≤ _
    rw [Str.length_append, Str.length_append]
    have h2 := hq y rfl
    have h3 : dotS.length = 1 := rfl
    omega

theorem small_mono {a b : Nat} (h : a ≤ b) {p : Pc} (x : Small a p) : Small b p := fun y e => Nat.le_trans (x y e) h

theorem getD_mem {α : Type} {l : List α} {i : Nat} {d : α} (h : i < l.length) : l.getD i d ∈ l := by
  rw [List.getD_eq_getElem?_getD, List.getElem?_eq_getElem h]
  exact List.getElem_mem h
theorem cellOk_at {rows : List (List (List Pc))} (h : RowsOk rows) (i j : Nat) : CellOk i (cellAtR rows i j) := by
  unfold cellAtR
  by_cases hi : i < rows.length
  · have e : rows[i]? = some (rows.getD i []) := by rw [List.getD_eq_getElem?_getD, List.getElem?_eq_getElem hi]; rfl
    by_cases hj : j < (rows.getD i []).length
    · exact h i _ e _ (getD_mem hj)
    · rw [List.getD_eq_getElem?_getD (l := rows.getD i []), List.getElem?_eq_none (by omega)]
      exact ⟨Nat.zero_le _, fun p hp => nomatch hp⟩
  · have e : rows.getD i [] = [] := by rw [List.getD_eq_getElem?_getD, List.getElem?_eq_none (by omega)]; rfl
    rw [e]
    exact ⟨Nat.zero_le _, fun p hp => nomatch hp⟩

theorem joinAll_length (xs ys : List Pc) : (joinAll xs ys).length = xs.length * ys.length := by
  unfold joinAll
  induction xs with
  | nil => simp
  | cons x xs ih => rw [List.flatMap_cons, List.length_append, ih, List.length_map, List.length_cons, Nat.succ_mul, Nat.add_comm]

theorem joinAll_succ {xs ys : List Pc} {j : Nat} {x : Pc} (h : xs[j]? = some x) : joinAll (xs.take (j + 1)) ys = joinAll (xs.take j) ys ++ ys.map fun y => some (join2 x y) := by
  unfold joinAll
  rw [List.take_add_one, h, List.flatMap_append]
  simp

theorem mem_joinAll {xs ys : List Pc} {p : Pc} : p ∈ joinAll xs ys ↔ ∃ x ∈ xs, ∃ y ∈ ys, p = some (join2 x y) := by
  unfold joinAll
  simp only [List.mem_flatMap, List.mem_map]
  constructor
  · rintro ⟨x, hx, y, hy, rfl⟩; exact ⟨x, hx, y, hy, rfl⟩
  · rintro ⟨x, hx, y, hy, rfl⟩; exact ⟨x, hx, y, hy, rfl⟩

theorem cutAt_ok {rows : List (List (List Pc))} (h : RowsOk rows) {k start c : Nat} (hc : c ≤ k) : (cutAt rows (k + 2) start c).length ≤ 10 ^ k ∧ ∀ p ∈ cutAt rows (k + 2) start c, Small (8 * (k + 2) - 4) p := by
  unfold cutAt
  have e : k + 2 - c - 2 = k - c := by omega
  rw [e]
  have h1 := cellOk_at h c start
  have h2 := cellOk_at h (k - c) (start + c + 1)
  constructor
  · rw [joinAll_length]
    calc _ ≤ 10 ^ c * 10 ^ (k - c) := Nat.mul_le_mul h1.1 h2.1
      _ = 10 ^ k := by rw [← Nat.pow_add]; congr 1; omega
  · intro p hp
    obtain ⟨x, hx, y, hy, rfl⟩ := mem_joinAll.mp hp
    intro z hz
    cases hz
    have := join2_length (by omega) (h1.2 x hx) (h2.2 y hy)
    omega

theorem flatMap_length_le {α β : Type} (f : α → List β) (B : Nat) : ∀ (l : List α), (∀ a ∈ l, (f a).length ≤ B) → (l.flatMap f).length ≤ l.length * B
  | [], _ => by simp
  | a :: l, h => by
    rw [List.flatMap_cons, List.length_append, List.length_cons, Nat.succ_mul]
    have h1 := h a (.head _)
    have h2 := flatMap_length_le f B l fun b hb => h b (.tail _ hb)
    omega

theorem rowsOk_ways {ps : List Pc} (hs : ∀ p ∈ ps, Small 3 p) : ∀ k, k ≤ 9 → RowsOk (waysRows ps k)
  | 0, _ => by
    intro i row h c hc
    have hi : i = 0 := by
      rcases Nat.eq_zero_or_pos i with h0 | h0
      · exact h0
      · rw [waysRows, List.getElem?_eq_none (by simp; omega)] at h; cases h
    subst hi
    simp [waysRows] at h
    subst h
    obtain ⟨p, hp, rfl⟩ := List.mem_map.mp hc
    refine ⟨Nat.le_refl _, fun q hq => ?_⟩
    rw [List.mem_singleton.mp hq]
    exact small_mono (by omega) (hs p hp)
  | k + 1, hk => by
    have ih := rowsOk_ways hs k (by omega)
    intro i row h c hc
    by_cases hi : i < k + 1
    · rw [waysRows, List.getElem?_append_left (by rw [waysRows_length]; omega)] at h
      exact ih i row h c hc
    · have hlen := waysRows_length ps k
      have e : i = k + 1 := by
        have := (List.getElem?_eq_some_iff.mp h).1
        rw [waysRows_length] at this; omega
      subst e
      rw [waysRows, List.getElem?_append_right (by rw [hlen]; omega), hlen] at h
      simp at h
      subst h
      obtain ⟨start, _, rfl⟩ := List.mem_map.mp hc
      constructor
      · unfold namesAt
        have := flatMap_length_le (cutAt (waysRows ps k) (k + 2) start) (10 ^ k) (List.range (k + 2 - 1)) fun c hc => (cutAt_ok ih (by have := List.mem_range.mp hc; omega)).1
        rw [List.length_range] at this
        calc _ ≤ (k + 2 - 1) * 10 ^ k := this
          _ ≤ 10 * 10 ^ k := Nat.mul_le_mul_right _ (by omega)
          _ = 10 ^ (k + 1) := by rw [Nat.pow_succ, Nat.mul_comm]
      · intro p hp
        obtain ⟨c, hc, hp⟩ := List.mem_flatMap.mp hp
        exact (cutAt_ok ih (by have := List.mem_range.mp hc; omega)).2 p hp
end

section
section
variable {w : World} {mg mb : Str → Option Value} {G : Heap} {prog : Program} {A : Around} {E : Value → Shared → Prop} {s : Shared} {Q : Value → Shared → Prop}

def Agree (S : List String) (m m' : Str → Option Value) : Prop := ∀ z, (∀ x ∈ S, z ≠ Str.ofString x) → m' z = m z

/-- the first row: each piece a list of its own -/
def OneIn (h : Heap) (C : Addr) (v : Value) (p : Pc) : Prop := ∃ a u, v = .ref a ∧ C < a ∧ h.get? a = some (listOf #[u] 0) ∧ PV p u

theorem ones_ledger {h : Heap} {C : Addr} : ∀ {ys : List Value} {ps : List Pc}, Paired (OneIn h C) ys ps → ∃ tl : List (Addr × Obj), (∀ p ∈ tl, h.get? p.1 = some p.2 ∧ C < p.1) ∧ Paired (NamesIn tl) ys (ps.map fun p => [p])
  | _, _, .nil => ⟨[], fun _ h => (nomatch h), .nil⟩
  | _, _, .cons (b := p) ⟨a, u, e, hC, ho, hp⟩ r =>
    let ⟨tl, h1, h2⟩ := ones_ledger r
    ⟨(a, listOf #[u] 0) :: tl, fun q hq => by
      rcases List.mem_cons.mp hq with rfl | hq
      · exact ⟨ho, hC⟩
      · exact h1 q hq, .cons ⟨a, [u], 0, e, .head _, .cons hp .nil⟩ (paired_mono (fun _ _ x => x.mono fun _ h => .tail _ h) h2)⟩

theorem ways_ {l : Addr} {vs : List Value} {ps : List Pc} {nn : Nat} (D : Gd w mg mb s.heap) (hA : A.depth + 1 < recursionLimit) (hh : A.handled = none)
    (hl : s.heap.get? l = some (listOf vs.toArray nn)) (hs : PVs vs ps) (h2 : 2 ≤ ps.length) (h5 : ps.length ≤ 5) (hsm : ∀ p ∈ ps, Small 3 p)
    (hQ : ∀ a vs' n' h' tk, s.heap.get? a = none → h'.get? a = some (listOf (List.toArray vs') n') → PVs vs' (ways ps) → Grows s.heap h' → Q (.ref a) { s with heap := h', toks := tk }) :
    wpAny (model prog w) A (call (.ref 69) [.ref l]) Q E s := by
  refine enter (binds := [(Str.ofString "pieces", .ref l)]) D (by omega) rfl (by rfl) (BindsTo.of_eq rfl) (by decide) (locs rfl) ?_
  intro h₁ F
  have X := D.X
  have N : News s.heap s.heap.objs.size h₁ [] := News.nil
  have hF := F.keep
  have hlenv : vs.length = ps.length := Paired.length hs
  with_reducible refine wpAny_execs_cons (wpAny_Assign_Name ?_ (by with_unfolding_all rfl))
  with_reducible refine List_ (wpAny_items_cons ?_ (by with_unfolding_all rfl))
  with_reducible refine listComp1 (cl := []) (by with_unfolding_all rfl) (by decide) (by with_unfolding_all rfl) (by with_unfolding_all decide) (by with_unfolding_all rfl) ?_ (by intro _; with_unfolding_all rfl)
  walk1
  have hL : h₁.IsList l vs.toArray := ⟨_, hF _ _ hl, rfl, _, rfl⟩
  with_reducible refine wpAny_pyIter_list hL ?_
  have hne : l ≠ h₁.objs.size := Nat.ne_of_lt (Heap.lt_size (hF _ _ hl))
  refine ⟨h₁.objs.size, [h₁.objs.size, l], [h₁.objs.size], vs.toArray.size, _, _, fun C i ys h => Paired (OneIn h C) ys (ps.take i), rfl, Walks.list (by exact hh) _ l hne vs.toArray, ?_, ?_, ?_, fun _ _ => .nil, ?_, ?_, ?_⟩
  · rw [List.size_toArray, sizeLine_eq]; omega
  · exact ⟨⟨_, Heap.get?_push_size _ rfl, rfl, rfl⟩, hL.at fun o e => Heap.get?_push_of_some _ e⟩
  · intro b hb
    show _ < (h₁.push _).objs.size
    rw [Heap.size_push]
    rcases List.mem_cons.mp hb with rfl | hb
    · exact Nat.lt_succ_self _
    · rw [List.mem_singleton.mp hb]; exact Nat.lt_succ_of_lt (Heap.lt_size (hF _ _ hl))
  · intro C i ys h h' hj hk
    exact paired_mono (fun v p ⟨a, u, e, hC, ho, hp⟩ => ⟨a, u, e, hC, hk a _ hC ho, hp⟩) hj
  · intro C i v ys h tk m₂ hC hi hv hn hm hold hj
    unfold TurnC
    with_reducible refine wpAny_tests_nil ?_
    refine ⟨h, tk, rfl, fun _ _ e => e, ?_⟩
    rw [if_pos rfl]
    with_reducible refine List_ (wpAny_items_cons (nameL (by with_unfolding_all exact hn) hm ?_ (by with_unfolding_all rfl) (by with_unfolding_all rfl) (by decide)) (by with_unfolding_all rfl))
    with_reducible refine wpAny_items_nil (wpAny_newList ?_ (by rw [sizeLine_eq]; simp))
    refine ⟨_, tk, rfl, grows_push, ?_⟩
    obtain ⟨p, hp, hpv⟩ := paired_getL hs (i := i) (a := v) (by simpa using hv)
    show Paired _ (ys ++ [_]) (ps.take (i + 1))
    rw [List.take_add_one, hp]
    refine Paired.snoc (paired_mono (fun v p ⟨a, u, e, hC, ho, hp⟩ => ⟨a, u, e, hC, grows_push a _ ho, hp⟩) hj) ⟨_, v, rfl, hn.lt, Heap.get?_push_size _ rfl, hpv⟩
  · intro D' C h₂ tk₂ ys hD hC hDC hpl hj hle hold
    rw [List.take_of_length_le (by rw [List.size_toArray]; omega)] at hj
    have g12 : Grows h₁ h₂ := fun b o e => hold b o (by have := Heap.lt_size e; simp; exact Nat.ne_of_lt this) (Heap.get?_push_of_some _ e)
    have F₂ := F.keeps g12
    obtain ⟨nD, hDo⟩ := hpl
    obtain ⟨tl, htl, hones⟩ := ones_ledger hj
    have hLC : s.heap.objs.size < C := Nat.lt_trans F.ns.lt (Nat.lt_of_le_of_lt (by show _ ≤ (h₁.push _).objs.size; rw [Heap.size_push]; exact Nat.le_succ _) hC)
    have N₂ : News s.heap s.heap.objs.size h₂ ((D', listOf (List.toArray ys) nD) :: tl) := by
      intro p hp
      rcases List.mem_cons.mp hp with rfl | hp
      · refine ⟨hDo, ?_, ?_⟩
        · rintro rfl
          obtain ⟨o, _, _, ho, _⟩ := F.ns
          exact absurd (hD.symm.trans (Heap.get?_push_of_some _ ho)) (fun q => nomatch q)
        · cases e : s.heap.get? D' with
          | none => rfl
          | some o => exact absurd (hD.symm.trans (Heap.get?_push_of_some _ (hF D' o e))) (fun q => nomatch q)
      · have := (htl p hp).2
        exact ⟨(htl p hp).1, Nat.ne_of_gt (Nat.lt_trans hLC this), Heap.get?_none_of_le (Nat.le_of_lt (Nat.lt_trans hLC this))⟩
    show wpAny (model prog w) _ _ _ _ { s with heap := h₂, toks := tk₂ }
    with_reducible refine wpAny_items_nil ?_
    with_reducible refine newList_N F₂ N₂ ?_ (by rw [sizeLine_eq]; simp)
    intro h₃ F₃ N₃
    with_reducible refine stN F₃ N₃ ?_ (by with_unfolding_all rfl) (by with_unfolding_all rfl)
    intro h₄ F₄ N₄
    have hR : ∀ p ∈ (D', listOf (List.toArray ys) nD) :: tl, p.1 ≠ h₂.objs.size := fun p hp => Nat.ne_of_lt (Heap.lt_size (N₂ p hp).1)
    have hrows0 : RowsIn ((D', listOf (List.toArray ys) nD) :: tl) [.ref D'] (waysRows ps 0) := .cons ⟨D', ys, nD, rfl, .head _, paired_mono (fun _ _ x => x.mono fun _ h => .tail _ h) hones⟩ .nil
    generalize h₂.objs.size = R at F₄ N₄ hR
    generalize (D', listOf (List.toArray ys) nD) :: tl = tl₀ at N₄ hR hrows0
    have hF4 := F₄.keep
    clear N₂ N₃ F₃ hones htl hDo hold hj hle hDC hC hD
    show wpAny (model prog w) _ _ _ _ { s with heap := h₄, toks := tk₂ + 1 }
    with_reducible refine wpAny_execs_cons (wpAny_For ?_ (by intro _; with_unfolding_all rfl))
    clear F N F₂ g12
    have hL4 : h₄.IsList l vs.toArray := ⟨_, hF4 _ _ hl, rfl, _, rfl⟩
    iterate 13 walk1
    with_reducible refine call_len_list hL4 (by rw [List.size_toArray]; omega) ?_
    iterate 4 walk1
    rename IsRange _ _ _ _ _ _ _ _ => hr
    rename Fr _ _ _ _ => F₅
    rename News _ _ _ _ => N₅
    rename (∀ b o, _ → _) => hk5
    rename Heap => h₅
    have he : ((vs.toArray.size : Nat) : Int) = (ps.length : Int) := by rw [List.size_toArray, hlenv]
    rw [he] at hr
    show wpAny (model prog w) _ (pyIter (.ref h₄.objs.size)) _ _ { s with heap := h₅, toks := _ }
    refine iterRangeN (L := s.heap.objs.size) (n := ps.length - 1) (news := (R, listOf (List.toArray [.ref D']) 0) :: tl₀) rfl
      (fun k m nx => m (Str.ofString "rows") = some (.ref R) ∧ m (Str.ofString "pieces") = some (.ref l) ∧ ∃ rvals rn tl', nx = (R, listOf (List.toArray rvals) rn) :: tl' ∧ (∀ p ∈ tl', p.1 ≠ R) ∧ RowsIn tl' rvals (waysRows ps k))
      (by exact hh) rfl rfl hr (range_small (by omega) (by omega) (by omega) (by omega)) (range_size (by omega)) F₅ N₅ ⟨rfl, rfl, _, _, _, rfl, hR, hrows0⟩ ?_ ?_
    · clear hr N₅ F₅ hk5 hrows0 hR
      clear hL4
      intro R1 k m nx h tk I oI t₀ hk hJ hI F N
      try dsimp only at hJ
      have hmr := hJ.1
      have hmp := hJ.2.1
      obtain ⟨rvals, rn, tl', hnx, hR, hrows⟩ := hJ.2.2
      clear hJ
      subst hnx
      with_reducible refine wpAny_execs_cons (wpAny_Assign_Name (List_ (wpAny_items_nil ?_)) (by with_unfolding_all rfl))
      with_reducible refine newList_N F N ?_ (by rw [sizeLine_eq]; simp)
      intro ha Fa Na
      with_reducible refine stN Fa Na ?_ (by with_unfolding_all rfl) (by with_unfolding_all rfl)
      intro hb Fb Nb
      have hr1 : ∀ p ∈ (I, oI) :: (R, listOf (List.toArray rvals) rn) :: tl', p.1 ≠ h.objs.size := fun p hp => Nat.ne_of_lt (Heap.lt_size (N p hp).1)
      show wpAny (model prog w) _ _ _ _ { s with heap := hb, toks := _ }
      have hLb : hb.IsList l vs.toArray := ⟨_, Fb.keep _ _ hl, rfl, _, rfl⟩
      generalize h.objs.size = r at Fb Nb hr1
      clear Fa Na F N
      with_reducible refine wpAny_execs_cons (wpAny_For ?_ (by intro _; with_unfolding_all rfl))
      iterate 19 walk1
      rename IsRange _ _ _ _ _ _ _ _ => hr
      rename Fr _ _ _ _ => F
      rename News _ _ _ _ => N
      rename (∀ b o, _ → _) => hk1
      rename Heap => h1
      rw [he] at hr
      show wpAny (model prog w) _ (pyIter (.ref hb.objs.size)) _ _ { s with heap := h1, toks := _ }
      refine iterRangeN (L := s.heap.objs.size) (n := ps.length - 1 - k) (news := (r, listOf (List.toArray []) 0) :: (I, oI) :: (R, listOf (List.toArray rvals) rn) :: tl') rfl
        (fun i m' nx => m' (Str.ofString "rows") = some (.ref R) ∧ m' (Str.ofString "pieces") = some (.ref l) ∧ m' (Str.ofString "size") = some (.int (2 + k) t₀) ∧ m' (Str.ofString "row") = some (.ref r) ∧
          ∃ vals vn tl1, nx = (r, listOf (List.toArray vals) vn) :: (tl1 ++ ((I, oI) :: (R, listOf (List.toArray rvals) rn) :: tl')) ∧ (∀ p ∈ tl1, p.1 ≠ r ∧ p.1 ≠ I ∧ p.1 ≠ R) ∧ Paired (NamesIn tl1) vals ((List.range i).map (namesAt (waysRows ps k) (k + 2))))
        (by exact hh) rfl rfl hr (range_small (by omega) (by omega) (by omega) (by omega)) (range_size (by omega)) F N ⟨hmr, hmp, rfl, rfl, [], 0, [], rfl, fun _ h => (nomatch h), .nil⟩ ?_ ?_
      · clear hr N F hk1 hLb
        intro R2 i m₁ nx h tk I₁ oI₁ t₁ hi hJ hI₁ F N
        try dsimp only at hJ
        have hmr := hJ.1
        have hmp := hJ.2.1
        have hms := hJ.2.2.1
        have hmw := hJ.2.2.2.1
        obtain ⟨vals, vn, tl1, hnx, htl1, hvals⟩ := hJ.2.2.2.2
        clear hJ
        subst hnx
        with_reducible refine wpAny_execs_cons (wpAny_Assign_Name (List_ (wpAny_items_nil ?_)) (by with_unfolding_all rfl))
        with_reducible refine newList_N F N ?_ (by rw [sizeLine_eq]; simp)
        intro ha Fa Na
        with_reducible refine stN Fa Na ?_ (by with_unfolding_all rfl) (by with_unfolding_all rfl)
        intro hb Fb Nb
        have hra : ∀ p ∈ (I₁, oI₁) :: (r, listOf (List.toArray vals) vn) :: (tl1 ++ ((I, oI) :: (R, listOf (List.toArray rvals) rn) :: tl')), p.1 ≠ h.objs.size := fun p hp => Nat.ne_of_lt (Heap.lt_size (N p hp).1)
        show wpAny (model prog w) _ _ _ _ { s with heap := hb, toks := _ }
        generalize h.objs.size = a at Fb Nb hra
        clear Fa Na F N
        have hRm : (R, listOf (List.toArray rvals) rn) ∈ (I₁, oI₁) :: (r, listOf (List.toArray vals) vn) :: (tl1 ++ ((I, oI) :: (R, listOf (List.toArray rvals) rn) :: tl')) := .tail _ (.tail _ (List.mem_append_right _ (.tail _ (.head _))))
        have htlm : ∀ p ∈ tl', p ∈ (I₁, oI₁) :: (r, listOf (List.toArray vals) vn) :: (tl1 ++ ((I, oI) :: (R, listOf (List.toArray rvals) rn) :: tl')) := fun p hp => .tail _ (.tail _ (List.mem_append_right _ (.tail _ (.tail _ hp))))
        obtain ⟨rest2, hrest2⟩ : ∃ rest2, rest2 = (I₁, oI₁) :: (r, listOf (List.toArray vals) vn) :: (tl1 ++ ((I, oI) :: (R, listOf (List.toArray rvals) rn) :: tl')) := ⟨_, rfl⟩
        rw [← hrest2] at Nb hra hRm htlm
        with_reducible refine wpAny_execs_cons (wpAny_For ?_ (by intro _; with_unfolding_all rfl))
        iterate 9 walk1
        rename IsRange _ _ _ _ _ _ _ _ => hr
        rename Fr _ _ _ _ => F
        rename News _ _ _ _ => N
        rename (∀ b o, _ → _) => hk2
        rename Heap => h2'
        show wpAny (model prog w) _ (pyIter (.ref hb.objs.size)) _ _ { s with heap := h2', toks := _ }
        refine iterRangeN (L := s.heap.objs.size) (n := k + 1) (news := (a, listOf (List.toArray []) 0) :: rest2) rfl
          (fun c m' nx => m' (Str.ofString "rows") = some (.ref R) ∧ m' (Str.ofString "pieces") = some (.ref l) ∧ m' (Str.ofString "size") = some (.int (2 + k) t₀) ∧ m' (Str.ofString "row") = some (.ref r) ∧ m' (Str.ofString "start") = some (.int (0 + i) t₁) ∧ m' (Str.ofString "names") = some (.ref a) ∧
            ∃ vals2 vn2, nx = (a, listOf (List.toArray vals2) vn2) :: rest2 ∧ PVs vals2 ((List.range c).flatMap (cutAt (waysRows ps k) (k + 2) i)))
          (by exact hh) rfl rfl hr (range_small (by omega) (by omega) (by omega) (by omega)) (range_size (by omega)) F N ⟨hmr, hmp, hms, hmw, rfl, rfl, [], 0, rfl, .nil⟩ ?_ ?_
        · clear hr N F hk2
          intro R3 c m₂ nx h tk I₂ oI₂ t₂ hc hJ hI₂ F N
          try dsimp only at hJ
          have hmr := hJ.1
          have hmp := hJ.2.1
          have hms := hJ.2.2.1
          have hmw := hJ.2.2.2.1
          have hmt := hJ.2.2.2.2.1
          have hmn := hJ.2.2.2.2.2.1
          obtain ⟨vals2, vn2, hnx, hvals2⟩ := hJ.2.2.2.2.2.2
          clear hJ
          subst hnx
          have hrl : (waysRows ps k).length = k + 1 := waysRows_length ps k
          obtain ⟨ra, rvs, rnn, b, ws, wn, hx1, hx2, hx3, hx4, hx5⟩ := rows_cell hrows (i := c) (j := i) (by omega) (by rw [waysRows_row_length ps (by omega)]; omega)
          obtain ⟨ra', rvs', rnn', b', ws', wn', hy1, hy2, hy3, hy4, hy5⟩ := rows_cell hrows (i := k - c) (j := i + c + 1) (by omega) (by rw [waysRows_row_length ps (by omega)]; omega)
          have okx := cellOk_at (rowsOk_ways hsm k (by omega)) c i
          have oky := cellOk_at (rowsOk_ways hsm k (by omega)) (k - c) (i + c + 1)
          have p3 : ∀ e : Nat, e ≤ 3 → 10 ^ e ≤ 1000 := fun e he => Nat.pow_le_pow_right (by omega) he
          have lx : (cellAtR (waysRows ps k) c i).length ≤ 1000 := Nat.le_trans okx.1 (p3 c (by omega))
          have ly : (cellAtR (waysRows ps k) (k - c) (i + c + 1)).length ≤ 1000 := Nat.le_trans oky.1 (p3 _ (by omega))
          have sx : ∀ p ∈ cellAtR (waysRows ps k) c i, Small 1000 p := fun p hp => small_mono (by omega) (okx.2 p hp)
          have sy : ∀ p ∈ cellAtR (waysRows ps k) (k - c) (i + c + 1), Small 1000 p := fun p hp => small_mono (by omega) (oky.2 p hp)
          have ecut : cutAt (waysRows ps k) (k + 2) i c = joinAll (cellAtR (waysRows ps k) c i) (cellAtR (waysRows ps k) (k - c) (i + c + 1)) := by
            unfold cutAt; rw [show k + 2 - c - 2 = k - c by omega]
          have lA : ((List.range c).flatMap (cutAt (waysRows ps k) (k + 2) i)).length ≤ 4000 := by
            have e1 := flatMap_length_le (cutAt (waysRows ps k) (k + 2) i) 1000 (List.range c) fun c' hc' => Nat.le_trans (cutAt_ok (rowsOk_ways hsm k (by omega)) (by have := List.mem_range.mp hc'; omega)).1 (p3 k (by omega))
            rw [List.length_range] at e1
            exact Nat.le_trans e1 (Nat.mul_le_mul_right 1000 (show c ≤ 4 by omega))
          generalize cellAtR (waysRows ps k) c i = cx at hx5 okx lx sx ecut
          generalize cellAtR (waysRows ps k) (k - c) (i + c + 1) = cy at hy5 oky ly sy ecut
          clear okx oky p3
          show wpAny (model prog w) _ _ _ _ { s with heap := h, toks := tk }
          with_reducible refine wpAny_execs_cons (wpAny_For ?_ (by intro _; with_unfolding_all rfl))
          with_reducible refine Subscript_ (Subscript_ ?_)
          iterate 5 walk1
          have hLR : h.IsList R (List.toArray rvals) := ⟨_, (N _ (.tail _ (.tail _ hRm))).1, rfl, _, rfl⟩
          with_reducible refine itemL hLR (by omega) (by omega) (x := .ref ra) (by rw [show ((1 : Int) + c - 1).toNat = c by omega]; simpa using hx1) ?_ (by with_unfolding_all rfl)
          walk1
          have hLra : h.IsList ra (List.toArray rvs) := ⟨_, (N _ (.tail _ (.tail _ (htlm _ hx2)))).1, rfl, _, rfl⟩
          with_reducible refine itemL hLra (by omega) (by omega) (x := .ref b) (by rw [show ((0 : Int) + i).toNat = i by omega]; simpa using hx3) ?_ (by with_unfolding_all rfl)
          show wpAny (model prog w) _ (pyIter (.ref b)) _ _ { s with heap := h, toks := _ }
          have hbm := N _ (.tail _ (.tail _ (htlm _ hx4)))
          have hlw : ws.length = cx.length := Paired.length hx5
          have hlw' : ws'.length = cy.length := Paired.length hy5
          refine iterListN (L := s.heap.objs.size) (news := (a, listOf (List.toArray vals2) vn2) :: (I₂, oI₂) :: rest2) rfl
            (fun j m' nx => m' (Str.ofString "rows") = some (.ref R) ∧ m' (Str.ofString "pieces") = some (.ref l) ∧ m' (Str.ofString "size") = some (.int (2 + k) t₀) ∧ m' (Str.ofString "row") = some (.ref r) ∧ m' (Str.ofString "start") = some (.int (0 + i) t₁) ∧ m' (Str.ofString "names") = some (.ref a) ∧ m' (Str.ofString "cut") = some (.int (1 + c) t₂) ∧
              ∃ vals3 vn3, nx = (a, listOf (List.toArray vals3) vn3) :: (I₂, oI₂) :: rest2 ∧ PVs vals3 ((List.range c).flatMap (cutAt (waysRows ps k) (k + 2) i) ++ joinAll (cx.take j) cy))
            (by exact hh) rfl rfl hbm.1 hbm.2.1 (.inr ?_) F (fun p hp => N p ?_) ⟨hmr, hmp, hms, hmw, hmt, hmn, rfl, vals2, vn2, rfl, by show PVs vals2 (_ ++ []); rw [List.append_nil]; exact hvals2⟩ ?_ ?_
          · rintro j m' nx ⟨_, _, _, _, _, _, _, v3, n3, rfl, _⟩
            exact .tail _ (.tail _ (htlm _ hx4))
          · rcases List.mem_cons.mp hp with rfl | hp
            · exact .tail _ (.head _)
            · rcases List.mem_cons.mp hp with rfl | hp
              · exact .head _
              · exact .tail _ (.tail _ hp)
          · clear F N hLR hLra hbm
            intro R4 j vx m₃ nx h tk I₃ oI₃ hj hJ hI₃ F N
            try dsimp only at hJ
            have hmr := hJ.1
            have hmp := hJ.2.1
            have hms := hJ.2.2.1
            have hmw := hJ.2.2.2.1
            have hmt := hJ.2.2.2.2.1
            have hmn := hJ.2.2.2.2.2.1
            have hmc := hJ.2.2.2.2.2.2.1
            obtain ⟨vals3, vn3, hnx, hvals3⟩ := hJ.2.2.2.2.2.2.2
            clear hJ
            subst hnx
            obtain ⟨px, hpx, hvx⟩ := paired_getL hx5 hj
            have hjx : j < cx.length := (List.getElem?_eq_some_iff.mp hpx).1
            have hpm : px ∈ cx := List.mem_of_getElem? hpx
            show wpAny (model prog w) _ _ _ _ { s with heap := h, toks := tk }
            with_reducible refine wpAny_execs_cons (wpAny_For ?_ (by intro _; with_unfolding_all rfl))
            with_reducible refine Subscript_ (Subscript_ ?_)
            iterate 8 walk1
            have hLR : h.IsList R (List.toArray rvals) := ⟨_, (N _ (.tail _ (.tail _ (.tail _ hRm)))).1, rfl, _, rfl⟩
            with_reducible refine itemL hLR (by omega) (by omega) (x := .ref ra') (by rw [show ((2 : Int) + k - (1 + c) - 1).toNat = k - c by omega]; simpa using hy1) ?_ (by with_unfolding_all rfl)
            iterate 4 walk1
            have hLra : h.IsList ra' (List.toArray rvs') := ⟨_, (N _ (.tail _ (.tail _ (.tail _ (htlm _ hy2))))).1, rfl, _, rfl⟩
            with_reducible refine itemL hLra (by omega) (by omega) (x := .ref b') (by rw [show ((0 : Int) + i + (1 + c)).toNat = i + c + 1 by omega]; simpa using hy3) ?_ (by with_unfolding_all rfl)
            show wpAny (model prog w) _ (pyIter (.ref b')) _ _ { s with heap := h, toks := _ }
            have hbm := N _ (.tail _ (.tail _ (.tail _ (htlm _ hy4))))
            refine iterListN (L := s.heap.objs.size) (news := (a, listOf (List.toArray vals3) vn3) :: (I₃, oI₃) :: (I₂, oI₂) :: rest2) rfl
              (fun q m' nx => m' (Str.ofString "rows") = some (.ref R) ∧ m' (Str.ofString "pieces") = some (.ref l) ∧ m' (Str.ofString "size") = some (.int (2 + k) t₀) ∧ m' (Str.ofString "row") = some (.ref r) ∧ m' (Str.ofString "start") = some (.int (0 + i) t₁) ∧ m' (Str.ofString "names") = some (.ref a) ∧ m' (Str.ofString "cut") = some (.int (1 + c) t₂) ∧ m' (Str.ofString "x") = some vx ∧
                ∃ vals4 vn4, nx = (a, listOf (List.toArray vals4) vn4) :: (I₃, oI₃) :: (I₂, oI₂) :: rest2 ∧ PVs vals4 ((List.range c).flatMap (cutAt (waysRows ps k) (k + 2) i) ++ joinAll (cx.take j) cy ++ (cy.take q).map fun y => some (join2 px y)))
              (by exact hh) rfl rfl hbm.1 hbm.2.1 (.inr ?_) F (fun p hp => N p ?_) ⟨hmr, hmp, hms, hmw, hmt, hmn, hmc, rfl, vals3, vn3, rfl, by show PVs vals3 (_ ++ []); rw [List.append_nil]; exact hvals3⟩ ?_ ?_
            · rintro q m' nx ⟨_, _, _, _, _, _, _, _, v3, n3, rfl, _⟩
              exact .tail _ (.tail _ (.tail _ (htlm _ hy4)))
            · rcases List.mem_cons.mp hp with rfl | hp
              · exact .tail _ (.head _)
              · rcases List.mem_cons.mp hp with rfl | hp
                · exact .head _
                · exact .tail _ (.tail _ hp)
            · clear F N hLR hLra hbm
              intro R5 q vy m₄ nx h tk I₄ oI₄ hq hJ hI₄ F N
              try dsimp only at hJ
              have hmr := hJ.1
              have hmp := hJ.2.1
              have hms := hJ.2.2.1
              have hmw := hJ.2.2.2.1
              have hmt := hJ.2.2.2.2.1
              have hmn := hJ.2.2.2.2.2.1
              have hmc := hJ.2.2.2.2.2.2.1
              have hmx := hJ.2.2.2.2.2.2.2.1
              obtain ⟨vals4, vn4, hnx, hvals4⟩ := hJ.2.2.2.2.2.2.2.2
              clear hJ
              subst hnx
              obtain ⟨py, hpy, hvy⟩ := paired_getL hy5 hq
              have hqy : q < cy.length := (List.getElem?_eq_some_iff.mp hpy).1
              have hqm : py ∈ cy := List.mem_of_getElem? hpy
              show wpAny (model prog w) _ _ _ _ { s with heap := h, toks := tk }
              iterate 20 walk1
              rename Fr _ _ _ _ => F
              rename News _ _ _ _ => N
              rename (_ ∧ _) => hlt
              rename Heap => h'
              rename Addr => td
              show wpAny (model prog w) _ _ _ _ { s with heap := h', toks := tk }
              have ht : IsTup h' td #[vx, vy] := ⟨_, (N _ (.head _)).1, rfl, _, rfl⟩
              refine build_ (D.keeps F.keep) (by show A.depth + 1 < _; omega) hh (Unp2.tup ht) hvx hvy (sx px hpm) (sy py hqm) ?_
              intro t' h'' tk' g
              have F5 := F.keeps g
              have N5 := News.keeps N g
              walk1
              show wpAny (model prog w) _ _ _ _ { s with heap := h'', toks := tk' }
              have hsz : (List.toArray vals4).size ≤ sizeLine := by
                have e4 : vals4.length = _ := Paired.length hvals4
                rw [List.length_append, List.length_append, joinAll_length, List.length_map] at e4
                have lB : (cx.take j).length * cy.length ≤ 1000 * 1000 := Nat.mul_le_mul (by rw [List.length_take]; omega) ly
                have lC : (cy.take q).length ≤ 1000 := by rw [List.length_take]; omega
                rw [List.size_toArray, sizeLine_eq, e4]
                omega
              with_reducible refine append_any F5 N5 (List.Mem.tail _ (List.Mem.tail _ (List.Mem.head _))) ((I₄, oI₄) :: (I₃, oI₃) :: (I₂, oI₂) :: rest2) ?_ hsz ?_
              · intro p hp
                rcases List.mem_cons.mp hp with rfl | hp
                · exact ⟨.tail _ (.head _), (hI₄ _ (.head _)).symm⟩
                · rcases List.mem_cons.mp hp with rfl | hp
                  · exact ⟨.tail _ (.tail _ (.tail _ (.head _))), (hI₃ _ (.head _)).symm⟩
                  · rcases List.mem_cons.mp hp with rfl | hp
                    · exact ⟨.tail _ (.tail _ (.tail _ (.tail _ (.head _)))), (hI₂ _ (.head _)).symm⟩
                    · exact ⟨.tail _ (.tail _ (.tail _ (.tail _ (.tail _ hp)))), hra p hp⟩
              intro h6 F6 N6
              iterate 2 walk1
              rw [List.push_toArray] at N6
              refine ⟨_, _, _, (a, listOf (List.toArray (vals4 ++ [.str (join2 px py) t'])) (vn4 + 1)) :: (I₃, oI₃) :: (I₂, oI₂) :: rest2, rfl, F6, fun p hp => N6 p ?_, ?_, hmr, hmp, hms, hmw, hmt, hmn, hmc, hmx, _, _, rfl, ?_⟩
              · rcases List.mem_cons.mp hp with rfl | hp
                · exact .tail _ (.head _)
                · rcases List.mem_cons.mp hp with rfl | hp
                  · exact .head _
                  · exact .tail _ (.tail _ hp)
              · intro p hp
                rcases List.mem_cons.mp hp with rfl | hp
                · have q := hI₄ _ (.head _)
                  exact q
                · exact hI₄ p (.tail _ hp)
              · rw [List.take_add_one, hpy, List.map_append, ← List.append_assoc]
                exact Paired.snoc hvals4 ⟨t', rfl⟩
            · clear F N hLR hLra hbm
              intro m₄ nx h tk hJ F N
              try dsimp only at hJ
              have hmr := hJ.1
              have hmp := hJ.2.1
              have hms := hJ.2.2.1
              have hmw := hJ.2.2.2.1
              have hmt := hJ.2.2.2.2.1
              have hmn := hJ.2.2.2.2.2.1
              have hmc := hJ.2.2.2.2.2.2.1
              have hmx := hJ.2.2.2.2.2.2.2.1
              obtain ⟨vals4, vn4, hnx, hvals4⟩ := hJ.2.2.2.2.2.2.2.2
              clear hJ
              subst hnx
              walk1
              refine ⟨_, _, _, (a, listOf (List.toArray vals4) vn4) :: (I₂, oI₂) :: rest2, rfl, F, fun p hp => N p ?_, ?_, hmr, hmp, hms, hmw, hmt, hmn, hmc, _, _, rfl, ?_⟩
              · rcases List.mem_cons.mp hp with rfl | hp
                · exact .tail _ (.head _)
                · rcases List.mem_cons.mp hp with rfl | hp
                  · exact .head _
                  · exact .tail _ (.tail _ hp)
              · intro p hp
                rcases List.mem_cons.mp hp with rfl | hp
                · have q := hI₃ _ (.head _)
                  exact q
                · exact hI₃ p (.tail _ hp)
              · rw [joinAll_succ hpx, ← List.append_assoc]
                rw [hlw', List.take_length] at hvals4
                exact hvals4
          · clear F N hLR hLra hbm
            intro m₃ nx h tk hJ F N
            try dsimp only at hJ
            have hmr := hJ.1
            have hmp := hJ.2.1
            have hms := hJ.2.2.1
            have hmw := hJ.2.2.2.1
            have hmt := hJ.2.2.2.2.1
            have hmn := hJ.2.2.2.2.2.1
            have hmc := hJ.2.2.2.2.2.2.1
            obtain ⟨vals3, vn3, hnx, hvals3⟩ := hJ.2.2.2.2.2.2.2
            clear hJ
            subst hnx
            walk1
            refine ⟨_, _, _, (a, listOf (List.toArray vals3) vn3) :: rest2, rfl, F, fun p hp => N p ?_, ?_, hmr, hmp, hms, hmw, hmt, hmn, _, _, rfl, ?_⟩
            · rcases List.mem_cons.mp hp with rfl | hp
              · exact .tail _ (.head _)
              · rcases List.mem_cons.mp hp with rfl | hp
                · exact .head _
                · exact .tail _ (.tail _ hp)
            · intro p hp
              rcases List.mem_cons.mp hp with rfl | hp
              · have q := hI₂ _ (.head _)
                exact q
              · exact hI₂ p (.tail _ hp)
            · rw [List.range_succ, List.flatMap_append]
              rw [hlw, List.take_length, ← ecut] at hvals3
              simpa using hvals3
        · clear hr N F hk2
          intro m₂ nx h tk hJ F N
          try dsimp only at hJ
          have hmr := hJ.1
          have hmp := hJ.2.1
          have hms := hJ.2.2.1
          have hmw := hJ.2.2.2.1
          have hmt := hJ.2.2.2.2.1
          have hmn := hJ.2.2.2.2.2.1
          obtain ⟨vals2, vn2, hnx, hvals2⟩ := hJ.2.2.2.2.2.2
          clear hJ
          subst hnx
          show wpAny (model prog w) _ _ _ _ { s with heap := h, toks := tk }
          iterate 4 walk1
          have hmem : (r, listOf (List.toArray vals) vn) ∈ (a, listOf (List.toArray vals2) vn2) :: rest2 := by rw [hrest2]; exact .tail _ (.tail _ (.head _))
          with_reducible refine listMethod_K N hmem PySem.F.slot_list_append PySem.F.type_list_append ?_
          iterate 4 walk1
          show wpAny (model prog w) _ _ _ _ { s with heap := h, toks := tk }
          have hlv : vals.length = i := by have := Paired.length hvals; rw [List.length_map, List.length_range] at this; exact this
          have har : a ≠ r := by have q := hra (r, listOf (List.toArray vals) vn) (by rw [hrest2]; exact .tail _ (.head _)); exact fun e => q e.symm
          with_reducible refine append_any F N hmem ((I₁, oI₁) :: (a, listOf (List.toArray vals2) vn2) :: (tl1 ++ ((I, oI) :: (R, listOf (List.toArray rvals) rn) :: tl'))) ?_ (by rw [List.size_toArray, sizeLine_eq]; omega) ?_
          · intro p hp
            rcases List.mem_cons.mp hp with rfl | hp
            · exact ⟨.tail _ (by rw [hrest2]; exact .head _), fun e => hI₁ _ (.head _) e.symm⟩
            · rcases List.mem_cons.mp hp with rfl | hp
              · exact ⟨.head _, har⟩
              · refine ⟨.tail _ (by rw [hrest2]; exact .tail _ (.tail _ hp)), ?_⟩
                rcases List.mem_append.mp hp with hp | hp
                · exact (htl1 p hp).1
                · exact hr1 p hp
          intro h6 F6 N6
          iterate 2 walk1
          rw [List.push_toArray] at N6
          refine ⟨_, _, _, (r, listOf (List.toArray (vals ++ [.ref a])) (vn + 1)) :: (((a, listOf (List.toArray vals2) vn2) :: tl1) ++ ((I, oI) :: (R, listOf (List.toArray rvals) rn) :: tl')), rfl, F6, fun p hp => N6 p ?_, ?_, hmr, hmp, hms, hmw, _, _, _, rfl, ?_, ?_⟩
          · rcases List.mem_cons.mp hp with rfl | hp
            · exact .tail _ (.head _)
            · rcases List.mem_cons.mp hp with rfl | hp
              · exact .head _
              · exact .tail _ (.tail _ hp)
          · intro p hp
            rcases List.mem_cons.mp hp with rfl | hp
            · have q := hI₁ _ (.head _)
              exact q
            · rcases List.mem_cons.mp hp with rfl | hp
              · have q := hra (I₁, oI₁) (by rw [hrest2]; exact .head _)
                exact fun e => q e.symm
              · exact hI₁ p (.tail _ hp)
          · intro p hp
            rcases List.mem_cons.mp hp with rfl | hp
            · have q1 := hra (I, oI) (by rw [hrest2]; exact .tail _ (.tail _ (List.mem_append_right _ (.head _))))
              have q2 := hra (R, listOf (List.toArray rvals) rn) hRm
              exact ⟨har, fun e => q1 e.symm, fun e => q2 e.symm⟩
            · exact htl1 p hp
          · rw [List.range_succ, List.map_append]
            exact Paired.snoc (paired_mono (fun _ _ x => x.mono fun _ h => .tail _ h) hvals) ⟨a, vals2, vn2, rfl, .head _, hvals2⟩
      · clear hr N F hk1 hLb
        intro m₁ nx h tk hJ F N
        try dsimp only at hJ
        have hmr := hJ.1
        have hmp := hJ.2.1
        have hms := hJ.2.2.1
        have hmw := hJ.2.2.2.1
        obtain ⟨vals, vn, tl1, hnx, htl1, hvals⟩ := hJ.2.2.2.2
        clear hJ
        subst hnx
        show wpAny (model prog w) _ _ _ _ { s with heap := h, toks := tk }
        iterate 4 walk1
        have hmem : (R, listOf (List.toArray rvals) rn) ∈ (r, listOf (List.toArray vals) vn) :: (tl1 ++ ((I, oI) :: (R, listOf (List.toArray rvals) rn) :: tl')) := .tail _ (List.mem_append_right _ (.tail _ (.head _)))
        with_reducible refine listMethod_K N hmem PySem.F.slot_list_append PySem.F.type_list_append ?_
        iterate 4 walk1
        show wpAny (model prog w) _ _ _ _ { s with heap := h, toks := tk }
        have hlr : rvals.length = k + 1 := by have := Paired.length hrows; rw [waysRows_length] at this; exact this
        have hrR : r ≠ R := by have q := hr1 (R, listOf (List.toArray rvals) rn) (.tail _ (.head _)); exact fun e => q e.symm
        with_reducible refine append_any F N hmem ((I, oI) :: (r, listOf (List.toArray vals) vn) :: (tl1 ++ tl')) ?_ (by rw [List.size_toArray, sizeLine_eq]; omega) ?_
        · intro p hp
          rcases List.mem_cons.mp hp with rfl | hp
          · exact ⟨.tail _ (List.mem_append_right _ (.head _)), fun e => hI _ (.head _) e.symm⟩
          · rcases List.mem_cons.mp hp with rfl | hp
            · exact ⟨.head _, hrR⟩
            · rcases List.mem_append.mp hp with hp | hp
              · exact ⟨.tail _ (List.mem_append_left _ hp), (htl1 p hp).2.2⟩
              · exact ⟨.tail _ (List.mem_append_right _ (.tail _ (.tail _ hp))), hR p hp⟩
        intro h6 F6 N6
        iterate 2 walk1
        rw [List.push_toArray] at N6
        refine ⟨_, _, _, (R, listOf (List.toArray (rvals ++ [.ref r])) (rn + 1)) :: (r, listOf (List.toArray vals) vn) :: (tl1 ++ tl'), rfl, F6, fun p hp => N6 p ?_, ?_, hmr, hmp, _, _, _, rfl, ?_, ?_⟩
        · rcases List.mem_cons.mp hp with rfl | hp
          · exact .tail _ (.head _)
          · rcases List.mem_cons.mp hp with rfl | hp
            · exact .head _
            · exact .tail _ (.tail _ hp)
        · intro p hp
          rcases List.mem_cons.mp hp with rfl | hp
          · have q := hI _ (.head _)
            exact q
          · rcases List.mem_cons.mp hp with rfl | hp
            · have q := hr1 (I, oI) (.head _)
              exact fun e => q e.symm
            · rcases List.mem_append.mp hp with hp | hp
              · exact (htl1 p hp).2.1
              · exact hI p (.tail _ hp)
        · intro p hp
          rcases List.mem_cons.mp hp with rfl | hp
          · exact hrR
          · rcases List.mem_append.mp hp with hp | hp
            · exact (htl1 p hp).2.2
            · exact hR p hp
        · rw [waysRows]
          refine Paired.snoc (RowsIn.mono (fun p hp => .tail _ (List.mem_append_right _ hp)) hrows) ⟨r, vals, vn, rfl, .head _, ?_⟩
          rw [rowAt, show ps.length + 1 - (k + 2) = ps.length - 1 - k by omega]
          exact paired_mono (fun _ _ x => x.mono fun p hp => .tail _ (List.mem_append_left _ hp)) hvals
    · clear hr N₅ F₅ hk5 hrows0 hR
      clear hL4
      intro m nx h tk hJ F N
      try dsimp only at hJ
      have hmr := hJ.1
      have hmp := hJ.2.1
      obtain ⟨rvals, rn, tl', hnx, hR, hrows⟩ := hJ.2.2
      clear hJ
      subst hnx
      show wpAny (model prog w) _ _ _ _ { s with heap := h, toks := tk }
      have hwl := waysRows_length ps (ps.length - 1)
      obtain ⟨ra, rvs, rnn, b, ws, wn, hx1, hx2, hx3, hx4, hx5⟩ := rows_cell hrows (i := ps.length - 1) (j := 0) (by omega) (by rw [waysRows_row_length ps (by omega)]; omega)
      have hlr : rvals.length = ps.length := by have := Paired.length hrows; omega
      with_reducible refine wpAny_execs_cons (wpAny_Return_some (Subscript_ (Subscript_ ?_)))
      iterate 4 walk1
      have hLR : h.IsList R (List.toArray rvals) := ⟨_, (N _ (.head _)).1, rfl, _, rfl⟩
      with_reducible refine itemNeg hLR (by omega) (by rw [List.size_toArray]; omega) (by rw [List.size_toArray]; omega) (x := .ref ra) (by rw [List.size_toArray, show ((-1 : Int) + (rvals.length : Nat)).toNat = ps.length - 1 by omega]; simpa using hx1) ?_ (by with_unfolding_all rfl)
      walk1
      have hLra : h.IsList ra (List.toArray rvs) := ⟨_, (N _ (.tail _ hx2)).1, rfl, _, rfl⟩
      with_reducible refine itemL hLra (by omega) (by omega) (x := .ref b) (by simpa using hx3) ?_ (by with_unfolding_all rfl)
      have hb := N _ (.tail _ hx4)
      exact hQ b ws wn h _ hb.2.2 hb.1 hx5 F.keep
end
end

section
/-- strictly rising texts -/
def Rising (xs : List Str) : Prop := xs.Pairwise fun a b => a.cps.toList < b.cps.toList

theorem Rising.lt {xs : List Str} (h : Rising xs) {i j : Nat} {x y : Str} (hij : i < j) (hx : xs[i]? = some x) (hy : xs[j]? = some y) : x.cps.toList < y.cps.toList := by
  obtain ⟨hi, rfl⟩ := List.getElem?_eq_some_iff.mp hx
  obtain ⟨hj, rfl⟩ := List.getElem?_eq_some_iff.mp hy
  exact List.pairwise_iff_getElem.mp h i j hi hj hij
theorem coll_lt {x y : Str} (h : x.cps.toList < y.cps.toList) : coll x y = -1 := by
  have h' : ¬ y.cps.toList < x.cps.toList := fun q => List.lt_irrefl _ (List.lt_trans h q)
  unfold coll; simp [h, h', b2i]
theorem coll_gt {x y : Str} (h : y.cps.toList < x.cps.toList) : coll x y = 1 := by
  have h' : ¬ x.cps.toList < y.cps.toList := fun q => List.lt_irrefl _ (List.lt_trans h q)
  unfold coll; simp [h, h', b2i]
theorem coll_self (x : Str) : coll x x = 0 := by
  unfold coll; simp [List.lt_irrefl, b2i]
theorem Rising.coll {xs : List Str} (h : Rising xs) {i j : Nat} {x y : Str} (hx : xs[i]? = some x) (hy : xs[j]? = some y) : coll x y = if i < j then -1 else if j < i then 1 else 0 := by
  rcases Nat.lt_trichotomy i j with hij | rfl | hij
  · rw [if_pos hij, coll_lt (h.lt hij hx hy)]
  · rw [hx] at hy; cases hy; simp [coll_self]
  · rw [if_neg (by omega), if_pos hij, coll_gt (h.lt hij hy hx)]

section
variable {w : World} {mg mb : Str → Option Value} {G : Heap} {prog : Program} {A : Around} {E : Value → Shared → Prop} {s : Shared} {Q : Value → Shared → Prop}

theorem signs_ {l l' : Addr} {vs vs' : List Value} {xs : List Str} (D : Gd w mg mb s.heap) (hA : A.depth + 1 < recursionLimit) (hh : A.handled = none)
    (hl : s.heap.IsList l vs.toArray) (hl' : s.heap.IsList l' vs'.toArray) (hs : StrsAre vs xs) (hs' : StrsAre vs' xs) (hlen : xs.length ≤ 1000) (hri : Rising xs)
    (hQ : ∀ h' tk, Grows s.heap h' → Q (.bool true) { s with heap := h', toks := tk }) :
    wpAny (model prog w) A (call (.ref 91) [.ref l, .ref l']) Q E s := by
  refine enter (binds := [(Str.ofString "names", .ref l), (Str.ofString "texts", .ref l')]) D (by omega) rfl (by rfl) (BindsTo.of_eq rfl) (by decide) (locs rfl) ?_
  intro h₁ F
  have X := D.X
  have N : News s.heap s.heap.objs.size h₁ [] := News.nil
  have hlv : vs.length = xs.length := hs.length
  have hat : ∀ (j : Nat) (y : Str), xs[j]? = some y → ∃ t, vs[j]? = some (Value.str y t) := fun _ _ h => hs.at h
  have hat' : ∀ (j : Nat) (y : Str), xs[j]? = some y → ∃ t, vs'[j]? = some (Value.str y t) := fun _ _ h => hs'.at h
  have hlv' : vs'.length = xs.length := hs'.length
  have hL₁ : h₁.IsList l vs.toArray := hl.at fun o e => F.keep _ o e
  with_reducible refine wpAny_execs_cons (wpAny_For ?_ (by intro _; with_unfolding_all rfl))
  iterate 13 walk1
  rename IsRange _ _ _ _ _ _ _ _ => hr
  rename Fr _ _ _ _ => F
  rename News _ _ _ _ => N
  rename (∀ b o, _ → _) => hk
  rename Heap => h₂
  show wpAny (model prog w) _ (pyIter (.ref h₁.objs.size)) _ _ { s with heap := h₂, toks := _ }
  refine iterRangeN (L := s.heap.objs.size) (n := xs.length) (news := []) rfl
    (fun i m nx => m (Str.ofString "names") = some (.ref l) ∧ m (Str.ofString "texts") = some (.ref l') ∧ nx = [])
    (by exact hh) rfl rfl hr (range_small (by omega) (by omega) (by omega) (by omega)) (range_size (by omega)) F N ⟨rfl, rfl, rfl⟩ ?_ ?_
  · clear hr N F hk
    rintro R1 i m nx h tk I oI t₁ hi ⟨hmn, hmt, rfl⟩ hI F N
    show wpAny (model prog w) _ _ _ _ { s with heap := h, toks := tk }
    have hLx : h.IsList l' vs'.toArray := hl'.at fun o e => F.keep _ o e
    with_reducible refine wpAny_execs_cons (wpAny_For ?_ (by intro _; with_unfolding_all rfl))
    iterate 13 walk1
    rename IsRange _ _ _ _ _ _ _ _ => hr
    rename Fr _ _ _ _ => F
    rename News _ _ _ _ => N
    rename (∀ b o, _ → _) => hk
    rename Heap => h₃
    show wpAny (model prog w) _ (pyIter (.ref h.objs.size)) _ _ { s with heap := h₃, toks := _ }
    refine iterRangeN (L := s.heap.objs.size) (n := xs.length) (news := [(I, oI)]) rfl
      (fun j m nx => m (Str.ofString "names") = some (.ref l) ∧ m (Str.ofString "texts") = some (.ref l') ∧ m (Str.ofString "i") = some (.int (0 + i) t₁) ∧ nx = [(I, oI)])
      (by exact hh) rfl rfl hr (range_small (by omega) (by omega) (by omega) (by omega)) (range_size (by omega)) F N ⟨hmn, hmt, rfl, rfl⟩ ?_ ?_
    · clear hr N F hk
      rintro R2 j m nx h tk I₂ oI₂ t₂ hj ⟨hmn, hmt, hmi, rfl⟩ hI₂ F N
      show wpAny (model prog w) _ _ _ _ { s with heap := h, toks := tk }
      obtain ⟨x, hx⟩ : ∃ x, xs[i]? = some x := ⟨_, List.getElem?_eq_getElem hi⟩
      obtain ⟨y, hy⟩ : ∃ y, xs[j]? = some y := ⟨_, List.getElem?_eq_getElem hj⟩
      obtain ⟨u, hv⟩ := hat i x hx
      obtain ⟨u', hv'⟩ := hat' j y hy
      have hLa : h.IsList l vs.toArray := hl.at fun o e => F.keep _ o e
      have hLb : h.IsList l' vs'.toArray := hl'.at fun o e => F.keep _ o e
      iterate 9 walk1
      with_reducible refine itemL hLa (by omega) (by omega) (x := .str x u) (by rw [show ((0 : Int) + i).toNat = i by omega]; simpa using hv) ?_ (by with_unfolding_all rfl)
      iterate 4 walk1
      with_reducible refine itemL hLb (by omega) (by omega) (x := .str y u') (by rw [show ((0 : Int) + j).toNat = j by omega]; simpa using hv') ?_ (by with_unfolding_all rfl)
      iterate 2 walk1
      show wpAny (model prog w) _ _ _ _ { s with heap := h, toks := tk }
      refine strcoll_ (D.keeps F.keep) (by show A.depth + 1 < _; omega) ?_
      intro h4 tk4 t4 g
      have F4 := F.keeps g
      have N4 := News.keeps N g
      clear F N hLa hLb
      have hco := hri.coll hx hy
      generalize coll x y = co at hco ⊢
      walk1
      rename Fr _ _ _ _ => F5
      rename News _ _ _ _ => N5
      rename Heap => h5
      show wpAny (model prog w) _ _ _ _ { s with heap := h5, toks := _ }
      repeat' walk1
      all_goals try (exfalso; split at hco <;> (try split at hco) <;> omega)
      all_goals exact ⟨_, _, _, _, rfl, F5, N5, hI₂, hmn, hmt, hmi, rfl⟩
    · clear hr N F hk
      rintro m nx h tk ⟨hmn, hmt, hmi, rfl⟩ F N
      walk1
      exact ⟨_, _, _, _, rfl, F, N, hI, hmn, hmt, rfl⟩
  · clear hr N F hk
    rintro m nx h tk ⟨hmn, hmt, rfl⟩ F N
    iterate 3 walk1
    exact hQ _ _ F.keep
end
end

section
def TurnEndC (h₀ : Heap) (L I c : Addr) (oI oc : Obj) (Jn : (Str → Option Value) → List (Addr × Obj) → Prop) (s : Shared) (R : Result → Shared → Prop) (fl : Flow) (s' : Shared) : Prop := match fl with
  | .next | .cont => ∃ h' tk' m' nx', s' = { s with heap := h', toks := tk' } ∧ Fr h₀ L h' m' ∧ News h₀ L h' ((I, oI) :: (c, oc) :: nx') ∧ (∀ p ∈ nx', p.1 ≠ I ∧ p.1 ≠ c) ∧ Jn m' nx'
  | .brk => R (.ok .next) s'
  | .ret v => R (.ok (.ret v)) s'

section
variable {w : World} {prog : Program} {A : Around} {E : Value → Shared → Prop} {s : Shared} {Q : Value → Shared → Prop}

/-- a for loop over a list of the base whose name is a cell -/
theorem iterListC {R : Result → Shared → Prop} {env : Env} {x : Str} {px : Pos} {body : List Stmt} {h₀ : Heap} {m₀ : Str → Option Value} {news : List (Addr × Obj)} {l : Addr} {vs : List Value} {nn : Nat} {L c : Addr} {u₀ : Option Value} (hL : env.locals = L)
    (J : Nat → (Str → Option Value) → List (Addr × Obj) → Prop) (hh : A.handled = none)
    (hk : env.scope.kind = .function) (hx : env.kindOf x = some .cell) (hcx : env.cells.lookup x = some c)
    (hl : h₀.get? l = some (listOf vs.toArray nn)) (hc0 : h₀.get? c = none) (hcL : c ≠ L) (hcell : s.heap.IsCell c u₀)
    (F : Fr h₀ L s.heap m₀) (N : News h₀ L s.heap news) (hNc : ∀ p ∈ news, p.1 ≠ c) (hj : J 0 m₀ news)
    (turn : ∀ i v m nx h tk I oI oc, vs[i]? = some v → J i m nx → (∀ p ∈ nx, p.1 ≠ I ∧ p.1 ≠ c) → oc.data = .cell (some v) → I ≠ c → Fr h₀ L h m → News h₀ L h ((I, oI) :: (c, oc) :: nx) →
      wpAny (model prog w) A (execs body env) (TurnEndC h₀ L I c oI oc (J (i + 1)) s R) (fun _ _ => False) { s with heap := h, toks := tk })
    (done : ∀ m nx h tk, J vs.length m nx → Fr h₀ L h m → News h₀ L h nx → R (.ok .next) { s with heap := h, toks := tk }) :
    wpAny (model prog w) A (pyIter (.ref l)) (fun it s₂ => codeAny (model prog w) A (.forLoop (.Name x px) it body [] env) R s₂) E s := by
  subst hL
  have hl' := F.keep _ _ hl
  have hls : s.heap.IsList l vs.toArray := ⟨_, hl', rfl, nn, rfl⟩
  have hne : l ≠ s.heap.objs.size := Nat.ne_of_lt (Heap.lt_size hl')
  have hcl : c ≠ l := fun e => by rw [e, hl] at hc0; cases hc0
  have hlL : l ≠ env.locals := fun e => Nat.lt_irrefl _ (Nat.lt_of_lt_of_le (Heap.lt_size hl) (e ▸ F.above))
  refine wpAny_pyIter_list hls ?_
  have W := Walks.list (prog := prog) (w := w) hh s.heap.objs.size l hne vs.toArray
  have hlen : vs.toArray.size = vs.length := by simp
  rw [hlen] at W
  have hI0 := next_is_new F
  have hcI : c ≠ s.heap.objs.size := Nat.ne_of_lt hcell.lt
  have hLI : env.locals ≠ s.heap.objs.size := Nat.ne_of_lt F.ns.lt
  generalize hI : s.heap.objs.size = I at W hI0 hcI hLI hne
  have hst : (s.heap.push { cls := .type "list_iterator", data := .fields #[.ref l, .int 0 0] }).IsListIter I l 0 ∧ (s.heap.push { cls := .type "list_iterator", data := .fields #[.ref l, .int 0 0] }).IsList l vs.toArray :=
    ⟨⟨_, by rw [← hI]; exact Heap.get?_push_size _ rfl, rfl, rfl⟩, hls.at fun o e => Heap.get?_push_of_some _ e⟩
  refine codeAny_forLoop (fun k s' => ∃ i m nx h tk u, s' = { s with heap := h, toks := tk } ∧ (h.IsListIter I l i ∧ h.IsList l vs.toArray) ∧ Fr h₀ env.locals h m ∧ News h₀ env.locals h nx ∧ (∀ p ∈ nx, p.1 ≠ I ∧ p.1 ≠ c) ∧ h.IsCell c u ∧ J i m nx ∧ i ≤ vs.length ∧ k = vs.length + 1 - i) ?_ (vs.length + 1)
    ⟨0, m₀, news, _, s.toks, u₀, rfl, hst, F.push _, fun p hp => ⟨Heap.get?_push_of_some _ (N p hp).1, (N p hp).2⟩, fun p hp => ⟨fun e => Nat.lt_irrefl _ (hI ▸ e ▸ Heap.lt_size (N p hp).1), hNc p hp⟩, hcell.keeps fun b o e => Heap.get?_push_of_some _ e, hj, Nat.zero_le _, rfl⟩
  rintro k s' ⟨i, m, nx, h, tk, u, rfl, hsti, Fi, Ni, hni, hci, hji, hi, rfl⟩
  by_cases hlt : i < vs.length
  · refine W.item i _ _ _ hlt hsti fun v h₁ tk₁ hP hst₁ hk₁ => ?_
    have hkI : ∀ b o, b ≠ I → h.get? b = some o → h₁.get? b = some o := fun b o hb e => hk₁ b o (by simpa using hb) e
    have hc₁ : h₁.IsCell c u := let ⟨o, ho, hd⟩ := hci; ⟨o, hkI c o hcI ho, hd⟩
    refine wpAny_assign_Name (wpAny_storeName_cell hk hx hcx hc₁ fun h₂ hn₂ hs₂ => ?_)
    obtain ⟨oc, hoc, hdc⟩ := hn₂
    have up : ∀ b o, b ≠ I → b ≠ c → h.get? b = some o → h₂.get? b = some o := fun b o hb hc e => hs₂.extBut b o hc (hkI b o hb e)
    have F₂ : Fr h₀ env.locals h₂ m := ⟨Fi.ns.at' fun o e => up _ o hLI (Ne.symm hcL) e, fun b o e => up b o (fun q => (by rw [q, hI0] at e; cases e)) (fun q => (by rw [q, hc0] at e; cases e)) (Fi.keep b o e), Fi.above⟩
    obtain ⟨oI, hoI, hI1, hI2⟩ := hst₁.1
    have hoI₂ : h₂.get? I = some oI := hs₂.extBut I oI (Ne.symm hcI) hoI
    have N₂ : News h₀ env.locals h₂ ((I, oI) :: (c, oc) :: nx) := by
      intro p hp
      rcases List.mem_cons.mp hp with rfl | hp
      · exact ⟨hoI₂, Ne.symm hLI, hI0⟩
      · rcases List.mem_cons.mp hp with rfl | hp
        · exact ⟨hoc, hcL, hc0⟩
        · exact ⟨up _ _ (hni p hp).1 (hni p hp).2 (Ni p hp).1, (Ni p hp).2⟩
    have hP' : vs[i]? = some v := by simpa using hP
    refine wpAny_mono (turn i v m nx h₂ tk₁ I oI oc hP' hji hni hdc (Ne.symm hcI) F₂ N₂) (fun fl s₃ h₃ => ?_) fun _ _ e => e.elim
    have fin : (∃ h' tk' m' nx', s₃ = { s with heap := h', toks := tk' } ∧ Fr h₀ env.locals h' m' ∧ News h₀ env.locals h' ((I, oI) :: (c, oc) :: nx') ∧ (∀ p ∈ nx', p.1 ≠ I ∧ p.1 ≠ c) ∧ J (i + 1) m' nx') →
        ∃ m_1, m_1 < vs.length + 1 - i ∧ ∃ i m nx h tk u, s₃ = { s with heap := h, toks := tk } ∧ (h.IsListIter I l i ∧ h.IsList l vs.toArray) ∧ Fr h₀ env.locals h m ∧ News h₀ env.locals h nx ∧ (∀ p ∈ nx, p.1 ≠ I ∧ p.1 ≠ c) ∧ h.IsCell c u ∧ J i m nx ∧ i ≤ vs.length ∧ m_1 = vs.length + 1 - i := by
      rintro ⟨h', tk', m', nx', rfl, F', N', hn', hj'⟩
      exact ⟨vs.length + 1 - (i + 1), by omega, i + 1, m', nx', h', tk', some v, rfl, ⟨⟨oI, (N' _ (.head _)).1, hI1, hI2⟩, ⟨_, F'.keep _ _ hl, rfl, nn, rfl⟩⟩, F', fun p hp => N' p (.tail _ (.tail _ hp)), hn', ⟨oc, (N' _ (.tail _ (.head _))).1, hdc⟩, hj', hlt, rfl⟩
    cases fl with
    | next => exact fin h₃
    | cont => exact fin h₃
    | brk => exact h₃
    | ret v => exact h₃
  · have hin : i = vs.length := by omega
    subst hin
    refine W.done _ _ _ hsti fun h₁ tk₁ hk₁ => wpAny_execs_nil ?_
    have hkI : ∀ b o, b ≠ I → h.get? b = some o → h₁.get? b = some o := fun b o hb e => hk₁ b o (by simpa using hb) e
    exact done m nx h₁ tk₁ hji ⟨Fi.ns.at' fun o e => hkI _ o hLI e, fun b o e => hkI b o (fun q => (by rw [q, hI0] at e; cases e)) (Fi.keep b o e), Fi.above⟩ fun p hp => ⟨hkI _ _ (hni p hp).1 (Ni p hp).1, (Ni p hp).2⟩
theorem iterListCN {R : Result → Shared → Prop} {env : Env} {x : Str} {px : Pos} {body : List Stmt} {h₀ : Heap} {m₀ : Str → Option Value} {news : List (Addr × Obj)} {l : Addr} {vs : List Value} {nn : Nat} {L c : Addr} {u₀ : Option Value} (hL : env.locals = L)
    (J : Nat → (Str → Option Value) → List (Addr × Obj) → Prop) (hh : A.handled = none)
    (hk : env.scope.kind = .function) (hx : env.kindOf x = some .cell) (hcx : env.cells.lookup x = some c)
    (hl : h₀.get? l = some (listOf vs.toArray nn)) (hc0 : h₀.get? c = none) (hcL : c ≠ L) (hcell : s.heap.IsCell c u₀)
    (F : Fr h₀ L s.heap m₀) (N : News h₀ L s.heap news) (hNc : ∀ p ∈ news, p.1 ≠ c) (hj : J 0 m₀ news)
    (turn : ∀ (R : Result → Shared → Prop) i v m nx h tk I oI oc, vs[i]? = some v → J i m nx → (∀ p ∈ nx, p.1 ≠ I ∧ p.1 ≠ c) → oc.data = .cell (some v) → I ≠ c → Fr h₀ L h m → News h₀ L h ((I, oI) :: (c, oc) :: nx) →
      wpAny (model prog w) A (execs body env) (TurnEndC h₀ L I c oI oc (J (i + 1)) s R) (fun _ _ => False) { s with heap := h, toks := tk })
    (done : ∀ m nx h tk, J vs.length m nx → Fr h₀ L h m → News h₀ L h nx → R (.ok .next) { s with heap := h, toks := tk }) :
    wpAny (model prog w) A (pyIter (.ref l)) (fun it s₂ => codeAny (model prog w) A (.forLoop (.Name x px) it body [] env) R s₂) E s := iterListC hL J hh hk hx hcx hl hc0 hcL hcell F N hNc hj (turn R) done
end
end

section
theorem foldl_replicate (v : Value) : ∀ (k : Nat) (acc : Array Value), List.foldl (fun x1 x2 => x1 ++ x2) acc (List.replicate k #[v]) = acc ++ (List.replicate k v).toArray
  | 0, acc => by simp
  | k + 1, acc => by
    rw [List.replicate_succ, List.foldl_cons, foldl_replicate v k, List.replicate_succ]
    apply Array.ext'
    simp

/-- how many of them lie below x -/
def below (xs : List Str) (x : Str) : Nat := (xs.filter fun o => decide (o.cps.toList < x.cps.toList)).length
theorem below_perm {xs ys : List Str} (h : xs.Perm ys) (x : Str) : below xs x = below ys x := (h.filter _).length_eq
theorem below_rising : ∀ {ys : List Str}, Rising ys → ∀ {j : Nat} {y : Str}, ys[j]? = some y → below ys y = j
  | [], _, j, y, h => by simp at h
  | z :: ys, hr, 0, y, h => by
    simp at h; subst h
    unfold below
    have h1 := (List.pairwise_cons.mp hr).1
    rw [List.filter_cons_of_neg (by simp [List.lt_irrefl]), List.filter_eq_nil_iff.mpr]
    · rfl
    · intro a ha
      have := h1 a ha
      simp only [decide_eq_true_eq]
      exact fun q => List.lt_irrefl _ (List.lt_trans this q)
  | z :: ys, hr, j + 1, y, h => by
    have hy : ys[j]? = some y := by simpa using h
    have h1 := (List.pairwise_cons.mp hr).1 y (List.mem_of_getElem? hy)
    have ih := below_rising (List.pairwise_cons.mp hr).2 hy
    unfold below at ih ⊢
    rw [List.filter_cons_of_pos (by simpa using h1), List.length_cons, ih]
theorem below_succ {xs : List Str} {i : Nat} {o x : Str} (h : xs[i]? = some o) : below (xs.take (i + 1)) x = below (xs.take i) x + if o.cps.toList < x.cps.toList then 1 else 0 := by
  unfold below
  rw [List.take_add_one, h, List.filter_append, List.length_append]
  congr 1
  by_cases hb : o.cps.toList < x.cps.toList
  · rw [if_pos hb]; show (List.filter _ [o]).length = 1; rw [List.filter_cons_of_pos (by simpa using hb)]; rfl
  · rw [if_neg hb]; show (List.filter _ [o]).length = 0; rw [List.filter_cons_of_neg (by simpa using hb)]; rfl

theorem strsAre_of_at : ∀ {vals : List Value} {ys : List Str}, vals.length = ys.length → (∀ (j : Nat) (y : Str), ys[j]? = some y → ∃ t, vals[j]? = some (Value.str y t)) → StrsAre vals ys
  | [], [], _, _ => .nil
  | [], _ :: _, h, _ => by simp at h
  | _ :: _, [], h, _ => by simp at h
  | v :: vs, y :: ys, h, k => by
    obtain ⟨t, ht⟩ := k 0 y rfl
    simp at ht; subst ht
    exact .cons y t (strsAre_of_at (by simpa using h) fun j z hz => by simpa using k (j + 1) z (by simpa using hz))

section
variable {w : World} {mg mb : Str → Option Value} {G : Heap} {prog : Program} {A : Around} {E : Value → Shared → Prop} {s : Shared} {Q : Value → Shared → Prop}

theorem lined_ {l : Addr} {vs : List Value} {xs ys : List Str} {nn : Nat} (D : Gd w mg mb s.heap) (hA : A.depth + 1 < recursionLimit) (hh : A.handled = none)
    (hl : s.heap.get? l = some (listOf vs.toArray nn)) (hs : StrsAre vs xs) (hlen : xs.length ≤ 1000) (hri : Rising ys) (hp : ys.Perm xs)
    (hQ : ∀ a vs' h' tk, s.heap.get? a = none → h'.IsList a (List.toArray vs') → StrsAre vs' ys → Grows s.heap h' → Q (.ref a) { s with heap := h', toks := tk }) :
    wpAny (model prog w) A (call (.ref 84) [.ref l]) Q E s := by
  refine enterC (binds := [(Str.ofString "names", .ref l)]) D (by omega) rfl (by rfl) rfl (by rfl) ?_
  intro h₁ tk F₀ X₀
  have F : Fr s.heap s.heap.objs.size h₁ (fun y => if y = Str.ofString "names" then some (.ref l) else none) := F₀
  obtain ⟨oc, hoc, hdc⟩ : h₁.IsCell (s.heap.objs.size + 1) none := X₀.cell (Str.ofString "name") _ rfl
  clear F₀ X₀
  have X := D.X
  have hc0 : s.heap.get? (s.heap.objs.size + 1) = none := Heap.get?_none_of_le (Nat.le_succ _)
  have N : News s.heap s.heap.objs.size h₁ [(s.heap.objs.size + 1, oc)] := fun p hp => by rw [List.mem_singleton.mp hp]; exact ⟨hoc, Nat.succ_ne_self _, hc0⟩
  have hlv : vs.length = xs.length := hs.length
  have hyl : ys.length = xs.length := hp.length_eq
  have hat : ∀ (j : Nat) (y : Str), xs[j]? = some y → ∃ t, vs[j]? = some (Value.str y t) := fun _ _ h => hs.at h
  have hit : ∀ (i : Nat) (v : Value), vs[i]? = some v → ∃ y t, v = Value.str y t ∧ xs[i]? = some y := fun i v h => hs.item i v h
  have hL₁ : h₁.IsList l vs.toArray := ⟨_, F.keep _ _ hl, rfl, _, rfl⟩
  with_reducible refine wpAny_execs_cons (wpAny_Assign_Name (wpAny_BinOp (List_ (wpAny_items_cons (wpAny_Constant_none (wpAny_items_nil ?_)) (by with_unfolding_all rfl)))) (by with_unfolding_all rfl))
  with_reducible refine newList_N F N ?_ (by rw [sizeLine_eq]; simp)
  intro h₂ F₂ N₂
  clear F N
  have hL₂ : h₂.IsList l vs.toArray := ⟨_, F₂.keep _ _ hl, rfl, _, rfl⟩
  iterate 7 walk1
  show wpAny (model prog w) _ _ _ _ { s with heap := h₂, toks := _ }
  have ho₂ : h₂.get? h₁.objs.size = some { cls := .type "list", dict := none, data := .seq #[Value.none] 0, slots := #[] } := (N₂ _ (.head _)).1
  with_reducible refine mul_list F₂ N₂ ho₂ (by omega) (by omega) (by with_unfolding_all show 1 * _ ≤ _; omega) ?_
  intro h₃ F₃ N₃
  rw [if_neg (by simp), foldl_replicate, show ((xs.length : Nat) : Int).toNat = xs.length by omega] at N₃
  have N₃' : News s.heap s.heap.objs.size h₃ [(h₂.objs.size, listOf (List.toArray (List.replicate xs.length Value.none)) 0), (s.heap.objs.size + 1, oc)] := fun p hp => by
    rcases List.mem_cons.mp hp with rfl | hp
    · have := N₃ _ (.head _)
      simpa using this
    · exact N₃ p (.tail _ (.tail _ hp))
  have hac : h₂.objs.size ≠ s.heap.objs.size + 1 := Nat.ne_of_gt (Heap.lt_size (N₂ _ (.tail _ (.head _))).1)
  clear N₃ F₂ N₂ hL₂
  generalize h₂.objs.size = a at N₃' hac
  walk1
  rename Fr _ _ _ _ => F
  rename News _ _ _ _ => N
  rename Heap => h₄
  show wpAny (model prog w) _ _ _ _ { s with heap := h₄, toks := _ }
  with_reducible refine wpAny_execs_cons (wpAny_For ?_ (by intro _; with_unfolding_all rfl))
  walk1
  refine iterListCN (L := s.heap.objs.size) (c := s.heap.objs.size + 1) (news := [(a, listOf (List.toArray (List.replicate xs.length Value.none)) 0)]) rfl
    (fun i m nx => m (Str.ofString "names") = some (.ref l) ∧ m (Str.ofString "lined") = some (.ref a) ∧ ∃ o n vals, nx = [(a, o)] ∧ o.cls = .type "list" ∧ o.data = .seq (List.toArray vals) n ∧ vals.length = xs.length ∧
      ∀ (j : Nat) (y : Str), ys[j]? = some y → y ∈ xs.take i → ∃ t, vals[j]? = some (Value.str y t))
    hh rfl rfl rfl hl hc0 (Nat.succ_ne_self _) ⟨oc, (N _ (.tail _ (.head _))).1, hdc⟩ F (fun p hp => N p (by rw [List.mem_singleton.mp hp]; exact .head _)) (fun p hp => by rw [List.mem_singleton.mp hp]; exact hac)
    ⟨rfl, rfl, _, _, _, rfl, rfl, rfl, by simp, fun j y _ h => by simp at h⟩ ?_ ?_
  · clear F N
    rintro R1 i v m nx h tk I oI oc' hv ⟨hmn, hml, o, n, vals, rfl, hoc1, hod, hvl, hin⟩ hne hdc' hIc F N
    obtain ⟨x, t, rfl, hx⟩ := hit i v hv
    show wpAny (model prog w) _ _ _ _ { s with heap := h, toks := tk }
    have hcell : h.IsCell (s.heap.objs.size + 1) (some (.str x t)) := ⟨oc', (N _ (.tail _ (.head _))).1, hdc'⟩
    with_reducible refine wpAny_execs_cons (wpAny_Assign_Subscript ?_ (by with_unfolding_all rfl))
    iterate 6 walk1
    show wpAny (model prog w) _ _ _ _ { s with heap := h, toks := tk }
    with_reducible refine listComp1 (cl := [(Str.ofString "name", s.heap.objs.size + 1)]) (by with_unfolding_all rfl) (by decide) (by with_unfolding_all rfl) (by with_unfolding_all decide) (by with_unfolding_all rfl) ?_ (by intro _; with_unfolding_all rfl)
    walk1
    have hLn : h.IsList l vs.toArray := ⟨_, F.keep _ _ hl, rfl, _, rfl⟩
    with_reducible refine wpAny_pyIter_list hLn ?_
    have hlh : l ≠ h.objs.size := Nat.ne_of_lt (Heap.lt_size (F.keep _ _ hl))
    have hxm : x ∈ ys := hp.mem_iff.mpr (List.mem_of_getElem? hx)
    obtain ⟨j₀, hj₀⟩ : ∃ j₀, ys[j₀]? = some x := List.mem_iff_getElem?.mp hxm
    have hj₀l : j₀ < ys.length := (List.getElem?_eq_some_iff.mp hj₀).1
    have hbel : below xs x = j₀ := (below_perm hp x).symm.trans (below_rising hri hj₀)
    refine ⟨h.objs.size, [h.objs.size, l], [h.objs.size], vs.toArray.size, _, _, fun _ i' zs _ => zs.length = below (xs.take i') x, rfl, Walks.list (by exact hh) _ l hlh vs.toArray, ?_, ?_, ?_, fun _ _ => rfl, fun _ _ _ _ _ hj _ => hj, ?_, ?_⟩
    · rw [List.size_toArray, sizeLine_eq]; omega
    · exact ⟨⟨_, Heap.get?_push_size _ rfl, rfl, rfl⟩, hLn.at fun o e => Heap.get?_push_of_some _ e⟩
    · intro b hb
      show _ < (h.push _).objs.size
      rw [Heap.size_push]
      rcases List.mem_cons.mp hb with rfl | hb
      · exact Nat.lt_succ_self _
      · rw [List.mem_singleton.mp hb]; exact Nat.lt_succ_of_lt (Heap.lt_size (F.keep _ _ hl))
    · intro C i' v' zs h' tk' m₂ hC hi' hv' hn hm hold hj
      obtain ⟨o', t', rfl, hxo⟩ := hit i' v' (by simpa using hv')
      have g : Grows h h' := fun b o e => hold b o (by have := Heap.lt_size e; simp; exact Nat.ne_of_lt this) (Heap.get?_push_of_some _ e)
      have D' : Gd w mg mb h' := (D.keeps F.keep).keeps g
      have hX' : (KF w).In h' := D'.X
      unfold TurnC
      show wpAny (model prog w) _ _ _ _ { s with heap := h', toks := tk' }
      with_reducible refine wpAny_tests_one (wpAny_isTrue_Compare1 ?_ (by with_unfolding_all rfl))
      with_reducible refine wpAny_Call_ofName (nameG D' (g21 w) ?_ (by with_unfolding_all rfl) (by with_unfolding_all rfl) (by with_unfolding_all rfl) (by decide))
      show wpAny (model prog w) _ (callWith _ (.ref 21) [] (backTo _ (starEach (_ :: _) _)) []) _ _ _
      with_reducible refine callWith_K (K := KF w) X (kp21 w) ?_ (by with_unfolding_all rfl) (by with_unfolding_all rfl)
      with_reducible refine wpAny_items_cons (nameL (by with_unfolding_all exact hn) hm ?_ (by with_unfolding_all rfl) (by with_unfolding_all rfl) (by decide)) (by with_unfolding_all rfl)
      with_reducible refine wpAny_items_cons (nameC (by with_unfolding_all rfl) (hcell.keeps g) ?_ (by with_unfolding_all rfl) (by with_unfolding_all rfl) (by decide)) (by with_unfolding_all rfl)
      with_reducible refine wpAny_items_nil ?_
      refine ⟨hX', ?_⟩
      refine strcoll_ D' (by show A.depth + 1 < _; omega) ?_
      intro h5 tk5 t5 g5
      with_reducible refine wpAny_Constant_int (wpAny_lt_int (wpAny_truthy_bool ?_))
      have hco : decide (coll o' x < 0) = decide (o'.cps.toList < x.cps.toList) := by
        by_cases hlt : o'.cps.toList < x.cps.toList
        · rw [coll_lt hlt, decide_eq_true hlt]; rfl
        · rw [decide_eq_false hlt]
          unfold coll
          rw [decide_eq_false hlt]
          cases decide (x.cps.toList < o'.cps.toList) <;> rfl
      rw [hco]
      refine ⟨h5, _, rfl, g5, ?_⟩
      by_cases hlt : o'.cps.toList < x.cps.toList
      · rw [decide_eq_true hlt, if_pos rfl]
        show wpAny (model prog w) _ _ _ _ { s with heap := h5, toks := _ }
        with_reducible refine nameL (by with_unfolding_all exact hn.keeps g5) hm ?_ (by with_unfolding_all rfl) (by with_unfolding_all rfl) (by decide)
        refine ⟨h5, _, rfl, g5, ?_⟩
        show (zs ++ [_]).length = below (xs.take (i' + 1)) x
        rw [below_succ hxo, if_pos hlt, List.length_append, List.length_singleton, hj]
      · rw [decide_eq_false hlt, if_neg Bool.false_ne_true]
        show zs.length = below (xs.take (i' + 1)) x
        rw [below_succ hxo, if_neg hlt, hj, Nat.add_zero]
    · intro Dl C h' tk' zs hD hC hDC hpl hj hle hold
      have g : Grows h h' := fun b o e => hold b o (by have := Heap.lt_size e; simp; exact Nat.ne_of_lt this) (Heap.get?_push_of_some _ e)
      rw [List.size_toArray, List.take_of_length_le (by omega), hbel] at hj
      have F' := F.keeps g
      have N' := News.keeps N g
      clear F N
      show wpAny (model prog w) _ _ _ _ { s with heap := h', toks := tk' }
      walk1
      with_reducible refine call_len_list hpl.isList (by rw [List.size_toArray]; omega) ?_
      have hao := N' (a, o) (.tail _ (.tail _ (.head _)))
      have hIsA : h'.IsList a (List.toArray vals) := ⟨o, hao.1, hoc1, n, hod⟩
      with_reducible refine wpAny_setItem_list hIsA (by omega) (by rw [List.size_toArray]; omega) (by rw [List.size_toArray, List.size_toArray]; omega) ?_
      intro h6 hl6 hs6
      iterate 2 walk1
      obtain ⟨o6, ho6, hc6, n6, hd6⟩ := hl6
      have hne1 := hne (a, o) (.head _)
      refine ⟨h6, _, m, [(a, o6)], rfl, ⟨F'.ns.sameBut hs6 (Ne.symm hao.2.1), fun b ob e => (hs6.2 b fun q => ?_).trans (F'.keep b ob e), F'.above⟩, ?_, ?_, hmn, hml, o6, n6, vals.set j₀ (.str x t), rfl, hc6, ?_, ?_, ?_⟩
      · have := hao.2.2; rw [← q] at this; rw [this] at e; cases e
      · intro p hp
        rcases List.mem_cons.mp hp with rfl | hp
        · have q := N' _ (.head _)
          exact ⟨(hs6.2 _ (Ne.symm hne1.1)).trans q.1, q.2⟩
        · rcases List.mem_cons.mp hp with rfl | hp
          · have q := N' _ (.tail _ (.head _))
            exact ⟨(hs6.2 _ (Ne.symm hne1.2)).trans q.1, q.2⟩
          · rw [List.mem_singleton.mp hp]
            exact ⟨ho6, hao.2⟩
      · intro p hp; rw [List.mem_singleton.mp hp]; exact hne1
      · rw [hd6]
        simp [hj]
      · rw [List.length_set]; exact hvl
      · intro j y hy hym
        by_cases hjj : j = j₀
        · subst hjj
          rw [hj₀] at hy; cases hy
          exact ⟨t, by rw [List.getElem?_set_self (by omega)]⟩
        · rw [List.getElem?_set_ne (fun e => hjj e.symm)]
          refine hin j y hy ?_
          rw [List.take_add_one, hx] at hym
          rcases List.mem_append.mp hym with hm' | hm'
          · exact hm'
          · exfalso
            have : y = x := by simpa using hm'
            subst this
            exact hjj ((below_rising hri hy).symm.trans (below_rising hri hj₀))
  · clear F N
    rintro m nx h tk ⟨hmn, hml, o, n, vals, rfl, hoc1, hod, hvl, hin⟩ F N
    show wpAny (model prog w) _ _ _ _ { s with heap := h, toks := tk }
    iterate 3 walk1
    have hao := N (a, o) (.head _)
    refine hQ a vals h tk hao.2.2 ⟨o, hao.1, hoc1, n, hod⟩ ?_ F.keep
    refine strsAre_of_at (by omega) fun j y hy => hin j y hy ?_
    rw [List.take_of_length_le (by omega)]
    exact hp.mem_iff.mp (List.mem_of_getElem? hy)
end
end

section
/-! dict.fromkeys -/
def fkBound : Obj := { cls := .type "builtin_function_or_method", data := .fields #[.builtin "dict.fromkeys", .type "dict"] }
theorem fk_type : typeOf (.builtin "dict.fromkeys") = pure (.type "classmethod_descriptor") := by show builtinType _ = _; rw [builtinType_eq_fast]; kernel_rfl
theorem fk_entry : entryFor table "dict.fromkeys" = some Builtin.«dict.fromkeys» := entryFor_of_tree (by kernel_rfl)
theorem fk_entry_loop : entryFor table "dict.fromkeys.loop" = some Builtin.«dict.fromkeys.loop» := entryFor_of_tree (by kernel_rfl)
theorem fk_quiet {as : Args} : (Code.builtin "dict.fromkeys" as).quiet = true := Code.quiet_builtin _ (by decide +kernel)
theorem fk_quiet_loop {as : Args} : (Code.builtin "dict.fromkeys.loop" as).quiet = true := Code.quiet_builtin _ (by decide +kernel)
theorem fk_isType : isType (.type "dict") = pure true := by first | rfl | kernel_rfl | (unfold isType; rw [isSubtype_type]; kernel_rfl)
theorem fk_owner : (kfb_private% "ownerAndName") "dict.fromkeys" = ("dict", "fromkeys") := by first | decide +kernel | kernel_rfl
theorem fk_typeCall : checkTypeCall "dict" ⟨[], []⟩ = pure () := by kernel_rfl
theorem fk_newCall : checkBuiltinCall "dict.__new__" ⟨[.type "dict"], []⟩ = pure () := by kernel_rfl
theorem fk_check {l : Addr} : checkBoundCall "dict.fromkeys" ⟨[.type "dict", .ref l], []⟩ = pure () := by first | kernel_rfl | rfl

section
variable {w : World} {prog : Program} {A : Around} {E : Value → Shared → Prop} {s : Shared} {h₀ : Heap} {L : Addr} {m : Str → Option Value} {news : List (Addr × Obj)} {K : Frag}

theorem fk_get {P : Fin → Shared → Prop} (h : P (.done (.ret (.ref s.heap.objs.size))) { s with heap := s.heap.push fkBound }) :
    wpAny (model prog w) A (Builtin.«classmethod_descriptor.__get__» ⟨[.builtin "dict.fromkeys", .none, .type "dict"], []⟩) P E s := by
  unfold Builtin.«classmethod_descriptor.__get__»
  refine wpAny_bind (wpAny_of_eq (a := (.builtin "dict.fromkeys", none, some (.type "dict"))) (by first | rfl | kernel_rfl) ?_)
  simp only [fk_owner]
  refine wpAny_bind (wpAny_of_eq (a := .type "dict") rfl ?_)
  refine wpAny_bind (wpAny_of_eq (a := true) fk_isType ?_)
  refine KFB.if_not rfl ?_
  refine wpAny_bind (wpAny_of_eq (a := true) F.kt_sub_dict ?_)
  refine KFB.if_not rfl ?_
  exact wpAny_bind (wpAny_newObj_type (wpAny_pure h))

theorem fk_getm {pl : Sem Bool} {Q : Value × List Value → Shared → Prop} (X : K.In s.heap)
    (e : findCls K (.type "dict") (.type "type") (PySem.Str.ofString "fromkeys") = some (.get (.builtin "classmethod_descriptor.__get__") (.builtin "dict.fromkeys") .none (.type "dict")))
    (hg : findIn K (.type "type") "__getattribute__" = some (some (.builtin "type.__getattribute__")))
    (h : Q (.ref s.heap.objs.size, []) { s with heap := s.heap.push fkBound, toks := s.toks + 1 }) :
    wpAny (model prog w) A (getMethod (.type "dict") (PySem.Str.ofString "fromkeys") pl) Q E s := by
  have hstub : opaqueClassAbove (.type "dict") = pure none := by unfold opaqueClassAbove; dsimp only; rw [show Manifest.isStub "dict" = false by decide +kernel]; rfl
  have ht : typeOf (.type "dict") = pure (.type "type") := by first | rfl | kernel_rfl
  have L0 : Looks (model prog w) s.heap (typeOf (.type "dict")) (.type "type") := Looks.of_pure ht
  unfold getMethod specialOf
  refine wpAny_bind (wpAny_bind (L0.here ((looks_findIn X hg).here ?_)))
  dsimp only
  rw [if_pos canon_tga]
  refine wpAny_bind (wpAny_mono (Q := fun v => Q (v, [])) (E := E) ?_ (fun _ _ z => wpAny_pure z) fun _ _ z => z)
  have LO : Looks (model prog w) s.heap (opaqueClassAbove (.type "dict")) none := Looks.of_pure hstub
  refine cls_open X LO L0 hg (looks_hook X (r := none) (by rfl)) (by show subIn K _ _ = _; rfl) e ?_
  show wpAny _ _ (holding [.builtin "dict.fromkeys"] (call (.builtin "classmethod_descriptor.__get__") [.builtin "dict.fromkeys", .none, .type "dict"]) >>= fun v => ret v) _ _ _
  refine wpAny_bind (wpAny_holding (wpAny_call_entry KFB.slot_get fk_type KFB.entry_get (fk_get ⟨_, rfl, wpAny_pure (wpAny_pure h)⟩) (KFB.args_get _ _ _)))

theorem fk_code_new {Q₁ : Value → Shared → Prop} (h : Q₁ (.ref s.heap.objs.size) { s with heap := s.heap.push { cls := .type "dict", data := .dict #[] } }) :
    codeAny (model prog w) A (.call (.builtin "dict.__new__") ⟨[.type "dict"], []⟩) (wants Q₁ E) s := by
  refine codeAny_call_builtin F.kt_plain_dict_new F.kt_entry_dict_new (wpAny_of_eq fk_newCall ?_)
  have hsub := F.kt_sub_dict
  have hmro := F.kt_mro_dict
  obtain ⟨hp, g, d, tk, os⟩ := s
  unfold Builtin.«dict.__new__»
  wp_walk
  exact h

theorem fk_call_dict {Q : Value → Shared → Prop} (h : Q (.ref s.heap.objs.size) { s with heap := s.heap.push { cls := .type "dict", data := .dict #[] } }) :
    wpAny (model prog w) A (call (.type "dict") []) Q E s := by
  refine callType_codes (Q₁ := fun obj s₁ => obj = .ref s.heap.objs.size ∧ s₁ = { s with heap := s.heap.push { cls := .type "dict", data := .dict #[] } }) F.kt_called_dict fk_typeCall F.entry_dict_init (fk_code_new ⟨rfl, rfl⟩) ?_
  rintro obj s₁ ⟨rfl, rfl⟩
  have hnew : (s.heap.push { cls := .type "dict", data := .dict #[] }).DictOf (strKind prog w) s.heap.objs.size [] := Heap.DictOf.new s.heap
  refine ⟨hnew.typeIs, F.args_dict_init_1 _, ?_⟩
  unfold Builtin.«dict.__init__»
  refine wpAny_bind ?_
  unfold Builtin.Dict.selfAndRest
  refine wpAny_bind (wpAny_notOrdered_dict hnew.typeIs ?_)
  show wpAny _ _ (pure (s.heap.objs.size, [])) _ _ _
  refine wpAny_pure ?_
  show wpAny _ _ (Builtin.Dict.addKeywords s.heap.objs.size [] >>= _) _ _ _
  exact wpAny_bind (wpAny_pure (wpAny_pure ⟨rfl, h⟩))

theorem stored_firsts (xs : List Str) (i : Nat) (x : Str) (hx : xs[i]? = some x) :
    stored ((firsts (xs.take i)).map fun y => (y, Value.none)) x .none = (firsts (xs.take (i + 1))).map fun y => (y, Value.none) := by
  have e : firsts (xs.take (i + 1)) = addNew (firsts (xs.take i)) x := by
    unfold firsts
    rw [List.take_add_one, hx, List.foldl_append]; rfl
  rw [e]
  unfold stored addNew
  have hany : (((firsts (xs.take i)).map fun y => (y, Value.none)).any fun kv => decide (kv.1 = x)) = (firsts (xs.take i)).any (· == x) := by
    rw [List.any_map]
    rw [Bool.eq_iff_iff]
    simp
  rw [hany]
  by_cases hc : (firsts (xs.take i)).any (· == x) = true
  · rw [if_pos hc, if_pos hc]
    rw [List.map_map]
    apply List.map_congr_left
    intro y _
    simp only [Function.comp]
    split <;> rfl
  · rw [if_neg hc, if_neg hc]
    simp

theorem loop_builtin {id : String} {args : Args} {b : Builtin} {R : Result → Shared → Prop} (hq : (Code.builtin id args).quiet = true) (hb : entryFor table id = some b) (I : Nat → Shared → Prop)
    (turn : ∀ n s, I n s → wpAny (model prog w) (A.under (.builtin id args)) (b args)
      (fun fin s' => match fin with | .done f => R (.ok f) s' | .again c' => c' = .builtin id args ∧ ∃ m, m < n ∧ I m s') (fun e s' => R (.error e) s') s)
    (n : Nat) (h : I n s) : codeAny (model prog w) A (.builtin id args) R s := by
  refine codeAny_loop hq I (fun n s hI => ?_) n h
  show wpAny _ _ (match entryFor table id with | some b => b args | none => unsupported ((withoutEnding? id "#data").getD id)) _ _ s
  rw [hb]; exact turn n s hI

theorem fk_loop {l d it : Addr} {vs : List Value} {xs : List Str} {Q : Value → Shared → Prop} (hh : A.handled = none) (hl : s.heap.IsList l vs.toArray) (hs : StrsAre vs xs) (hlen : xs.length ≤ 1000)
    (hd : s.heap.DictOf (strKind prog w) d []) (hit : s.heap.IsListIter it l 0) (hne : it ≠ d) (hln : l ≠ d) (hli : l ≠ it)
    (hQ : ∀ h' tk, h'.DictOf (strKind prog w) d ((firsts xs).map fun y => (y, Value.none)) → (∀ b o, b ≠ it → b ≠ d → s.heap.get? b = some o → h'.get? b = some o) → Q (.ref d) { s with heap := h', toks := tk }) :
    codeAny (model prog w) A (.builtin "dict.fromkeys.loop" ⟨[.ref d, .ref it, .none], []⟩) (wants Q E) s := by
  have hlv : vs.length = xs.length := hs.length
  refine loop_builtin fk_quiet_loop fk_entry_loop (fun k s' => ∃ i h' tk, k = xs.length - i ∧ i ≤ xs.length ∧ s' = { s with heap := h', toks := tk } ∧ h'.IsListIter it l i ∧ h'.DictOf (strKind prog w) d ((firsts (xs.take i)).map fun y => (y, Value.none)) ∧ (∀ b o, b ≠ it → b ≠ d → s.heap.get? b = some o → h'.get? b = some o)) ?_ xs.length
    ⟨0, s.heap, s.toks, rfl, Nat.zero_le _, rfl, hit, hd, fun _ _ _ _ e => e⟩
  rintro k _ ⟨i, h, tk, rfl, hi, rfl, hit', hd', hk⟩
  have hl' : h.IsList l vs.toArray := hl.at fun o e => hk l o hli hln e
  unfold Builtin.«dict.fromkeys.loop»
  have hh' : (A.under (.builtin "dict.fromkeys.loop" ⟨[.ref d, .ref it, .none], []⟩)).handled = none := hh
  by_cases hlt : i < xs.length
  · obtain ⟨x, hx⟩ : ∃ x, xs[i]? = some x := ⟨_, List.getElem?_eq_getElem hlt⟩
    obtain ⟨t, hv⟩ := hs.at hx
    refine wpAny_bind (wpAny_pyNext_list_item hit' hl' (x := .str x t) (by simpa using hv) ?_)
    intro h₁ hit₁ hs₁
    have hd₁ : h₁.DictOf (strKind prog w) d _ := hd'.sameBut hs₁ (Ne.symm hne)
    refine wpAny_bind (wpAny_typeOf (T := "dict") hd₁.typeIs ?_)
    rw [if_pos (by decide)]
    refine wpAny_bind (wpAny_pure (wpAny_bind (wpAny_holding (wpAny_dictSet_pairs (k := x) (strKind_is prog w x t) hd₁ ?_ ?_))))
    · intro h₂ hd₂ hs₂
      refine wpAny_pure ⟨rfl, xs.length - (i + 1), by omega, i + 1, h₂, _, rfl, hlt, rfl, ?_, ?_, ?_⟩
      · obtain ⟨o, ho, r⟩ := hit₁
        exact ⟨o, (hs₂.2 _ hne).trans ho, r⟩
      · rw [stored_firsts xs i x hx] at hd₂; exact hd₂
      · intro b o h1 h2 e
        exact (hs₂.2 _ h2).trans ((hs₁.2 _ h1).trans (hk b o h1 h2 e))
    · rw [List.length_map, sizeLine_eq]
      have : (firsts (xs.take i)).length ≤ (xs.take i).length := firsts_length_le _
      have h2 := List.length_take_le i xs
      omega
  · have hi' : i = xs.length := by omega
    subst hi'
    refine wpAny_bind (wpAny_pyNext_list_end hh' hit' hl' (by simp [hlv]) ?_)
    intro h₁ hs₁
    refine wpAny_pure (hQ h₁ tk ?_ ?_)
    · rw [List.take_length] at hd'
      exact hd'.extBut hs₁ (Ne.symm hne)
    · intro b o h1 h2 e
      exact hs₁ b o h1 (hk b o h1 h2 e)

end
end

section
section
variable {w : World} {prog : Program} {A : Around} {E : Value → Shared → Prop} {s : Shared} {h₀ : Heap} {L : Addr} {m : Str → Option Value} {news : List (Addr × Obj)} {K : Frag}

theorem fk_call {x l : Addr} {vs : List Value} {xs : List Str} {Q : Value → Shared → Prop} (hh : A.handled = none) (hx : s.heap.get? x = some fkBound) (hl : s.heap.IsList l vs.toArray) (hs : StrsAre vs xs) (hlen : xs.length ≤ 1000)
    (hQ : ∀ d h' tk, s.heap.objs.size ≤ d → h'.DictOf (strKind prog w) d ((firsts xs).map fun y => (y, Value.none)) → Grows s.heap h' → Q (.ref d) { s with heap := h', toks := tk }) :
    wpAny (model prog w) A (call (.ref x) [.ref l]) Q E s := by
  refine wpAny_call (codeAny_of_tree ?_)
  show wpAny _ A.in1 (callAny (.ref x) ⟨[.ref l], []⟩) _ _ s
  simp only [callAny]
  refine wpAny_bind (wpAny_load hx ?_)
  simp only [fkBound, show (Value.type "builtin_function_or_method" == Value.type "method" || Value.type "builtin_function_or_method" == Value.type "builtin_function_or_method" || Value.type "builtin_function_or_method" == Value.type "method-wrapper") = true by decide, if_true]
  refine KFB.if_so (by decide) ?_
  refine wpAny_bind (wpAny_of_eq (a := ()) fk_check ?_)
  refine wpAny_bind (wpAny_pure (wpAny_pure ?_))
  show _ ∧ codeAny _ _ (.builtin "dict.fromkeys" ⟨[.type "dict", .ref l], []⟩) _ _
  refine ⟨fk_quiet, codeAny_builtin fk_entry ?_⟩
  unfold Builtin.«dict.fromkeys»
  refine wpAny_bind (wpAny_of_eq (a := true) fk_isType ?_)
  refine KFB.if_not rfl ?_
  refine wpAny_bind (wpAny_of_eq (a := true) F.kt_sub_dict ?_)
  refine KFB.if_not rfl ?_
  refine KFB.if_not rfl ?_
  refine wpAny_bind (wpAny_bind (wpAny_rule ?_))
  refine wpAny_pure ?_
  refine wpAny_bind (wpAny_pure ?_)
  refine wpAny_bind (fk_call_dict ?_)
  refine wpAny_holding ?_
  have hnew : (s.heap.push { cls := .type "dict", data := .dict #[] }).DictOf (strKind prog w) s.heap.objs.size [] := Heap.DictOf.new s.heap
  have hl₁ : (s.heap.push { cls := .type "dict", data := .dict #[] }).IsList l vs.toArray := hl.at fun o e => Heap.get?_push_of_some _ e
  refine wpAny_bind (wpAny_typeOf hl₁.typeIs ?_)
  refine wpAny_bind (wpAny_typeOf hnew.typeIs ?_)
  rw [if_neg (by decide)]
  refine wpAny_bind (wpAny_typeOf hnew.typeIs ?_)
  rw [if_neg (by decide)]
  refine wpAny_bind (wpAny_pyIter_list hl₁ ?_)
  refine wpAny_pure ⟨fk_quiet_loop, ?_⟩
  have hls : l < s.heap.objs.size := by obtain ⟨o, ho, _⟩ := hl; exact Heap.lt_size ho
  refine fk_loop hh (hl₁.at fun o e => Heap.get?_push_of_some _ e) hs hlen (hnew.push _) ⟨_, Heap.get?_push_size _ rfl, rfl, rfl⟩ ?_ ?_ ?_ ?_
  · show (s.heap.push _).objs.size ≠ _
    rw [Heap.size_push]; exact Nat.succ_ne_self _
  · exact Nat.ne_of_lt hls
  · show _ ≠ (s.heap.push _).objs.size
    rw [Heap.size_push]; exact Nat.ne_of_lt (Nat.lt_succ_of_lt hls)
  · intro h' tk hd' hk
    refine hQ _ h' tk (Nat.le_refl _) hd' ?_
    intro b o e
    have hb := Heap.lt_size e
    refine hk b o ?_ (Nat.ne_of_lt hb) (Heap.get?_push_of_some _ (Heap.get?_push_of_some _ e))
    show _ ≠ (s.heap.push _).objs.size
    rw [Heap.size_push]; exact Nat.ne_of_lt (Nat.lt_succ_of_lt hb)
end
end

section
theorem fk_find (w : World) : findCls (KF w) (.type "dict") (.type "type") (PySem.Str.ofString "fromkeys") = some (.get (.builtin "classmethod_descriptor.__get__") (.builtin "dict.fromkeys") .none (.type "dict")) := by kernel_rfl
theorem fk_tga (w : World) : findIn (KF w) (.type "type") "__getattribute__" = some (some (.builtin "type.__getattribute__")) := by kernel_rfl

theorem fk_callWith0 {M : Model} {A : Around} {E : Value → Shared → Prop} {s : Shared} {pos : Pos} {u : Addr} {args : List (Bool × Sem Value)} {Q : Value → Shared → Prop} (hplain : args.any (·.1) = false)
    (h : wpAny M A (evalArgs (.ref u) true args []) (fun x s₁ => s₁.heap.get? u = some fkBound ∧ wpAny M A (call (.ref u) ([] ++ x.pos) x.kw) Q E s₁) E s) : wpAny M A (callWith pos (.ref u) [] args []) Q E s := by
  unfold callWith
  refine wpAny_bind (wpAny_holding (wpAny_mono h (fun x s₁ h₁ => wpAny_bind (wpAny_standAt ?_)) fun _ _ x => x))
  obtain ⟨ho, hcall⟩ := h₁
  simp only [hplain, List.any_nil, Bool.or_false]
  refine wpAny_bind (m := keeperOf (.ref u)) ?_
  unfold keeperOf
  refine wpAny_bind (wpAny_load ho ?_)
  simp only [fkBound, show (Value.type "builtin_function_or_method" != Value.type "method") = true by decide, show (Value.type "builtin_function_or_method" == Value.type "builtin_function_or_method" || Value.type "builtin_function_or_method" == Value.type "method-wrapper") = true by decide, if_true]
  refine wpAny_pure ?_
  exact wpAny_bind (wpAny_mono hcall (fun r s₂ hr => wpAny_bind (wpAny_holding (wpAny_point (wpAny_pure hr)))) fun _ _ x => x)
theorem fk_callWith {M : Model} {A : Around} {E : Value → Shared → Prop} {s : Shared} {pos : Pos} {u : Addr} {env : Env} {e : Expr} {rest : List Expr} {Q : Value → Shared → Prop}
    (h : wpAny M A (spliced (backTo pos (starEach (e :: rest) env))) (fun vs s₁ => s₁.heap.get? u = some fkBound ∧ wpAny M A (call (.ref u) ([] ++ vs)) Q E s₁) E s)
    (he : starEach (e :: rest) env = (false, eval e env) :: starEach rest env) (hplain : (backTo pos (starEach rest env)).any (·.1) = false) :
    wpAny M A (callWith pos (.ref u) [] (backTo pos (starEach (e :: rest) env)) []) Q E s := by
  rw [he] at h ⊢
  refine fk_callWith0 (by show (false || (backTo pos (starEach rest env)).any (·.1)) = false; rw [hplain]; rfl) ?_
  exact evalArgs_plain h

section
variable {w : World} {mg mb : Str → Option Value} {G : Heap} {prog : Program} {A : Around} {E : Value → Shared → Prop} {s : Shared} {Q : Value → Shared → Prop}
theorem dedup_ {l : Addr} {vs : List Value} {xs : List Str} (D : Gd w mg mb s.heap) (hA : A.depth < recursionLimit) (hh : A.handled = none)
    (hl : s.heap.IsList l vs.toArray) (hs : StrsAre vs xs) (hlen : xs.length ≤ 1000)
    (hQ : ∀ d h' tk, s.heap.objs.size ≤ d → h'.DictOf (strKind prog w) d ((firsts xs).map fun y => (y, Value.none)) → Grows s.heap h' → Q (.ref d) { s with heap := h', toks := tk }) :
    wpAny (model prog w) A (call (.ref 43) [.ref l]) Q E s := by
  refine enter (binds := [(Str.ofString "params", .ref l), (Str.ofString "unhashable_fallback", .bool false)]) D hA rfl (by rfl) (kp_binds D.X (fun _ => rfl)) (by decide) (locs rfl) ?_
  intro h₁ F
  have X := D.X
  with_reducible refine wpAny_execs_cons ?_
  with_reducible refine wpAny_Try_except ?_
  with_reducible refine wpAny_execs_cons (wpAny_Return_some ?_)
  have N : News s.heap s.heap.objs.size h₁ [] := News.nil
  iterate 2 walk1
  have D₁ := D.keeps F.keep
  with_reducible refine fk_getm (K := KF w) D₁.X (fk_find w) (fk_tga w) ?_
  have g : Grows h₁ (h₁.push fkBound) := grows_push
  have hb : (h₁.push fkBound).get? h₁.objs.size = some fkBound := Heap.get?_push_size _ rfl
  have F' := F.keeps g
  clear F N
  show wpAny (model prog w) _ (callWith _ (.ref _) [] (backTo _ (starEach [_] _)) []) _ _ { s with heap := h₁.push fkBound, toks := _ }
  with_reducible refine fk_callWith ?_ (by with_unfolding_all rfl) (by with_unfolding_all rfl)
  with_reducible refine wpAny_items_cons (nameLF F' rfl rfl ?_ (by with_unfolding_all rfl) (by with_unfolding_all rfl) (by decide)) (by with_unfolding_all rfl)
  with_reducible refine wpAny_items_nil ?_
  refine ⟨hb, ?_⟩
  refine fk_call hh hb (hl.at fun o e => F'.keep _ o e) hs hlen ?_
  intro d h' tk hd hD hg
  exact hQ d h' tk (Nat.le_trans (Nat.le_of_lt F'.ns.lt) hd) hD (fun b o e => hg _ _ (F'.keep _ _ e))
end
end

section
/-- the frames' addresses -/
def fls (outer : List Env) : List Addr := outer.filterMap (·.frame)
theorem mem_fls {outer : List Env} : ∀ env ∈ outer, ∀ a, env.frame = some a → a ∈ fls outer := fun env he a h => List.mem_filterMap.mpr ⟨env, he, h⟩

/-- all stands as it stood, but for the slots of the frames -/
structure Soft (l : List Addr) (h h' : Heap) : Prop where
  keep : ∀ b o, b ∉ l → h.get? b = some o → h'.get? b = some o
  slots : h.UpToSlots h'
theorem Soft.of_grows {l : List Addr} {h h' : Heap} (g : Grows h h') : Soft l h h' := ⟨fun b o _ e => g b o e, Heap.UpToSlots.of_keeps g⟩
theorem Soft.trans {l : List Addr} {h₁ h₂ h₃ : Heap} (x : Soft l h₁ h₂) (y : Soft l h₂ h₃) : Soft l h₁ h₃ := ⟨fun b o n e => y.keep b o n (x.keep b o n e), x.slots.trans y.slots⟩

theorem below_hide {A : Around} {base h : Heap} {outer : List Env} (B : Below A base outer h) : Below A (hideAll h (fls outer)) outer h :=
  ⟨B.stack, fun _ _ e => of_hideAll _ e, funFrames_hide B.frames mem_fls⟩
theorem fresh_stays {base h : Heap} {b : Addr} (k : base.StaysIn h) (e : h.get? b = none) : base.get? b = none := by
  cases hq : base.get? b with
  | none => rfl
  | some o => have := k b o hq; rw [e] at this; cases this

/-- what a call that catches within itself needs of the stack: every frame's dict lies in the heap, none in what stands -/
theorem below_soft {A : Around} {base h h' : Heap} {outer : List Env} (B : Below A base outer h) (x : Soft (fls outer) h h') : Below A base outer h' := by
  refine ⟨B.stack, fun b o e => x.keep b o (fun hm => ?_) (B.stays b o e), B.frames.of_keeps fun b o hb hn => ?_⟩
  · have := (B.frames.mem hm).1
    rw [this] at e; cases e
  · obtain ⟨sl, hs⟩ := x.slots b o hb hn
    exact ⟨_, hs, rfl⟩

section
variable {M : Model} {A : Around} {E : Value → Shared → Prop} {s : Shared} {base h : Heap} {env : Env} {outer : List Env} {L e : Addr} {X : String} {cls a0 : Value}

theorem note_firstW {Q : Unit → Shared → Prop} (hfr : A.frames = some (env :: outer)) (hf : env.frame = some L) (hkb : base.StaysIn h) (hl : h.FunFrames base (env :: outer)) (hx : Heap.NewExc h s.heap e X)
    (k : ∀ h' a0, Heap.HeldW base (env :: outer) e (.type X) a0 L h' → s.heap.UpToSlots h' → Q () { s with heap := h' }) : wpAny M A (noteFrame (.ref e) env) Q E s := by
  obtain ⟨ob, t, he, hc, hd⟩ := hx.there
  unfold noteFrame
  simp only [hf]
  refine wpAny_bind (wpAny_field he hd (x := .none) rfl ?_)
  rw [if_neg (by decide)]
  refine wpAny_entryW (a0 := t) hfr (hl.of_keeps fun b o hb _ => ⟨o, hx.keeps b o hb, rfl⟩) hf he (fun b o hb => hx.keeps b o (hkb b o hb)) (fresh_stays hkb hx.new) hd (by show 1 < 6; decide) rfl ?_
  intro h' hN
  obtain ⟨k1, k2, k3, k4⟩ := hN
  rw [hc] at k3
  exact k h' t ⟨k1, fresh_stays hkb hx.new, k2, k3⟩ k4

theorem note_firstB {h₀ : Heap} {a : Addr} {m : Str → Option Value} {name : Str} {scope : Scope} {cd : Value} {Q : Unit → Shared → Prop} (B : Below A base outer h₀) (F : Fr h₀ L h m) (hx : Heap.NewExc h s.heap e X)
    (k : ∀ h' a0, Heap.HeldW base (envOf name scope L a cd :: outer) e (.type X) a0 L h' → s.heap.UpToSlots h' → Q () { s with heap := h' }) (hk : scope.kind = .function := by rfl) :
    wpAny M (A.deeper (envOf name scope L a cd)) (noteFrame (.ref e) (envOf name scope L a cd)) Q E s :=
  let K' := B.push (name := name) (a := a) (cd := cd) F hk
  note_firstW K'.stack rfl K'.stays K'.frames hx k

theorem setFlight_someW {Q : Unit → Shared → Prop} {l : List Env} {fl : Value} (hkb : base.StaysIn s.heap) (hl : s.heap.FunFrames base l) (ht : s.heap.TracedAtW base e cls a0 fl)
    (h : ∀ h', base.StaysIn h' → h'.FunFrames base l → h'.TracedAtW base e cls a0 (rawInt L) → (∀ b o, s.heap.get? b = some o → (∀ vs, o.data ≠ .fields vs) → h'.get? b = some o) → Q () { s with heap := h' }) :
    wpAny M A (setFlight (.ref e) (some L)) Q E s := by
  obtain ⟨oe, vs, T, oT, ts, he, hcls, hd, h1, hnT, hTe, hT, hdT, h3⟩ := ht
  have hsz3 : 3 < ts.size := (Array.getElem?_eq_some_iff.mp h3).1
  have other : ∀ b, b ≠ T → (s.heap.update T (Obj.mapFields (·.setIfInBounds 3 ((some L : Option Addr).elim Value.none fun f => rawInt f)))).get? b = s.heap.get? b :=
    fun b hb => Heap.get?_update_other _ _ (Ne.symm hb)
  have noRecord : ∀ b o, s.heap.get? b = some o → (∀ vs, o.data ≠ .fields vs) → b ≠ T := fun b o hb hnf q => by
    rw [q, hT] at hb; injection hb with hb; subst hb; exact hnf ts hdT
  unfold setFlight
  refine wpAny_bind (wpAny_field he hd h1 ?_)
  rw [if_pos (show (Value.ref T != Value.none) = true from by simp)]
  refine wpAny_setField hT hdT hsz3 (h _ (fun b o hbo => (other b fun q => by rw [q, hnT] at hbo; cases hbo).trans (hkb b o hbo))
    (hl.of_keeps fun b o hb hnf => ⟨o, (other b (noRecord b o hb hnf)).trans hb, rfl⟩) ?_ fun b o hb hnf => (other b (noRecord b o hb hnf)).trans hb)
  exact ⟨oe, vs, T, _, _, (other e (Ne.symm hTe)).trans he, hcls, hd, h1, hnT, hTe, Heap.get?_update_self _ hT (Obj.isFreed_of_fields (Obj.data_mapFields hdT _)), Obj.data_mapFields hdT _, by simp [hsz3]⟩

theorem back_heldW {l : List Env} (hf : env.frame = some L) (H : Heap.HeldW base l e cls a0 L s.heap)
    (k : ∀ h', Heap.HeldW base l e cls a0 L h' → s.heap.UpToSlots h' → E (.ref e) { s with heap := h' }) : cameBackBy M A env E (.ref e) s := by
  obtain ⟨f1, f2, f3, f4⟩ := H
  have f4' := f4
  obtain ⟨oe, vs, T, oT, ts, he, hcls, hd, h1, hnT, hTe, hT, hdT, h3⟩ := f4'
  unfold cameBackBy
  refine wpAny_bind (wpAny_field he hd h1 ?_)
  rw [if_neg (show ¬ ((Value.ref T == Value.none) = true) from by simp)]
  rw [hf]
  exact setFlight_someW f1 f3 f4 fun h' k1 k2 k3 k4 => k h' ⟨k1, f2, k2, k3⟩ fun b o hb hn => ⟨o.slots, k4 b o hb hn⟩
end

section
variable {prog : Program} {w : World} {A : Around} {E : Value → Shared → Prop} {s : Shared} {base h : Heap} {env : Env} {outer : List Env} {L e : Addr} {X T : String} {a0 : Value}

/-- an exception held in this frame, taken by the one clause `except T:` -/
theorem try_heldW {t : Expr} {b₀ : Stmt} {suite : List Stmt} {pos : Pos} {rest : List ExceptHandler} {Q : Flow → Shared → Prop} (hf : env.frame = some L) (H : Heap.HeldW base (env :: outer) e (.type X) a0 L s.heap)
    (hexc : isSubtype (.type T) (.type "BaseException") = pure true) (hnt : isSubtype (.type ((Manifest.find? T).elim "type" fun x => x.metatype)) (.type "tuple") = pure false)
    (hsub : isSubtype (.type X) (.type T) = pure true)
    (hname : ∀ (h' : Heap) (Q' : Value → Shared → Prop) (E' : Value → Shared → Prop), base.StaysIn h' → Q' (.type T) { s with heap := h' } → wpAny (model prog w) (A.mark (some (.ref e))) (eval t env) Q' E' { s with heap := h' })
    (k : ∀ h' E', Heap.FlyingW base (env :: outer) e (.type X) a0 h' → s.heap.UpToSlots h' → wpAny (model prog w) (A.mark (some (.ref e))) (execs (b₀ :: suite) env) Q E' { s with heap := h' }) :
    wpAny (model prog w) A (noteFrame (.ref e) env) (fun _ s₂ => wpAny (model prog w) A (setFlight (.ref e) none) (fun _ s₃ =>
      wpAny (model prog w) A (handleBy (.ref e) env (.ExceptHandler (some t) none (b₀ :: suite) pos :: rest)) Q E s₃) E s₂) E s := by
  refine wpAny_noteFrame_againW hf H.2.2.2 ?_
  refine wpAny_landsW H fun h₁ H₁ u₁ => ?_
  refine wpAny_handleBy_builtin (X := X) (T := T) (b := true) hexc hnt hsub (hname h₁ _ _ H₁.1 ⟨rfl, H₁.there, ?_⟩)
  rw [if_pos rfl]
  exact lands_againW (s := { s with heap := h₁ }) H₁ fun h₂ H₂ u₂ => k h₂ _ H₂ (u₁.trans u₂)
end
end

section
section
variable {w : World} {prog : Program} {A : Around} {E : Value → Shared → Prop} {s : Shared} {Q : Value → Shared → Prop}

theorem loopWE {R : Result → Shared → Prop} {env : Env} {x : Str} {px : Pos} {body : List Stmt} {I : Addr} {fp : List Addr} {n : Nat} {P : Nat → Value → Prop} {St : Nat → Heap → Prop} {h₀ : Heap} {m₀ : Str → Option Value} {news : List (Addr × Obj)} {L : Addr} (hL : env.locals = L)
    (J : Nat → (Str → Option Value) → List (Addr × Obj) → Prop)
    (W : Walks prog w A I fp [I] n P St) (hI : ∀ i h, St i h → ∃ o, h.get? I = some o)
    (hx : env.kindOf x = some .local) (hp : (env.scope.kind == .class || (env.scope.kind == .module && env.locals != env.globals)) = false)
    (hLf : L ∉ fp) (hIf : I ∈ fp) (hI0 : h₀.get? I = none)
    (hfp : ∀ b ∈ fp, b = I ∨ ∃ o, (h₀.get? b = some o ∨ ∀ i m nx, J i m nx → (b, o) ∈ nx))
    (hst : St 0 s.heap) (F : Fr h₀ L s.heap m₀) (N : News h₀ L s.heap news) (hNI : ∀ p ∈ news, p.1 ≠ I) (hj : J 0 m₀ news)
    (turn : ∀ i v m nx h tk oI, i < n → P i v → J i m nx → (∀ p ∈ nx, p.1 ≠ I) → Fr h₀ L h (fun y => if y = x then some v else m y) → News h₀ L h ((I, oI) :: nx) →
      wpAny (model prog w) A (execs body env) (TurnEnd h₀ L I oI (J (i + 1)) s R) (notedBy (model prog w) A env fun e s' => R (.error e) s') { s with heap := h, toks := tk })
    (done : ∀ m nx h tk, J n m nx → Fr h₀ L h m → News h₀ L h nx → R (.ok .next) { s with heap := h, toks := tk }) :
    codeAny (model prog w) A (.forLoop (.Name x px) (.ref I) body [] env) R s := by
  subst hL
  have hLI : env.locals ≠ I := fun e => hLf (e ▸ hIf)
  refine codeAny_forLoop (fun k s' => ∃ i m nx h tk, s' = { s with heap := h, toks := tk } ∧ St i h ∧ Fr h₀ env.locals h m ∧ News h₀ env.locals h nx ∧ (∀ p ∈ nx, p.1 ≠ I) ∧ J i m nx ∧ i ≤ n ∧ k = n + 1 - i) ?_ (n + 1)
    ⟨0, m₀, news, s.heap, s.toks, rfl, hst, F, N, hNI, hj, Nat.zero_le _, rfl⟩
  rintro k s' ⟨i, m, nx, h, tk, rfl, hsti, Fi, Ni, hni, hji, hi, rfl⟩
  by_cases hlt : i < n
  · refine W.item i _ _ _ hlt hsti fun v h₁ tk₁ hP hst₁ hk₁ => ?_
    have hkI : ∀ b o, b ≠ I → h.get? b = some o → h₁.get? b = some o := fun b o hb e => hk₁ b o (by simpa using hb) e
    refine wpAny_assign_Name (wpAny_storeName_local hx (Fi.ns.at' fun o e => hkI _ o hLI e) (fun h₂ hn₂ hs₂ => ?_) hp)
    have up : ∀ b o, b ≠ I → b ≠ env.locals → h.get? b = some o → h₂.get? b = some o := fun b o hb hL e => hs₂.extBut b o hL (hkI b o hb e)
    have ne0 : ∀ b o, h₀.get? b = some o → b ≠ I ∧ b ≠ env.locals := fun b o e => ⟨fun q => (by rw [q, hI0] at e; cases e), fun q => Nat.lt_irrefl _ (Nat.lt_of_lt_of_le (Heap.lt_size e) (q ▸ Fi.above))⟩
    have F₂ : Fr h₀ env.locals h₂ (fun y => if y = x then some v else m y) := ⟨hn₂, fun b o e => up b o (ne0 b o e).1 (ne0 b o e).2 (Fi.keep b o e), Fi.above⟩
    obtain ⟨oI, hoI⟩ := hI _ _ hst₁
    have hoI₂ : h₂.get? I = some oI := hs₂.extBut I oI (Ne.symm hLI) hoI
    have N₂ : News h₀ env.locals h₂ ((I, oI) :: nx) := by
      intro p hp
      rcases List.mem_cons.mp hp with rfl | hp
      · exact ⟨hoI₂, Ne.symm hLI, hI0⟩
      · exact ⟨up _ _ (hni p hp) (Ni p hp).2.1 (Ni p hp).1, (Ni p hp).2⟩
    refine wpAny_mono (turn i v m nx h₂ (tk₁ + 1) oI hlt hP hji hni F₂ N₂) (fun fl s₃ h₃ => ?_) fun _ _ e => e
    have fin : (∃ h' tk' m' nx', s₃ = { s with heap := h', toks := tk' } ∧ Fr h₀ env.locals h' m' ∧ News h₀ env.locals h' ((I, oI) :: nx') ∧ (∀ p ∈ nx', p.1 ≠ I) ∧ J (i + 1) m' nx') →
        ∃ m_1, m_1 < n + 1 - i ∧ ∃ i m nx h tk, s₃ = { s with heap := h, toks := tk } ∧ St i h ∧ Fr h₀ env.locals h m ∧ News h₀ env.locals h nx ∧ (∀ p ∈ nx, p.1 ≠ I) ∧ J i m nx ∧ i ≤ n ∧ m_1 = n + 1 - i := by
      rintro ⟨h', tk', m', nx', rfl, F', N', hn', hj'⟩
      refine ⟨n + 1 - (i + 1), by omega, i + 1, m', nx', h', tk', rfl, ?_, F', fun p hp => N' p (.tail _ hp), hn', hj', hlt, rfl⟩
      have st₂ : St (i + 1) h₂ := W.frame _ _ _ hst₁ fun b hb o e => hs₂.extBut b o (fun q => hLf (q ▸ hb)) e
      refine W.frame _ _ _ st₂ fun b hb o e => ?_
      rcases hfp b hb with rfl | ⟨o', h0 | hnx⟩
      · rw [hoI₂] at e; cases e; exact (N' _ (.head _)).1
      · rw [F₂.keep b o' h0] at e; cases e; exact F'.keep b _ h0
      · have e1 := (N₂ _ (.tail _ (hnx i m nx hji))).1
        rw [e1] at e; cases e
        exact (N' _ (.tail _ (hnx _ _ _ hj'))).1
    cases fl with
    | next => exact fin h₃
    | cont => exact fin h₃
    | brk => exact h₃
    | ret v => exact h₃
  · have hin : i = n := by omega
    subst hin
    refine W.done _ _ _ hsti fun h₁ tk₁ hk₁ => wpAny_execs_nil ?_
    have hkI : ∀ b o, b ≠ I → h.get? b = some o → h₁.get? b = some o := fun b o hb e => hk₁ b o (by simpa using hb) e
    refine done m nx h₁ tk₁ hji ⟨Fi.ns.at' fun o e => hkI _ o hLI e, fun b o e => hkI b o (fun q => (by rw [q, hI0] at e; cases e)) (Fi.keep b o e), Fi.above⟩ fun p hp => ⟨hkI _ _ (hni p hp) (Ni p hp).1, (Ni p hp).2⟩

/-- for x in a list: the list lies in the base or in the ledger -/
theorem iterListE {R : Result → Shared → Prop} {env : Env} {x : Str} {px : Pos} {body : List Stmt} {h₀ : Heap} {m₀ : Str → Option Value} {news : List (Addr × Obj)} {l : Addr} {vs : List Value} {nn : Nat} {L : Addr} (hL : env.locals = L)
    (J : Nat → (Str → Option Value) → List (Addr × Obj) → Prop) (hh : A.handled = none)
    (hx : env.kindOf x = some .local) (hp : (env.scope.kind == .class || (env.scope.kind == .module && env.locals != env.globals)) = false)
    (hl : s.heap.get? l = some (listOf vs.toArray nn)) (hlL : l ≠ L)
    (hlk : h₀.get? l = some (listOf vs.toArray nn) ∨ ∀ i m nx, J i m nx → (l, listOf vs.toArray nn) ∈ nx)
    (F : Fr h₀ L s.heap m₀) (N : News h₀ L s.heap news) (hj : J 0 m₀ news)
    (turn : ∀ i v m nx h tk I oI, vs[i]? = some v → J i m nx → (∀ p ∈ nx, p.1 ≠ I) → Fr h₀ L h (fun y => if y = x then some v else m y) → News h₀ L h ((I, oI) :: nx) →
      wpAny (model prog w) A (execs body env) (TurnEnd h₀ L I oI (J (i + 1)) s R) (notedBy (model prog w) A env fun e s' => R (.error e) s') { s with heap := h, toks := tk })
    (done : ∀ m nx h tk, J vs.length m nx → Fr h₀ L h m → News h₀ L h nx → R (.ok .next) { s with heap := h, toks := tk }) :
    wpAny (model prog w) A (pyIter (.ref l)) (fun it s₂ => codeAny (model prog w) A (.forLoop (.Name x px) it body [] env) R s₂) E s := by
  subst hL
  have hls : s.heap.IsList l vs.toArray := ⟨_, hl, rfl, nn, rfl⟩
  have hne : l ≠ s.heap.objs.size := Nat.ne_of_lt (Heap.lt_size hl)
  refine wpAny_pyIter_list hls ?_
  have W := Walks.list (prog := prog) (w := w) hh s.heap.objs.size l hne vs.toArray
  have hlen : vs.toArray.size = vs.length := by simp
  rw [hlen] at W
  refine loopWE (news := news) rfl J W (fun i h st => let ⟨o, ho, _⟩ := st.1; ⟨o, ho⟩) hx hp ?_ (by simp) (next_is_new F) ?_ ⟨⟨_, Heap.get?_push_size _ rfl, rfl, rfl⟩, hls.at fun o e => Heap.get?_push_of_some _ e⟩ (F.push _)
    (fun p hp => ⟨Heap.get?_push_of_some _ (N p hp).1, (N p hp).2⟩) (fun p hp => Nat.ne_of_lt (Heap.lt_size (N p hp).1)) hj ?_ ?_
  · intro hm
    rcases List.mem_cons.mp hm with e | hm
    · exact absurd F.ns.lt (e ▸ Nat.lt_irrefl _)
    · exact hlL (List.mem_singleton.mp hm).symm
  · intro b hb
    rcases List.mem_cons.mp hb with e | hb
    · exact .inl e
    · rw [List.mem_singleton.mp hb]
      exact .inr ⟨_, hlk⟩
  · intro i v m nx h tk oI hi hP hJ hn F' N'
    exact turn i v m nx h tk _ oI (by simpa using hP) hJ hn F' N'
  · intro m nx h tk hJ F' N'
    exact done m nx h tk hJ F' N'

end
end

section
theorem erase_strs : ∀ {vs : List Value} {ys : List Str} (_ : StrsAre vs ys) {x : Str}, x ∈ ys → ∃ j, ∃ hj : j < vs.length, isStrOf x vs[j] = true ∧ (∀ m (hm : m < vs.length), m < j → isStrOf x vs[m] = false) ∧ StrsAre (vs.eraseIdx j) (ys.erase x)
  | _, _, .nil, _, h => nomatch h
  | _, _, .cons (vs := vs) (ys := ys) y t hs, x, h => by
    by_cases e : y = x
    · subst e
      exact ⟨0, by simp, by simp [isStrOf], fun m _ hm => absurd hm (Nat.not_lt_zero _), by simpa using hs⟩
    · have hx : x ∈ ys := by
        rcases List.mem_cons.mp h with q | q
        · exact absurd q.symm e
        · exact q
      obtain ⟨j, hj, h1, h2, h3⟩ := erase_strs hs hx
      refine ⟨j + 1, by simpa using hj, by simpa using h1, ?_, ?_⟩
      · intro m hm hlt
        cases m with
        | zero => simpa [isStrOf] using e
        | succ m => simpa using h2 m (by simpa using hm) (by omega)
      · rw [List.erase_cons_tail (by simpa using e), List.eraseIdx_cons_succ]
        exact .cons y t h3
theorem absent_strs : ∀ {vs : List Value} {ys : List Str} (_ : StrsAre vs ys) {x : Str}, x ∉ ys → ∀ m (hm : m < vs.length), isStrOf x vs[m] = false
  | _, _, .nil, _, _, m, hm => absurd hm (Nat.not_lt_zero _)
  | _, _, .cons y t hs, x, h, m, hm => by
    cases m with
    | zero =>
      show (y == x) = false
      simp only [beq_eq_false_iff_ne]
      exact fun q => h (q ▸ .head _)
    | succ m =>
      have := absent_strs hs (fun q => h (.tail _ q)) m (by simpa using hm)
      simpa using this

section
variable {w : World} {mg mb : Str → Option Value} {G : Heap} {prog : Program} {A : Around} {E : Value → Shared → Prop} {s : Shared} {Q : Value → Shared → Prop}

theorem remove_any {h₀ : Heap} {L Dd : Addr} {m : Str → Option Value} {news : List (Addr × Obj)} {vs : List Value} {ys : List Str} {n : Nat} {x : Str} {t : Tok} (F : Fr h₀ L s.heap m) (N : News h₀ L s.heap news) (hD : (Dd, listOf vs.toArray n) ∈ news)
    (rest : List (Addr × Obj)) (hrest : ∀ p ∈ rest, p ∈ news ∧ p.1 ≠ Dd) (hs : StrsAre vs ys) (hx : x ∈ ys) (hsz : vs.length ≤ 1000)
    (h : ∀ h' vs' n', Fr h₀ L h' m → News h₀ L h' ((Dd, listOf vs'.toArray n') :: rest) → StrsAre vs' (ys.erase x) → Q .none { s with heap := h' }) : wpAny (model prog w) A (call (.builtin "list.remove") [.ref Dd, .str x t]) Q E s := by
  have z := N _ hD
  obtain ⟨j, hj, h1, h2, h3⟩ := erase_strs hs hx
  have hupd := Heap.get?_update_self (Obj.mapSeq fun xs => xs.eraseIdxIfInBounds j) z.1 rfl
  refine call_meets PySem.F.slot_list_remove ⟨_, z.1, rfl⟩ PySem.F.entry_list_remove (PySem.F.args_list_remove_2 _ _)
    (MeetsSeq.list_remove Dd vs.toArray n (.str x t) (isStrOf x) (fun y hy => eq_isStrOf x t hs y (by simpa using hy)) j (by simpa using hj) (by simpa using h1) (fun i hi hlt => by simpa using h2 i (by simpa using hi) hlt) (by rw [List.size_toArray, sizeLine_eq]; omega))
    ⟨z.1, ?_⟩
  have hs' : Heap.SameBut Dd s.heap (s.heap.update Dd (Obj.mapSeq fun xs => xs.eraseIdxIfInBounds j)) := Heap.SameBut.update ..
  have e1 : vs.toArray.eraseIdxIfInBounds j = (vs.eraseIdx j).toArray := by
    apply Array.ext'; simp [Array.toList_eraseIdxIfInBounds]
  have hupd' : (s.heap.update Dd (Obj.mapSeq fun xs => xs.eraseIdxIfInBounds j)).get? Dd = some (W.listOf (vs.toArray.eraseIdxIfInBounds j) (if (vs.toArray.eraseIdxIfInBounds j).size == vs.toArray.size then n else n + 1)) := hupd
  rw [e1] at hupd'
  refine h _ (vs.eraseIdx j) (if ((vs.eraseIdx j).toArray.size == vs.toArray.size) = true then n else n + 1) ⟨F.ns.sameBut hs' (Ne.symm z.2.1), fun b o e => (hs'.2 b fun q => ?_).trans (F.keep b o e), F.above⟩ (fun p hp => ?_) h3
  · have := z.2.2; rw [← q] at this; rw [this] at e; cases e
  · rcases List.mem_cons.mp hp with rfl | hp
    · exact ⟨hupd', z.2⟩
    · have y := N _ (hrest p hp).1
      exact ⟨(hs'.2 _ (hrest p hp).2).trans y.1, y.2⟩

theorem remove_raises {Dd : Addr} {vs : List Value} {ys : List Str} {n : Nat} {x : Str} {t : Tok} (hh : A.handled = none) (hD : s.heap.get? Dd = some (listOf vs.toArray n)) (hs : StrsAre vs ys) (hx : x ∉ ys)
    (h : ∀ h' tk e, Heap.NewExc s.heap h' e "ValueError" → E (.ref e) { s with heap := h', toks := tk }) : wpAny (model prog w) A (call (.builtin "list.remove") [.ref Dd, .str x t]) Q E s := by
  refine call_meets PySem.F.slot_list_remove ⟨_, hD, rfl⟩ PySem.F.entry_list_remove (PySem.F.args_list_remove_2 _ _)
    (MeetsSeq.list_remove_none Dd vs.toArray n (.str x t) (isStrOf x) (fun y hy => eq_isStrOf x t hs y (by simpa using hy)) (fun i hi => by simpa using absent_strs hs hx i (by simpa using hi)))
    ⟨hD, hh, fun h' tk e hx => h h' tk e hx⟩
end
end

section
section
variable {w : World} {mg mb : Str → Option Value} {G : Heap} {prog : Program} {A : Around} {E : Value → Shared → Prop} {s : Shared} {Q : Value → Shared → Prop}

theorem compare_ {l r : Addr} {vs us : List Value} {xs ys : List Str} {nl nr : Nat} {base : Heap} {outer : List Env} (Db : Gd w mg mb base) (hA : A.depth + 1 < recursionLimit) (hh : A.handled = none) (B : Below A base outer s.heap)
    (hl : s.heap.get? l = some (listOf vs.toArray nl)) (hs : StrsAre vs xs) (hlen : xs.length ≤ 1000)
    (hr : s.heap.get? r = some (listOf us.toArray nr)) (ht : StrsAre us ys) (hlen' : ys.length ≤ 1000)
    (hQ : ∀ h' tk, Soft (fls outer) s.heap h' → Q (.bool ((firsts xs).isPerm (firsts ys))) { s with heap := h', toks := tk }) :
    wpAny (model prog w) A (call (.ref 57) [.ref l, .ref r]) Q E s := by
  have D : Gd w mg mb s.heap := Db.keeps B.stays
  refine enter (binds := [(Str.ofString "first_args", .ref l), (Str.ofString "second_args", .ref r)]) D (by omega) rfl (by rfl) (BindsTo.of_eq rfl) (by decide) (locs rfl) ?_
  intro h₁ F
  have X := D.X
  have N : News s.heap s.heap.objs.size h₁ [] := News.nil
  iterate 8 walk1
  refine ⟨D.X.keeps F.keep, ?_⟩
  have D₁ := D.keeps F.keep
  refine dedupU_ (vs := vs) (xs := xs) D₁ (by show A.depth + 1 < _; omega) hh (F.keep _ _ hl) hs hlen ?_
  intro a v1 n1 h₂ tk₂ ha0 ha hv1 g₁
  have F₂ := F.keeps g₁
  have ha0' : s.heap.get? a = none := fresh_stays F.keep ha0
  have haL : a ≠ s.heap.objs.size := fun q => by rw [q] at ha0; obtain ⟨o, _, _, ho, _⟩ := F.ns; rw [ho] at ha0; cases ha0
  have N₂ : News s.heap s.heap.objs.size h₂ [(a, listOf v1.toArray n1)] := fun p hp => by rw [List.mem_singleton.mp hp]; exact ⟨ha, haL, ha0'⟩
  clear F N D₁
  show wpAny (model prog w) _ _ _ _ { s with heap := h₂, toks := tk₂ }
  iterate 10 walk1
  rename Fr _ _ _ _ => F
  rename News _ _ _ _ => N
  with_reducible rename Heap => h₃
  have D₃ := D.keeps F.keep
  refine ⟨D₃.X, ?_⟩
  refine dedupU_ (vs := us) (xs := ys) D₃ (by show A.depth + 1 < _; omega) hh (F.keep _ _ hr) ht hlen' ?_
  intro b v2 n2 h₄ tk₄ hb0 hb hv2 g₃
  have F₄ := F.keeps g₃
  have hb0' : s.heap.get? b = none := fresh_stays F.keep hb0
  have hbL : b ≠ s.heap.objs.size := fun q => by rw [q] at hb0; obtain ⟨o, _, _, ho, _⟩ := F.ns; rw [ho] at hb0; cases hb0
  have hba : b ≠ a := fun q => by rw [q] at hb0; rw [(N _ (.head _)).1] at hb0; cases hb0
  have N₄ : News s.heap s.heap.objs.size h₄ [(b, listOf v2.toArray n2), (a, listOf v1.toArray n1)] := fun p hp => by
    rcases List.mem_cons.mp hp with rfl | hp
    · exact ⟨hb, hbL, hb0'⟩
    · rw [List.mem_singleton.mp hp]
      have := N _ (.head _)
      exact ⟨g₃ _ _ this.1, this.2⟩
  clear F N D₃
  show wpAny (model prog w) _ _ _ _ { s with heap := h₄, toks := tk₄ }
  iterate 10 walk1
  rename Fr _ _ _ _ => F
  rename News _ _ _ _ => N
  with_reducible rename Heap => h₅
  have hl1 : v1.length = (firsts xs).length := hv1.length
  have hl2 : v2.length = (firsts ys).length := hv2.length
  have hf1 := firsts_length_le xs
  have hf2 := firsts_length_le ys
  refine call_list_seq (hsz := by rw [List.size_toArray, sizeLine_eq]; omega) b (.inl rfl) (N _ (.head _)).1 rfl rfl fun h₆ c' hk hD => ?_
  have F₆ := F.keeps hk
  have hc0 : h₅.get? h₅.objs.size = none := Heap.get?_none_of_le (Nat.le_refl _)
  have N₆ : News s.heap s.heap.objs.size h₆ [(h₅.objs.size, listOf v2.toArray c'), (a, listOf v1.toArray n1)] := fun p hp => by
    rcases List.mem_cons.mp hp with rfl | hp
    · exact ⟨hD, fun q => absurd F.ns.lt (by rw [← q]; exact Nat.lt_irrefl _), fresh_stays F.keep hc0⟩
    · rw [List.mem_singleton.mp hp]
      have := N _ (.tail _ (.head _))
      exact ⟨hk _ _ this.1, this.2⟩
  have hca : h₅.objs.size ≠ a := Nat.ne_of_gt (Heap.lt_size (N _ (.tail _ (.head _))).1)
  clear F N hD
  show wpAny (model prog w) _ _ _ _ { s with heap := h₆, toks := _ }
  generalize h₅.objs.size = c at N₆ hca
  walk1
  rename Fr _ _ _ _ => F
  rename News _ _ _ _ => N
  with_reducible rename Heap => h₇
  show wpAny (model prog w) _ _ _ _ { s with heap := h₇, toks := _ }
  with_reducible refine wpAny_execs_cons (wpAny_Try_except ?_)
  with_reducible refine wpAny_execs_cons (wpAny_For ?_ (by intro _; with_unfolding_all rfl))
  walk1
  have haL' : a ≠ s.heap.objs.size := haL
  refine iterListE (L := s.heap.objs.size) (news := [(c, listOf v2.toArray c'), (a, listOf v1.toArray n1)]) rfl
    (fun i m nx => m (Str.ofString "t") = some (.ref c) ∧ ∃ vals n gs, nx = [(c, listOf (List.toArray vals) n), (a, listOf v1.toArray n1)] ∧ StrsAre vals gs ∧ vals.length ≤ 1000 ∧ ((firsts xs).drop i).isPerm gs = (firsts xs).isPerm (firsts ys))
    hh rfl rfl (N _ (.tail _ (.head _))).1 haL' (.inr fun i m nx hj => by obtain ⟨_, vals, n, gs, rfl, _⟩ := hj; exact .tail _ (.head _)) F N
    ⟨rfl, v2, c', firsts ys, rfl, hv2, by omega, by rw [List.drop_zero]⟩ ?_ ?_
  · clear F N
    rintro i v m nx h tk I oI hv ⟨hmt, vals, n, gs, rfl, hvs, hvl, hpm⟩ hne F N
    obtain ⟨x, t, rfl, hx⟩ := hv1.item i v hv
    show wpAny (model prog w) _ _ _ _ { s with heap := h, toks := tk }
    iterate 9 walk1
    have hdrop : (firsts xs).drop i = x :: (firsts xs).drop (i + 1) := by
      obtain ⟨hi, rfl⟩ := List.getElem?_eq_some_iff.mp hx
      exact List.drop_eq_getElem_cons hi
    rw [hdrop] at hpm
    by_cases hxg : x ∈ gs
    · refine remove_any F N (.tail _ (.head _)) [(I, oI), (a, listOf v1.toArray n1)] ?_ hvs hxg hvl ?_
      · intro p hp
        rcases List.mem_cons.mp hp with rfl | hp
        · exact ⟨.head _, Ne.symm (hne _ (.head _))⟩
        · rw [List.mem_singleton.mp hp]
          exact ⟨.tail _ (.tail _ (.head _)), Ne.symm hca⟩
      · intro h' vs' n' F' N' hv'
        show wpAny (model prog w) _ (execs [] _) _ _ { s with heap := h', toks := _ }
        with_reducible refine wpAny_execs_nil ?_
        refine ⟨h', _, _, [(c, listOf vs'.toArray n'), (a, listOf v1.toArray n1)], rfl, F', ?_, ?_, hmt, vs', n', gs.erase x, rfl, hv', ?_, ?_⟩
        · intro p hp
          rcases List.mem_cons.mp hp with rfl | hp
          · exact N' _ (.tail _ (.head _))
          · rcases List.mem_cons.mp hp with rfl | hp
            · exact N' _ (.head _)
            · exact N' _ (.tail _ (.tail _ hp))
        · intro p hp
          rcases List.mem_cons.mp hp with rfl | hp
          · exact hne (c, listOf vals.toArray n) (.head _)
          · rw [List.mem_singleton.mp hp]; exact hne _ (.tail _ (.head _))
        · have e1 := hv'.length
          have e2 := hvs.length
          have e3 := List.length_erase_of_mem hxg
          omega
        · rw [← hpm, List.isPerm, List.contains_iff_mem.mpr hxg, Bool.true_and]
    · have hfalse : (firsts xs).isPerm (firsts ys) = false := by
        rw [← hpm, List.isPerm]
        have : gs.contains x = false := by simpa using hxg
        rw [this, Bool.false_and]
      rw [hfalse] at hQ
      refine remove_raises hh (N _ (.tail _ (.head _))).1 hvs hxg ?_
      intro h' tk' e hx'
      have B0 := below_hide B
      have hbh : base.StaysIn (hideAll s.heap (fls outer)) := fun b o q => hideAll_get _ (B.stays b o q) fun hm => by
        have := (B.frames.mem hm).1; rw [this] at q; cases q
      refine note_firstB B0 F hx' fun h₁' a0 H u₁ => ?_
      refine back_heldW rfl H fun h₂' H₂ u₂ => ?_
      refine try_heldW (T := "ValueError") rfl H₂ (isSubtype_of_subB (by decide +kernel)) (isSubtype_of_subB (by decide +kernel)) (isSubtype_of_subB (by decide +kernel)) ?_ ?_
      · intro h3 Q' E' st hq
        exact nameB (Db.keeps fun b o q => st b o (hbh b o q)) (nValueError w) bValueError (by decide) hq rfl rfl rfl rfl (by decide)
      · intro h3 E' H3 u3
        with_reducible refine wpAny_execs_cons (wpAny_Return_some (wpAny_Constant_bool ?_))
        refine hQ h3 _ ⟨fun b o hb q => H3.1 b o (hideAll_get _ q hb), ?_⟩
        exact ((((Heap.UpToSlots.of_keeps F.keep).trans (Heap.UpToSlots.of_keeps hx'.keeps)).trans u₁).trans u₂).trans u3
  · clear F N
    rintro m nx h tk ⟨hmt, vals, n, gs, rfl, hvs, hvl, hpm⟩ F N
    rw [List.drop_of_length_le (by omega)] at hpm
    show wpAny (model prog w) _ (execs [] _) _ _ { s with heap := h, toks := tk }
    with_reducible refine wpAny_execs_nil ?_
    show wpAny (model prog w) _ (execs [] _) _ _ { s with heap := h, toks := tk }
    with_reducible refine wpAny_execs_nil ?_
    show wpAny (model prog w) _ _ _ _ { s with heap := h, toks := tk }
    iterate 4 walk1
    have hIs : h.IsList c (List.toArray vals) := ⟨_, (N _ (.head _)).1, rfl, _, rfl⟩
    with_reducible refine not_of ?_
    refine wpAny_truthy_list hIs (by rw [List.size_toArray]; omega) ?_
    have e : (!(!(List.toArray vals).isEmpty)) = (firsts xs).isPerm (firsts ys) := by
      rw [← hpm]
      cases hvs <;> simp [List.isPerm]
    show Q (.bool (!(!(List.toArray vals).isEmpty))) _
    rw [e]
    exact hQ h _ (Soft.of_grows F.keep)
end
end

section
section
variable {M : Model} {A : Around} {E : Value → Shared → Prop} {s : Shared} {base h : Heap} {env : Env} {outer : List Env} {L e : Addr} {ob : Obj} {vs : Array Value}

/-- noting the first frame, the exception's own object told -/
theorem note_exact {Q : Unit → Shared → Prop} (hfr : A.frames = some (env :: outer)) (hl : s.heap.FunFrames base (env :: outer)) (hf : env.frame = some L)
    (he : s.heap.get? e = some ob) (hkb : base.StaysIn s.heap) (hen : base.get? e = none) (hd : ob.data = .fields vs) (h1 : vs[1]? = some .none)
    (k : ∀ h' T, base.StaysIn h' → h'.FunFrames base (env :: outer) → h'.get? e = some (ob.mapFields (·.setIfInBounds 1 (.ref T))) → T ≠ e → base.get? T = none →
      (∃ oT ts, h'.get? T = some oT ∧ oT.data = .fields ts ∧ 3 < ts.size) → s.heap.UpToSlots h' → Q () { s with heap := h' }) : wpAny M A (noteFrame (.ref e) env) Q E s := by
  have hene : e ∉ (env :: outer).filterMap (·.frame) := fun hm => by
    obtain ⟨_, o, ho, hnf⟩ := hl.mem hm
    rw [he] at ho; cases ho; exact hnf vs hd
  unfold noteFrame
  simp only [hf]
  refine wpAny_bind (wpAny_field he hd h1 ?_)
  rw [if_neg (by decide)]
  refine wpAny_bind (wpAny_frameOf_fun hfr hl hf fun h₁ hs₁ => ?_)
  refine wpAny_bind (wpAny_entryPlaceOf fun pl hpl => ?_)
  unfold EntryCells.newEntry newFields
  refine wpAny_bind (wpAny_newObj_type ?_ (hpl.sizeOk5 _ _ _ _ _))
  have he₁ : h₁.get? e = some ob := (hs₁.2.1 e hene).trans he
  have kb₁ : base.StaysIn h₁ := fun b o hbo => (hs₁.2.1 b fun hm => by rw [(hl.mem hm).1] at hbo; cases hbo).trans (hkb b o hbo)
  have hTe : h₁.objs.size ≠ e := Nat.ne_of_gt (Heap.lt_size he₁)
  generalize hoT : ({ cls := .type "traceback", dict := none, data := .fields ([Value.none, .ref L, .none, rawInt L, .none] ++ (if pl.isEmpty then List.replicate 6 Value.none else pl)).toArray } : Obj) = oT
  have hoTd : ∃ ts, oT.data = .fields ts ∧ 3 < ts.size := by subst hoT; exact ⟨_, rfl, by simp only [List.size_toArray, List.length_append, List.length_cons, List.length_nil] <;> omega⟩
  have hTp : (h₁.push oT).get? h₁.objs.size = some oT := by subst hoT; exact Heap.get?_push_size _ rfl
  have he₂ : (h₁.push oT).get? e = some ob := Heap.get?_push_of_some _ he₁
  refine wpAny_setField (s := { s with heap := h₁.push oT }) he₂ hd (Array.getElem?_eq_some_iff.mp h1).1 ?_
  have hd₃ := Obj.data_mapFields hd (·.setIfInBounds 1 (Value.ref h₁.objs.size))
  have he₃ := Heap.get?_update_self (Obj.mapFields (·.setIfInBounds 1 (Value.ref h₁.objs.size))) he₂ (Obj.isFreed_of_fields hd₃)
  have other : ∀ b, b ≠ e → ((h₁.push oT).update e (Obj.mapFields (·.setIfInBounds 1 (Value.ref h₁.objs.size)))).get? b = (h₁.push oT).get? b := fun b hb => Heap.get?_update_other _ _ (Ne.symm hb)
  have noRecord : ∀ b o, s.heap.get? b = some o → (∀ vs, o.data ≠ .fields vs) → b ≠ e := fun b o hb hnf q => by
    rw [q, he] at hb; cases hb; exact hnf vs hd
  refine k _ h₁.objs.size (fun b o hbo => (other b fun q => by rw [q, hen] at hbo; cases hbo).trans (Heap.get?_push_of_some _ (kb₁ b o hbo))) (hl.of_keeps fun b o hb hnf => ?_) he₃ hTe (fresh_stays kb₁ (Heap.get?_none_of_le (Nat.le_refl _)))
    ⟨oT, hoTd.choose, (other _ hTe).trans hTp, hoTd.choose_spec⟩ fun b o hb hnf => ?_
  · obtain ⟨sl, hs⟩ := hs₁.2.2 b o hb
    exact ⟨_, (other b (noRecord b o hb hnf)).trans (Heap.get?_push_of_some _ hs), rfl⟩
  · obtain ⟨sl, hs⟩ := hs₁.2.2 b o hb
    exact ⟨sl, (other b (noRecord b o hb hnf)).trans (Heap.get?_push_of_some _ hs)⟩

/-- the flight's mark of a noted exception -/
theorem flight_exact {Q : Unit → Shared → Prop} {T : Addr} {oT : Obj} {ts : Array Value} {fr : Option Addr} (he : s.heap.get? e = some ob) (hd : ob.data = .fields vs) (h1 : vs[1]? = some (.ref T)) (hT : s.heap.get? T = some oT) (hdT : oT.data = .fields ts) (h3 : 3 < ts.size) (hTe : T ≠ e)
    (k : ∀ h' oT', (∀ b, b ≠ T → h'.get? b = s.heap.get? b) → h'.get? T = some oT' → (∃ ts, oT'.data = .fields ts ∧ 3 < ts.size) → Q () { s with heap := h' }) : wpAny M A (setFlight (.ref e) fr) Q E s := by
  unfold setFlight
  refine wpAny_bind (wpAny_field he hd h1 ?_)
  rw [if_pos (show (Value.ref T != Value.none) = true from by simp)]
  refine wpAny_setField hT hdT h3 (k _ _ (fun b hb => Heap.get?_update_other _ _ (Ne.symm hb)) (Heap.get?_update_self _ hT (Obj.isFreed_of_fields (Obj.data_mapFields hdT _))) ⟨_, Obj.data_mapFields hdT _, by simpa using h3⟩)
end

theorem entry_unchain : entryFor table "proto.unchain" = some Builtin.«proto.unchain» := entryFor_of_tree (by kernel_rfl)

section
variable {prog : Program} {w : World} {A : Around} {E : Value → Shared → Prop} {s : Shared} {env : Env} {e : Addr}

/-- raise while another is handled, with no chain below that one -/
theorem raiseNew_chained {α : Type} {Q : α → Shared → Prop} {e2 : Addr} {oe o2 : Obj} {es vs : Array Value} (hh : A.handled = some (.ref e)) (hne : e ≠ e2) (he : s.heap.get? e = some oe) (hed : oe.data = .fields es) (hc : es[2]? = some .none)
    (h2 : s.heap.get? e2 = some o2) (hd2 : o2.data = .fields vs) (hsz : 2 < vs.size)
    (h : E (.ref e2) { s with heap := s.heap.update e2 (Obj.mapFields (·.setIfInBounds 2 (.ref e))) }) : wpAny (model prog w) A (raiseNew (.ref e2) : Sem α) Q E s := by
  unfold raiseNew
  refine wpAny_bind (wpAny_handled ?_)
  rw [hh]
  dsimp only
  rw [if_pos (by simpa using hne)]
  refine wpAny_bind (wpAny_holding (wpAny_runValue (codeAny_builtin entry_unchain ?_)))
  unfold Builtin.«proto.unchain»
  refine wpAny_bind (wpAny_field he hed hc ?_)
  rw [if_pos (by decide)]
  refine wpAny_pure ?_
  show wpAny _ _ (updateField e2 2 (.ref e) >>= fun _ => throw (.ref e2)) _ _ _
  refine wpAny_bind ?_
  show wpAny _ _ (setField (.ref e2) 2 (.ref e)) _ _ _
  exact wpAny_setField h2 hd2 hsz (wpAny_throw h)

/-- raise T(..) from None while another is handled -/
theorem raise_from_none {cls newId initId : String} (FC : ExcCallFacts cls newId initId) (FR : ExcRaiseFacts cls) {x : Str} {np cpos pos npos : Pos} {kk : Nat} {e₀ : Expr} {rest : List Expr} {Q : Flow → Shared → Prop} (hh : A.handled = some (.ref e))
    (h : wpAny (model prog w) A (eval (.Name x np) env) (fun f s₁ => f = .type cls ∧ wpAny (model prog w) A (spliced (backTo cpos (starEach (e₀ :: rest) env)))
      (fun vs s₂ => vs.length ≤ sizeLine ∧ (∃ oe es, s₂.heap.get? e = some oe ∧ oe.data = .fields es ∧ es[2]? = some .none) ∧
        ∀ h' e2 t, (∀ b o, s₂.heap.get? b = some o → h'.get? b = some o) → s₂.heap.get? e2 = none → h'.get? e2 = some { cls := .type cls, data := .fields #[.ref t, .none, .ref e, .none, .bool true, .none] } →
          s₂.heap.get? t = none → h'.get? t = some { cls := .type "tuple", data := .seq vs.toArray } → E (.ref e2) { s₂ with heap := h' }) E s₁) E s)
    (he : starEach (e₀ :: rest) env = (false, eval e₀ env) :: starEach rest env) (hplain : (backTo cpos (starEach rest env)).any (·.1) = false) :
    wpAny (model prog w) A (exec (.Raise (some (.Call (.Name x np) (e₀ :: rest) [] cpos)) (some (.Constant .none kk npos)) pos) env) Q E s := by
  rw [arm_exec_Raise]
  refine wpAny_bind (wpAny_standAt ?_)
  show wpAny _ _ (raiseStmt env (some (do let v ← eval (.Call (.Name x np) (e₀ :: rest) [] cpos) env; standAt pos; pure v)) (some (do let v ← eval (.Constant .none kk npos) env; standAt pos; pure v))) _ _ _
  unfold raiseStmt
  refine wpAny_bind (wpAny_bind (wpAny_Call_ofName (wpAny_mono h (fun f s₁ h₁ => ?_) fun _ _ y => y)))
  obtain ⟨rfl, h₁⟩ := h₁
  rw [he] at h₁ ⊢
  refine callWith_excType (by show (false || (backTo cpos (starEach rest env)).any (·.1)) = false; rw [hplain]; rfl) (Calls.evalArgs_plain (wpAny_mono h₁ (fun vs s₂ h₂ => ?_) fun _ _ y => y))
  obtain ⟨hsz, ⟨oe, es, hoe, hed, hc⟩, hE⟩ := h₂
  obtain ⟨hp, g, d, tk, os⟩ := s₂
  refine wpAny_call_exc FC (hrest := hsz) fun h' e2 hm => ?_
  obtain ⟨t, ht, htn, htt⟩ := hm.there
  refine wpAny_bind (wpAny_standAt (wpAny_pure ?_))
  refine wpAny_bind (wpAny_holding (wpAny_bind (wpAny_Constant_none (wpAny_bind (wpAny_standAt (wpAny_pure ?_))))))
  refine wpAny_bind (wpAny_pure ?_)
  have hsub := FR.isExc
  have hmeta := FR.plainMeta
  refine wpAny_bind (wpAny_holding ?_)
  repeat (first | refine wpAny_loadPart ht ?_ | wp_step)
  have hne : e ≠ e2 := fun q => by have := hm.new; rw [← q, hoe] at this; cases this
  have o1 : ∀ b, b ≠ e2 → (h'.update e2 (Obj.mapFields fun x => x.setIfInBounds 3 Value.none)).get? b = h'.get? b := fun b hb => Heap.get?_update_other _ _ (Ne.symm hb)
  have o2 : ∀ b, b ≠ e2 → ((h'.update e2 (Obj.mapFields fun x => x.setIfInBounds 3 Value.none)).update e2 (Obj.mapFields fun x => x.setIfInBounds 4 (Value.bool true))).get? b = h'.get? b := fun b hb => (Heap.get?_update_other _ _ (Ne.symm hb)).trans (o1 b hb)
  have s1 := Heap.get?_update_self (Obj.mapFields fun x => x.setIfInBounds 3 Value.none) ht rfl
  have s2 := Heap.get?_update_self (Obj.mapFields fun x => x.setIfInBounds 4 (Value.bool true)) s1 rfl
  refine raiseNew_chained hh hne ((o2 e hne).trans (hm.keeps _ _ hoe)) hed hc s2 rfl (by show 2 < 6; decide) ?_
  have s3 := Heap.get?_update_self (Obj.mapFields (·.setIfInBounds 2 (Value.ref e))) s2 rfl
  have o3 : ∀ b, b ≠ e2 → (((h'.update e2 (Obj.mapFields fun x => x.setIfInBounds 3 Value.none)).update e2 (Obj.mapFields fun x => x.setIfInBounds 4 (Value.bool true))).update e2 (Obj.mapFields (·.setIfInBounds 2 (Value.ref e)))).get? b = h'.get? b := fun b hb => (Heap.get?_update_other _ _ (Ne.symm hb)).trans (o2 b hb)
  have hte : t ≠ e2 := fun q => by rw [q, ht] at htt; cases htt
  refine hE _ e2 t (fun b o q => (o3 b fun z => ?_).trans (hm.keeps b o q)) hm.new s3 htn ((o3 t hte).trans htt)
  have := hm.new
  rw [z] at q; rw [q] at this; cases this
end
end

section
section
variable {M : Model} {A : Around} {E : Value → Shared → Prop} {s : Shared} {base h : Heap} {env : Env} {outer : List Env} {L e : Addr} {ob : Obj} {vs : Array Value} {a0 cls : Value}
theorem ff_slots {l : List Env} {h h' : Heap} (f : h.FunFrames base l) (u : h.UpToSlots h') : h'.FunFrames base l := f.of_keeps fun b o hb hn => let ⟨_, hs⟩ := u b o hb hn; ⟨_, hs, rfl⟩
theorem slots_but {T : Addr} {oT : Obj} {ts : Array Value} {h h' : Heap} (hT : h.get? T = some oT) (hd : oT.data = .fields ts) (same : ∀ b, b ≠ T → h'.get? b = h.get? b) : h.UpToSlots h' := fun b o hb hn =>
  ⟨o.slots, (same b fun q => by rw [q, hT] at hb; cases hb; exact hn ts hd).trans hb⟩
theorem stays_but {T : Addr} {h h' : Heap} (st : base.StaysIn h) (hT : base.get? T = none) (same : ∀ b, b ≠ T → h'.get? b = h.get? b) : base.StaysIn h' := fun b o hb =>
  (same b fun q => by rw [q, hT] at hb; cases hb).trans (st b o hb)

theorem note_firstG {Q : Unit → Shared → Prop} (hfr : A.frames = some (env :: outer)) (hl : s.heap.FunFrames base (env :: outer)) (hf : env.frame = some L)
    (he : s.heap.get? e = some ob) (hkb : base.StaysIn s.heap) (hen : base.get? e = none) (hd : ob.data = .fields vs) (h1 : vs[1]? = some .none) (h0 : vs[0]? = some a0)
    (k : ∀ h', Heap.HeldW base (env :: outer) e ob.cls a0 L h' → s.heap.UpToSlots h' → Q () { s with heap := h' }) : wpAny M A (noteFrame (.ref e) env) Q E s := by
  unfold noteFrame
  simp only [hf]
  refine wpAny_bind (wpAny_field he hd h1 ?_)
  rw [if_neg (by decide)]
  refine wpAny_entryW (a0 := a0) hfr hl hf he hkb hen hd (Array.getElem?_eq_some_iff.mp h1).1 h0 ?_
  intro h' hN
  obtain ⟨k1, k2, k3, k4⟩ := hN
  exact k h' ⟨k1, hen, k2, k3⟩ k4

theorem note_exactB {h₀ : Heap} {a : Addr} {m : Str → Option Value} {name : Str} {scope : Scope} {cd : Value} {Q : Unit → Shared → Prop} (B : Below A base outer h₀) (F : Fr h₀ L h m) (hk : ∀ b o, h.get? b = some o → s.heap.get? b = some o)
    (he : s.heap.get? e = some ob) (hen : base.get? e = none) (hd : ob.data = .fields vs) (h1 : vs[1]? = some .none)
    (k : ∀ h' T, base.StaysIn h' → h'.FunFrames base (envOf name scope L a cd :: outer) → h'.get? e = some (ob.mapFields (·.setIfInBounds 1 (.ref T))) → T ≠ e → base.get? T = none →
      (∃ oT ts, h'.get? T = some oT ∧ oT.data = .fields ts ∧ 3 < ts.size) → s.heap.UpToSlots h' → Q () { s with heap := h' }) (hf : scope.kind = .function := by rfl) :
    wpAny M (A.deeper (envOf name scope L a cd)) (noteFrame (.ref e) (envOf name scope L a cd)) Q E s :=
  let K' := B.push (name := name) (a := a) (cd := cd) F hf
  note_exact K'.stack (ff_slots K'.frames (Heap.UpToSlots.of_keeps hk)) rfl he (fun b o q => hk b o (K'.stays b o q)) hen hd h1 k

theorem leaves_held {Q : Unit → Shared → Prop} (hf : env.frame = some L) (hh : Heap.HeldW base (env :: outer) e cls a0 L s.heap)
    (hQ : ∀ h', Heap.FlyingW base outer e cls a0 h' → s.heap.UpToSlots h' → Q () { s with heap := h' }) : wpAny M A (leaving env (.ref e)) Q E s := by
  unfold leaving
  refine wpAny_bind (wpAny_noteFrame_againW hf hh.2.2.2 ?_)
  refine wpAny_landsW hh fun h' hfl u => ?_
  obtain ⟨k1, k2, ⟨_, _, k3⟩, k4⟩ := hfl
  exact hQ h' ⟨k1, k2, k3, k4⟩ u
end

section
variable {w : World} {mg mb : Str → Option Value} {prog : Program} {A : Around} {E : Value → Shared → Prop} {s : Shared}

theorem unpack_long {l : Addr} {items : Array Value} {Q : List Value → Shared → Prop} (hh : A.handled = none) (hl : s.heap.IsList l items) (hn : 2 < items.size)
    (h : ∀ h₁ h₂ e tk, Grows s.heap h₁ → Heap.NewExc h₁ h₂ e "ValueError" → E (.ref e) { s with heap := h₂, toks := tk }) : wpAny (model prog w) A (unpackItems (.ref l) 2 none) Q E s := by
  have hlt : l ≠ s.heap.objs.size := by obtain ⟨o, ho, _⟩ := hl; exact Nat.ne_of_lt (Heap.lt_size ho)
  unfold unpackItems
  refine wpAny_bind ?_
  unfold notIterableAtAll
  refine wpAny_bind (wpAny_specialOf hl.typeIs slot_list_iter.lookup ?_)
  refine wpAny_pure ?_
  simp only [Bool.false_eq_true, if_false]
  refine wpAny_bind (wpAny_holding (wpAny_pyIter_list hl ?_))
  refine wpAny_bind (wpAny_holding (kun_draw hlt 2 0 _ _ ⟨_, Heap.get?_push_size _ rfl, rfl, rfl⟩ (hl.push _) (by omega) fun h₁ hit₁ hs₁ => ?_))
  have hlen : (List.take 2 (List.drop 0 items.toList)).length = 2 := by simp; omega
  rw [if_neg (by rw [hlen]; decide)]
  have hl₁ : h₁.IsList l items := (hl.push _).extBut hs₁.extBut hlt
  refine wpAny_bind (wpAny_holding (wpAny_pyNext_list_item hit₁ hl₁ (x := items[2]) (by simp [hn]) fun h₂ hit₂ hs₂ => ?_))
  rw [if_pos (by rfl)]
  refine wpAny_bind (wpAny_rule ?_)
  refine wpAny_bind (wpAny_raiseErrorMade plainExc_ValueError hh (fun h₃ tk e hx => ?_) (by decide +kernel))
  refine h h₂ h₃ e tk (fun b o q => ?_) hx
  have hb : b ≠ s.heap.objs.size := Nat.ne_of_lt (Heap.lt_size q)
  exact (hs₂.2 b hb).trans ((hs₁.2 b hb).trans (Heap.get?_push_of_some _ q))

/-- entering a plain def of the text, its way that raises told -/
theorem enterE {Q : Value → Shared → Prop} {name qual : Str} {params : Arguments} {body : List Stmt} {scope : Scope} {dV kV doc pm cdv ct oc : Value} {an od : Option Addr} {osl : Array (Option Value)} {f : Addr} {args : List Value} {kw : List (Str × Value)} {binds : List (Str × Value)}
    (D : Gd w mg mb s.heap) (hroom : A.depth < recursionLimit)
    (ho : (KF w).lookup f = some ⟨oc, od, .func (fnOf name qual params body scope dV kV doc pm an cdv ct), osl⟩)
    (hcd : codeIn (KF w) cdv qual = true)
    (hbind : BindsTo s (fnOf name qual params body scope dV kV doc pm an cdv ct) ⟨args, kw⟩ binds)
    (hcell : ∀ x ∈ scope.names, x.2 ≠ .cell) (hloc : ∀ y ∈ binds, scope.names.lookup y.1 = some .local)
    (h : ∀ h₁, Fr s.heap s.heap.objs.size h₁ (fun y => binds.reverse.lookup y) →
      wpAny (model prog w) (A.deeper (envOf qual scope s.heap.objs.size f cdv)) (execs body (envOf qual scope s.heap.objs.size f cdv))
        (fun fl s' => Q (match fl with | .ret v => v | _ => .none) s')
        (fun e s' => wpAny (model prog w) (A.deeper (envOf qual scope s.heap.objs.size f cdv)) (leaving (envOf qual scope s.heap.objs.size f cdv) e) (fun _ s'' => E e s'') (fun e' s'' => E e' s'') s')
        { s with heap := h₁, toks := s.toks + binds.length })
    (hco : scope.isCoroutine = false := by rfl) (hgen : scope.isGenerator = false := by rfl) (hk : scope.kind = .function := by rfl) :
    wpAny (model prog w) A (call (.ref f) args kw) Q E s := by
  refine wpAny_call ?_
  exact codeAny_call_def (fd := fnOf name qual params body scope dV kV doc pm an cdv ct) (body := body) (binds := binds) hroom (D.X _ _ ho) rfl D.lim (codeRec_of D.X hcd) rfl hbind hcell hloc (fun h₁ hns hk₁ => h h₁ ⟨hns, hk₁, Nat.le_refl _⟩) hco hgen hk
end
end

section
def msgS : Str := Str.ofString "Locale must be None, a string, or an iterable of two strings -- language code, encoding."
section
variable {w : World} {mg mb : Str → Option Value} {G : Heap} {prog : Program} {A : Around} {E : Value → Shared → Prop} {s : Shared} {Q : Value → Shared → Prop}

theorem buildRaises_ {l : Addr} {items : Array Value} {base : Heap} {outer : List Env} (Db : Gd w mg mb base) (B : Below A base outer s.heap) (hA : A.depth < recursionLimit) (hh : A.handled = none) (hl : s.heap.IsList l items) (hn : 2 < items.size)
    (hE : ∀ e t u h' tk, Heap.FlyingW base outer e (.type "TypeError") (.ref t) h' → h'.TupAt t [.str msgS u] → s.heap.UpToSlots h' → E (.ref e) { s with heap := h', toks := tk }) :
    wpAny (model prog w) A (call (.ref 35) [.ref l]) Q E s := by
  have D : Gd w mg mb s.heap := Db.keeps B.stays
  refine enterE (binds := [(Str.ofString "localetuple", .ref l)]) D hA rfl (by rfl) (BindsTo.of_eq rfl) (by decide) (locs rfl) ?_
  intro h₁ F
  with_reducible refine wpAny_execs_cons ?_
  with_reducible refine wpAny_Try_except ?_
  have N : News s.heap s.heap.objs.size h₁ [] := News.nil
  iterate 3 walk1
  rw [assign_Tuple]
  with_reducible refine wpAny_bind (wpAny_standAt (wpAny_bind (wpAny_holding ?_)))
  have hl₁ : h₁.IsList l items := hl.at fun o e => F.keep _ o e
  refine unpack_long hh hl₁ hn ?_
  intro h₂ h₃ e tk g hx
  have F₂ := F.keeps g
  clear F N
  obtain ⟨ob, a0, he, hcls, hd⟩ := hx.there
  have hen : base.get? e = none := fresh_stays (fun b o q => F₂.keep b o (B.stays b o q)) hx.new
  have u₃ : s.heap.UpToSlots h₃ := Heap.UpToSlots.of_keeps fun b o q => hx.keeps b o (F₂.keep b o q)
  show wpAny (model prog w) _ _ _ _ { s with heap := h₃, toks := tk }
  refine note_exactB B F₂ hx.keeps he hen hd rfl ?_
  intro h₄ T st₄ ff₄ he₄ hTe hbT hT₄ u₄
  obtain ⟨oT, ts, hT, hdT, h3⟩ := hT₄
  have hd₄ : (ob.mapFields (·.setIfInBounds 1 (.ref T))).data = .fields #[a0, .ref T, .none, .none, .bool false, .none] := Obj.data_mapFields hd _
  have hcls₄ : (ob.mapFields (·.setIfInBounds 1 (.ref T))).cls = .type "ValueError" := (Obj.cls_mapFields _ _).trans hcls
  generalize ob.mapFields (·.setIfInBounds 1 (.ref T)) = ob₄ at he₄ hd₄ hcls₄
  refine flight_exact (s := { s with heap := h₄, toks := tk }) he₄ hd₄ rfl hT hdT h3 hTe ?_
  intro h₅ oT₅ same₅ hT₅ ht₅
  have u₅ := slots_but hT hdT same₅
  have st₅ := stays_but st₄ hbT same₅
  have he₅ := (same₅ e (Ne.symm hTe)).trans he₄
  show wpAny (model prog w) _ _ _ _ { s with heap := h₅, toks := tk }
  have D₅ : Gd w mg mb h₅ := Db.keeps st₅
  refine wpAny_handleBy_tup2 (X := "ValueError") (T1 := "TypeError") (T2 := "ValueError") (b1 := false) (b2 := true) (isSubtype_of_subB (by decide +kernel)) (isSubtype_of_subB (by decide +kernel)) (isSubtype_of_subB (by decide +kernel)) (isSubtype_of_subB (by decide +kernel)) (isSubtype_of_subB (by decide +kernel)) (isSubtype_of_subB (by decide +kernel)) ?_
  with_reducible refine Tuple_ (wpAny_items_cons (nameB D₅ (nTypeError w) bTypeError (by decide) ?_ (by with_unfolding_all rfl) (by with_unfolding_all rfl) (by with_unfolding_all rfl) (by with_unfolding_all rfl) (by decide)) (by with_unfolding_all rfl))
  with_reducible refine wpAny_items_cons (nameB D₅ (nValueError w) bValueError (by decide) ?_ (by with_unfolding_all rfl) (by with_unfolding_all rfl) (by with_unfolding_all rfl) (by with_unfolding_all rfl) (by decide)) (by with_unfolding_all rfl)
  with_reducible refine wpAny_items_nil ?_
  refine wpAny_newObj_type ⟨_, rfl, IsTup.new _ _, ⟨ob₄, Heap.get?_push_of_some _ he₅, hcls₄⟩, ?_⟩
  rw [if_pos (show (false || true) = true from rfl)]
  obtain ⟨ts₅, hdT₅, h3₅⟩ := ht₅
  have gp : Grows h₅ (h₅.push { cls := .type "tuple", dict := none, data := .seq [Value.type "TypeError", .type "ValueError"].toArray }) := grows_push
  refine flight_exact (s := { s with heap := h₅.push { cls := .type "tuple", dict := none, data := .seq [Value.type "TypeError", .type "ValueError"].toArray }, toks := tk }) (Heap.get?_push_of_some _ he₅) hd₄ rfl (Heap.get?_push_of_some _ hT₅) hdT₅ h3₅ hTe ?_
  intro h₇ oT₇ same₇ hT₇ ht₇
  have u₇ : h₅.UpToSlots h₇ := (Heap.UpToSlots.of_keeps gp).trans (slots_but (Heap.get?_push_of_some _ hT₅) hdT₅ same₇)
  have st₇ : base.StaysIn h₇ := stays_but (fun b o q => gp _ _ (st₅ b o q)) hbT same₇
  have he₇ : h₇.get? e = some ob₄ := (same₇ e (Ne.symm hTe)).trans (gp _ _ he₅)
  have ff₇ := ff_slots (ff_slots ff₄ u₅) u₇
  have uA : s.heap.UpToSlots h₇ := ((u₃.trans u₄).trans u₅).trans u₇
  clear same₅ same₇ gp he₅ he₄ hT hT₅ u₃ u₄ u₅ u₇ st₄ st₅ D₅ hx he
  show wpAny (model prog w) _ _ _ _ { s with heap := h₇, toks := tk }
  have D₇ : Gd w mg mb h₇ := Db.keeps st₇
  with_reducible refine wpAny_execs_cons (raise_from_none F.excCall_TypeError F.excRaise_TypeError (by with_unfolding_all rfl) ?_ (by with_unfolding_all rfl) (by with_unfolding_all rfl))
  with_reducible refine nameB D₇ (nTypeError w) bTypeError (by decide) ?_ (by with_unfolding_all rfl) (by with_unfolding_all rfl) (by with_unfolding_all rfl) (by with_unfolding_all rfl) (by decide)
  refine ⟨rfl, ?_⟩
  with_reducible refine wpAny_items_cons ?_ (by with_unfolding_all rfl)
  with_reducible refine wpAny_Constant_str ?_
  with_reducible refine wpAny_items_nil ?_
  refine ⟨by rw [sizeLine_eq]; show 1 ≤ _; omega, ⟨ob₄, _, he₇, hd₄, rfl⟩, ?_⟩
  intro h₈ e2 t k₈ new₈ he₂ htn htt
  have st₈ : base.StaysIn h₈ := fun b o q => k₈ b o (st₇ b o q)
  show wpAny (model prog w) _ (noteFrame (.ref e2) _) _ _ _
  refine note_firstG (base := base) (outer := outer) (a0 := .ref t) (Around.frames_deeper B.stack) (ff_slots ff₇ (Heap.UpToSlots.of_keeps k₈)) rfl he₂ st₈ (fresh_stays st₇ new₈) rfl rfl rfl ?_
  intro h₉ H₉ u₉
  refine back_heldW rfl H₉ fun h₁₀ H₁₀ u₁₀ => ?_
  refine leaves_held rfl H₁₀ fun h₁₁ F₁₁ u₁₁ => ?_
  have uB : h₈.UpToSlots h₁₁ := (u₉.trans u₁₀).trans u₁₁
  refine hE e2 t tk h₁₁ _ F₁₁ ?_ ((uA.trans (Heap.UpToSlots.of_keeps k₈)).trans uB)
  exact Heap.TupAt.of_slots ⟨_, _, htt, rfl, rfl⟩ uB
end
end

section
section
variable {w : World} {mg mb : Str → Option Value} {G : Heap} {prog : Program} {A : Around} {E : Value → Shared → Prop} {s : Shared} {Q : Value → Shared → Prop}

theorem wholeOk_ {a : Addr} {vx vy : Value} {px py : Option Str} (D : Gd w mg mb s.heap) (hA : A.depth + 1 < recursionLimit) (hh : A.handled = none) (hl : s.heap.IsList a #[vx, vy]) (hx : PV px vx) (hy : PV py vy) (sx : Small 1000 px) (sy : Small 1000 py)
    (hQ : ∀ t h' tk, Grows s.heap h' → Q (.str (join2 px py) t) { s with heap := h', toks := tk }) :
    wpAny (model prog w) A (call (.ref 98) [.ref a]) Q E s := by
  refine enter (binds := [(Str.ofString "pieces", .ref a)]) D (by omega) rfl (by rfl) (BindsTo.of_eq rfl) (by decide) (locs rfl) ?_
  intro h₁ F
  have X := D.X
  have N : News s.heap s.heap.objs.size h₁ [] := News.nil
  with_reducible refine wpAny_execs_cons ?_
  with_reducible refine wpAny_Try_except ?_
  iterate 9 walk1
  have D₁ := D.keeps F.keep
  refine ⟨D₁.X, ?_⟩
  refine build_ (px := px) (py := py) D₁ (by show A.depth + 1 < _; omega) hh (Unp2.lst (hl.at fun o e => F.keep _ o e)) hx hy sx sy ?_
  intro t h' tk g
  exact hQ t h' tk fun b o e => g _ _ (F.keep b o e)

theorem wholeRaises_ {l : Addr} {items : Array Value} {base : Heap} {outer : List Env} (Db : Gd w mg mb base) (B : Below A base outer s.heap) (hA : A.depth + 1 < recursionLimit) (hu : A.units + 8 < cLine) (hh : A.handled = none) (hl : s.heap.IsList l items) (hn : 2 < items.size)
    (hQ : ∀ a u h' tk, s.heap.objs.size ≤ a → h'.IsList a #[.str msgS u] → Soft (fls outer) s.heap h' → Q (.ref a) { s with heap := h', toks := tk }) :
    wpAny (model prog w) A (call (.ref 98) [.ref l]) Q E s := by
  have D : Gd w mg mb s.heap := Db.keeps B.stays
  refine enter (binds := [(Str.ofString "pieces", .ref l)]) D (by omega) rfl (by rfl) (BindsTo.of_eq rfl) (by decide) (locs rfl) ?_
  intro h₁ F
  have X := D.X
  have N : News s.heap s.heap.objs.size h₁ [] := News.nil
  with_reducible refine wpAny_execs_cons ?_
  with_reducible refine wpAny_Try_except ?_
  iterate 9 walk1
  have D₁ := D.keeps F.keep
  refine ⟨D₁.X, ?_⟩
  have B0 := below_hide B
  have hbh : base.StaysIn (hideAll s.heap (fls outer)) := fun b o q => hideAll_get _ (B.stays b o q) fun hm => by
    have := (B.frames.mem hm).1; rw [this] at q; cases q
  refine buildRaises_ (Db.keeps hbh) (B0.push F) (by show A.depth + 1 < _; omega) hh (hl.at fun o e => F.keep _ o e) hn ?_
  intro e t u h₂ tk FL ht u₂
  refine wpAny_looks_onW (Around.frames_deeper B.stack) rfl FL fun h₃ H₃ u₃ => ?_
  refine wpAny_landsW (s := { s with heap := h₃, toks := tk }) H₃ fun h₄ FL₄ u₄ => ?_
  refine wpAny_handleBy_builtin_as (X := "TypeError") (T := "TypeError") (b := true) (isSubtype_of_subB (by decide +kernel)) (isSubtype_of_subB (by decide +kernel)) (isSubtype_of_subB (by decide +kernel)) ?_
  show wpAny (model prog w) _ _ _ _ { s with heap := h₄, toks := tk }
  have D₄ : Gd w mg mb h₄ := Db.keeps fun b o q => FL₄.1 b o (hbh b o q)
  with_reducible refine nameB D₄ (nTypeError w) bTypeError (by decide) ?_ (by with_unfolding_all rfl) (by with_unfolding_all rfl) (by with_unfolding_all rfl) (by with_unfolding_all rfl) (by decide)
  refine ⟨rfl, FL₄.there, ?_⟩
  rw [if_pos rfl]
  refine lands_againW (s := { s with heap := h₄, toks := tk }) FL₄ fun h₅ FL₅ u₅ => ?_
  have uA : s.heap.UpToSlots h₅ := ((((Heap.UpToSlots.of_keeps F.keep).trans u₂).trans u₃).trans u₄).trans u₅
  have ns₅ := ((u₂.trans u₃).trans (u₄.trans u₅)).ns F.ns
  have ht₅ : h₅.TupAt t [.str msgS u] := Heap.TupAt.of_slots ht ((u₃.trans u₄).trans u₅)
  refine wpAny_storeName_local rfl ns₅ (fun h₆ hn₆ hs₆ => ?_) rfl
  have hLe : e ≠ s.heap.objs.size := by
    obtain ⟨oe, vs, he, _, hd, _⟩ := FL₅.first
    obtain ⟨oL, es, ep, hL, hLd, _⟩ := ns₅
    intro q
    have hL' : h₅.get? s.heap.objs.size = some oL := hL
    rw [q, hL'] at he; cases he; rw [hLd] at hd; cases hd
  have hx₆ : h₆.ExcAt e "TypeError" (.ref t) := by
    obtain ⟨oe, vs, he, hc, hd, h0⟩ := FL₅.first
    exact ⟨oe, vs, (hs₆.2 e hLe).trans he, hc, hd, h0⟩
  have ht₆ : h₆.TupAt t [.str msgS u] := by
    obtain ⟨o, n, ho, hc, hd⟩ := ht₅
    obtain ⟨oL, es, ep, hL, hLd, _⟩ := ns₅
    refine ⟨o, n, (hs₆.2 t fun q => ?_).trans ho, hc, hd⟩
    have hL' : h₅.get? s.heap.objs.size = some oL := hL
    have q' : t = s.heap.objs.size := q
    rw [q', hL'] at ho; cases ho; rw [hLd] at hd; cases hd
  have st₆ : (hideAll s.heap (fls outer)).StaysIn h₆ := fun b o q => (hs₆.2 b (Nat.ne_of_lt (Heap.lt_size (of_hideAll _ q)))).trans (FL₅.1 b o q)
  have u₆ : s.heap.UpToSlots h₆ := fun b o q hn => by
    obtain ⟨sl, hs⟩ := uA b o q hn
    exact ⟨sl, (hs₆.2 b (Nat.ne_of_lt (Heap.lt_size q))).trans hs⟩
  show wpAny (model prog w) _ _ _ _ { s with heap := h₆, toks := _ }
  with_reducible refine wpAny_execs_cons (wpAny_Return_some (List_ (wpAny_items_cons (wpAny_Call_ofName ?_) (by with_unfolding_all rfl))))
  have D₆ : Gd w mg mb h₆ := Db.keeps fun b o q => st₆ b o (hbh b o q)
  with_reducible refine nameB D₆ (nStr w) (by with_unfolding_all exact boot_str) (by decide) ?_ (by with_unfolding_all rfl) (by with_unfolding_all rfl) (by with_unfolding_all rfl) (by with_unfolding_all rfl) (by decide)
  show wpAny (model prog w) _ (callWith _ (.type "str") [] (backTo _ (starEach (_ :: _) _)) []) _ _ { s with heap := h₆, toks := _ }
  with_reducible refine Pv.callWith_type1 ?_ (by with_unfolding_all rfl) (by with_unfolding_all rfl)
  with_reducible refine wpAny_items_cons (nameL (by with_unfolding_all exact hn₆) (by with_unfolding_all rfl) ?_ (by with_unfolding_all rfl) (by with_unfolding_all rfl) (by decide)) (by with_unfolding_all rfl)
  with_reducible refine wpAny_items_nil ?_
  refine P.str_of_exc_one PySem.F.excStr_TypeError (by show A.units + 3 + 2 < cLine; omega) hx₆ ht₆ ?_
  with_reducible refine wpAny_items_nil ?_
  refine wpAny_newObj_type ?_ (by show 1 ≤ _; rw [sizeLine_eq]; omega)
  refine wpAny_nameGoes_keeps (s := { s with heap := h₆.push { cls := .type "list", dict := none, data := .seq [Value.str msgS u].toArray }, toks := _ }) rfl (hn₆.keeps fun b o q => Heap.get?_push_of_some _ q) rfl ?_
  intro h₇ v hn₇ hs₇
  have hlt : s.heap.objs.size < h₆.objs.size := hn₆.lt
  refine hQ h₆.objs.size u h₇ _ (Nat.le_of_lt hlt) ⟨_, (hs₇.2 _ (Nat.ne_of_gt hlt)).trans (Heap.get?_push_size _ rfl), rfl, _, rfl⟩ ⟨fun b o hb q => ?_, fun b o q hn => ?_⟩
  · exact (hs₇.2 b (Nat.ne_of_lt (Heap.lt_size q))).trans (Heap.get?_push_of_some _ (st₆ b o (hideAll_get _ q hb)))
  · obtain ⟨sl, hs⟩ := u₆ b o q hn
    exact ⟨sl, (hs₇.2 b (Nat.ne_of_lt (Heap.lt_size q))).trans (Heap.get?_push_of_some _ hs)⟩
end
end

section
/-! the tree kas_sort puts in order -/
section
variable {O : KeyOrd} (key : Nat → O.α)

def sK (p : Array Nat) (i : Nat) : O.α := key (p.getD i 0)
def sUp (p : Array Nat) (k : Nat) : Prop := ∀ i j, i ≤ j → j < k → O.kle (sK key p i) (sK key p j)
def sDown (p : Array Nat) (k : Nat) : Prop := ∀ i j, i ≤ j → j < k → O.kle (sK key p j) (sK key p i)
def sPerm (n : Nat) (p : Array Nat) : Prop := p.Perm (List.range n).toArray
variable {key}

theorem sPerm.size {n : Nat} {p : Array Nat} (h : sPerm n p) : p.size = n := by
  have := Array.Perm.size_eq h; simpa using this
theorem sPerm.lt {n : Nat} {p : Array Nat} (h : sPerm n p) {i : Nat} (hi : i < n) : p.getD i 0 < n := by
  have hs := h.size
  have hm : p.getD i 0 ∈ p.toList := by
    rw [Array.getD, dif_pos (by omega)]; simp
  have := (Array.perm_iff_toList_perm.mp h).mem_iff.mp hm
  simpa using this
theorem sK_congr {p q : Array Nat} {i j : Nat} (h : p[i]? = q[j]?) : sK key p i = sK key q j := by
  unfold sK
  rw [Array.getD_eq_getD_getElem?, Array.getD_eq_getD_getElem?, h]

theorem sK_bubble {xs : Array Nat} {src d : Nat} (hs : src < xs.size) (hd : d ≤ src) (k : Nat) :
    sK key (bubble xs src d) k = if k = src - d then sK key xs src else if src - d < k ∧ k ≤ src then sK key xs (k - 1) else sK key xs k := by
  have e := getElem?_bubble hs d hd k
  by_cases h1 : k = src - d
  · rw [if_pos h1] at e ⊢; exact sK_congr e
  · rw [if_neg h1] at e ⊢
    by_cases h2 : src - d < k ∧ k ≤ src
    · rw [if_pos h2] at e ⊢; exact sK_congr e
    · rw [if_neg h2] at e ⊢; exact sK_congr e
theorem sK_rev {xs : Array Nat} {i j : Nat} (hj : j ≤ xs.size) (k : Nat) : sK key (kas_rev xs i j) k = if i ≤ k ∧ k < j then sK key xs (i + j - 1 - k) else sK key xs k := by
  have e := getElem?_mirror_all (i := i) hj k
  by_cases h1 : i ≤ k ∧ k < j
  · rw [if_pos h1] at e ⊢; exact sK_congr e
  · rw [if_neg h1] at e ⊢; exact sK_congr e
theorem sPerm.rev {n : Nat} {p : Array Nat} (h : sPerm n p) (i j : Nat) : sPerm n (kas_rev p i j) := Array.Perm.trans (mirror_perm _ _ _ _) h
theorem sPerm.bub {n : Nat} {p : Array Nat} (h : sPerm n p) (i j : Nat) : sPerm n (bubble p i j) := Array.Perm.trans (bubble_perm _ _ _) h

/-- what the comparisons answer, and that they leave the state -/
def sCmp (O : KeyOrd) (key : Nat → O.α) (n : Nat) (s : Shared) (cmp : Nat → Nat → (Bool → Shared → Prop) → Shared → Prop) : Prop := ∀ i j (C : Bool → Shared → Prop), i < n → j < n → C (O.blt (key i) (key j)) s → cmp i j C s

variable {n : Nat} {s : Shared} {cmp : Nat → Nat → (Bool → Shared → Prop) → Shared → Prop}

theorem s_asc (hc : sCmp O key n s cmp) {p : Array Nat} (hp : sPerm n p) {Q : Nat → Shared → Prop} : ∀ (f a : Nat), f = n - a → 1 ≤ a → a ≤ n → sUp key p a →
    (∀ m, a ≤ m → m ≤ n → sUp key p m → (m = n ∨ O.klt (sK key p m) (sK key p (m - 1))) → Q m s) → (kas_asc p f a).kasWp cmp Q s
  | 0, a, hf, h1, han, hu, h => h a (Nat.le_refl _) han hu (.inl (by omega))
  | f + 1, a, hf, h1, han, hu, h => by
    refine hc _ _ _ (hp.lt (by omega)) (hp.lt (by omega)) ?_
    show (if O.blt (sK key p a) (sK key p (a - 1)) = true then KasT.ret a else kas_asc p f (a + 1)).kasWp cmp Q s
    by_cases hb : O.blt (sK key p a) (sK key p (a - 1)) = true
    · rw [if_pos hb]
      exact h a (Nat.le_refl _) han hu (.inr hb)
    · rw [if_neg hb]
      refine s_asc hc hp f (a + 1) (by omega) (by omega) (by omega) ?_ fun m hm => h m (by omega)
      intro i j hij hj
      by_cases hja : j < a
      · exact hu i j hij hja
      · have hj' : j = a := by omega
        subst hj'
        by_cases hi : i = j
        · subst hi; exact KeyOrd.kle_refl _
        · exact KeyOrd.kle_trans (hu i (j - 1) (by omega) (by omega)) (by unfold KeyOrd.kle; simpa using hb)

theorem s_tail3 (hc : sCmp O key n s cmp) {p : Array Nat} (hp : sPerm n p) {Q : Nat × Array Nat → Shared → Prop} {m : Nat} (h1 : 1 ≤ m) (hm : m ≤ n) (hd : sDown key p m)
    (h : ∀ k q, sPerm n q → 1 ≤ k → k ≤ n → sUp key q k → Q (k, q) s) : (kas_tail3 m n p).kasWp cmp Q s := by
  unfold kas_tail3
  rw [KasT.kasWp_bind]
  have hz : m ≤ p.size := by rw [hp.size]; exact hm
  refine s_asc hc (hp.rev 0 m) (n - m) m rfl h1 hm ?_ fun k hk hkn hu _ => h k _ (hp.rev 0 m) (by omega) hkn hu
  intro i j hij hj
  rw [sK_rev hz, sK_rev hz, if_pos (by omega), if_pos (by omega)]
  exact hd _ _ (by omega) (by omega)

theorem s_desc (hc : sCmp O key n s cmp) {Q : Array Nat × Nat × Nat → Shared → Prop}
    (h : ∀ p m q, sPerm n p → 1 ≤ m → m ≤ n → sDown key p m → q + 1 ≤ m → (∀ i, m - (q + 1) ≤ i → i < m → sK key p i = sK key p (m - 1)) → Q (p, m, q) s) :
    ∀ (f : Nat) (p : Array Nat) (a q : Nat), f = n - a → 1 ≤ a → a ≤ n → sPerm n p → sDown key p a → q + 1 ≤ a → (∀ i, a - (q + 1) ≤ i → i < a → sK key p i = sK key p (a - 1)) → (kas_desc f p a q).kasWp cmp Q s
  | 0, p, a, q, hf, h1, han, hp, hd, hq, he => h p a q hp h1 han hd hq he
  | f + 1, p, a, q, hf, h1, han, hp, hd, hq, he => by
    have hz : a ≤ p.size := by rw [hp.size]; exact han
    refine hc _ _ _ (hp.lt (by omega)) (hp.lt (by omega)) ?_
    show (if O.blt (sK key p a) (sK key p (a - 1)) = true then _ else _ : KasT _).kasWp cmp Q s
    by_cases hb : O.blt (sK key p a) (sK key p (a - 1)) = true
    · rw [if_pos hb]
      have step1 : ∀ xs : Array Nat, (∀ k, sK key xs k = sK key p k) → sDown key xs (a + 1) := by
        intro xs hk i j hij hj
        rw [hk, hk]
        by_cases hja : j < a
        · exact hd i j hij hja
        · have hj' : j = a := by omega
          subst hj'
          by_cases hi : i = j
          · subst hi; exact KeyOrd.kle_refl _
          · exact KeyOrd.kle_trans (KeyOrd.kle_of_klt hb) (hd i (j - 1) (by omega) (by omega))
      by_cases hq0 : q > 0
      · rw [if_pos hq0]
        refine s_desc hc h f _ (a + 1) 0 (by omega) (by omega) (by omega) (hp.rev _ _) (step1 _ fun k => ?_) (by omega) fun i h1 h2 => by congr 1; omega
        rw [sK_rev hz]
        split
        · rw [he _ (by omega) (by omega), he k (by omega) (by omega)]
        · rfl
      · rw [if_neg hq0]
        exact s_desc hc h f p (a + 1) 0 (by omega) (by omega) (by omega) hp (step1 _ fun _ => rfl) (by omega) fun i h1 h2 => by congr 1; omega
    · rw [if_neg hb]
      refine hc _ _ _ (hp.lt (by omega)) (hp.lt (by omega)) ?_
      show (if O.blt (sK key p (a - 1)) (sK key p a) = true then _ else _ : KasT _).kasWp cmp Q s
      by_cases hg : O.blt (sK key p (a - 1)) (sK key p a) = true
      · rw [if_pos hg]
        exact h p a q hp h1 (by omega) hd hq he
      · rw [if_neg hg]
        have heq : sK key p a = sK key p (a - 1) := KeyOrd.kle_antisymm (by unfold KeyOrd.kle; simpa using hg) (by unfold KeyOrd.kle; simpa using hb)
        refine s_desc hc h f p (a + 1) (q + 1) (by omega) (by omega) (by omega) hp (fun i j hij hj => ?_) (by omega) fun i h1 h2 => ?_
        · by_cases hja : j < a
          · exact hd i j hij hja
          · have hj' : j = a := by omega
            subst hj'
            by_cases hi : i = j
            · subst hi; exact KeyOrd.kle_refl _
            · rw [heq]; exact hd i (j - 1) (by omega) (by omega)
        · rw [show a + 1 - 1 = a by omega]
          by_cases hia : i = a
          · subst hia; rfl
          · rw [heq]; exact he i (by omega) (by omega)

theorem s_descPart (hc : sCmp O key n s cmp) {p : Array Nat} (hp : sPerm n p) {Q : Nat × Array Nat → Shared → Prop} {m : Nat} (hm : m + 1 ≤ n) (hd : sDown key p (m + 1))
    (h : ∀ k q, sPerm n q → 1 ≤ k → k ≤ n → sUp key q k → Q (k, q) s) : (kas_descPart m n p).kasWp cmp Q s := by
  unfold kas_descPart
  rw [KasT.kasWp_bind]
  refine s_desc hc ?_ _ p (m + 1) 0 rfl (by omega) hm hp hd (by omega) fun i h1 h2 => by congr 1; omega
  intro p' m' q' hp' h1' hm' hd' hq' he'
  dsimp only
  have hz : m' ≤ p'.size := by rw [hp'.size]; exact hm'
  by_cases hq0 : q' > 0
  · rw [if_pos hq0]
    refine s_tail3 hc (hp'.rev _ _) h1' hm' ?_ h
    have e : ∀ k, sK key (kas_rev p' (m' - (q' + 1)) m') k = sK key p' k := fun k => by
      rw [sK_rev hz]
      split
      · rw [he' _ (by omega) (by omega), he' k (by omega) (by omega)]
      · rfl
    intro i j hij hj
    rw [e, e]; exact hd' i j hij hj
  · rw [if_neg hq0]
    exact s_tail3 hc hp' h1' hm' hd' h

theorem s_count (hc : sCmp O key n s cmp) {p : Array Nat} (hp : sPerm n p) {Q : Nat × Array Nat → Shared → Prop} (h1 : 1 ≤ n)
    (h : ∀ k q, sPerm n q → 1 ≤ k → k ≤ n → sUp key q k → Q (k, q) s) : (kas_count n p).kasWp cmp Q s := by
  unfold kas_count
  rw [KasT.kasWp_bind]
  refine s_asc hc hp (n - 1) 1 rfl (Nat.le_refl _) h1 (fun i j hij hj => by have : i = j := (by omega); subst this; exact KeyOrd.kle_refl _) ?_
  intro m hm1 hmn hu hor
  by_cases hmn' : m = n
  · rw [if_pos (by simpa using hmn')]
    exact h m p hp hm1 hmn hu
  · rw [if_neg (by simpa using hmn')]
    have hlt := hor.resolve_left hmn'
    have hz : m ≤ p.size := by rw [hp.size]; exact hmn
    by_cases hgt : m > 1
    · rw [if_pos hgt]
      refine hc _ _ _ (hp.lt (by omega)) (hp.lt (by omega)) ?_
      show (if O.blt (sK key p 0) (sK key p (m - 1)) = true then _ else _ : KasT _).kasWp cmp Q s
      by_cases hr : O.blt (sK key p 0) (sK key p (m - 1)) = true
      · rw [if_pos hr]
        exact h m p hp hm1 hmn hu
      · rw [if_neg hr]
        have hall : ∀ k, k < m → sK key p k = sK key p (m - 1) := fun k hk => by
          have a1 := hu 0 k (by omega) hk
          have a2 := hu k (m - 1) (by omega) (by omega)
          exact KeyOrd.kle_antisymm a2 (KeyOrd.kle_trans (by unfold KeyOrd.kle; simpa using hr) a1)
        refine s_descPart hc (hp.rev _ _) (by omega) ?_ h
        have e : ∀ k, sK key (kas_rev p 0 m) k = sK key p k := fun k => by
          rw [sK_rev hz]
          split
          · rw [hall _ (by omega), hall k (by omega)]
          · rfl
        intro i j hij hj
        rw [e, e]
        by_cases hjm : j < m
        · rw [hall i (by omega), hall j hjm]; exact KeyOrd.kle_refl _
        · have hj' : j = m := by omega
          subst hj'
          by_cases hi : i = j
          · subst hi; exact KeyOrd.kle_refl _
          · rw [hall i (by omega)]; exact KeyOrd.kle_of_klt hlt
    · rw [if_neg hgt]
      have hm' : m = 1 := by omega
      subst hm'
      refine s_descPart hc hp (by omega) ?_ h
      intro i j hij hj
      by_cases hi : i = j
      · subst hi; exact KeyOrd.kle_refl _
      · have hi0 : i = 0 := by omega
        have hj1 : j = 1 := by omega
        subst hi0; subst hj1
        exact KeyOrd.kle_of_klt hlt

theorem s_place (hc : sCmp O key n s cmp) {p : Array Nat} (hp : sPerm n p) {k : Nat} (hk : k < n) (hu : sUp key p k) {Q : Nat → Shared → Prop}
    (h : ∀ l, l ≤ k → (∀ i, i < l → O.kle (sK key p i) (sK key p k)) → (∀ i, l ≤ i → i < k → O.klt (sK key p k) (sK key p i)) → Q l s) :
    ∀ (f l r : Nat), l ≤ r → r ≤ k → r - l ≤ f → (∀ i, i < l → O.kle (sK key p i) (sK key p k)) → (∀ i, r ≤ i → i < k → O.klt (sK key p k) (sK key p i)) → (kas_place p k f l r).kasWp cmp Q s
  | 0, l, r, hlr, hrk, hf, hlo, hhi => h l (by omega) hlo fun i h1 h2 => hhi i (by omega) h2
  | f + 1, l, r, hlr, hrk, hf, hlo, hhi => by
    unfold kas_place
    by_cases hge : l ≥ r
    · rw [if_pos hge]
      exact h l (by omega) hlo fun i h1 h2 => hhi i (by omega) h2
    · rw [if_neg hge]
      refine hc _ _ _ (hp.lt hk) (hp.lt (by omega)) ?_
      show (if O.blt (sK key p k) (sK key p ((l + r) / 2)) = true then _ else _ : KasT _).kasWp cmp Q s
      by_cases hb : O.blt (sK key p k) (sK key p ((l + r) / 2)) = true
      · rw [if_pos hb]
        exact s_place hc hp hk hu h f l ((l + r) / 2) (by omega) (by omega) (by omega) hlo fun i h1 h2 => KeyOrd.klt_of_klt_of_kle hb (hu _ _ h1 h2)
      · rw [if_neg hb]
        exact s_place hc hp hk hu h f ((l + r) / 2 + 1) r (by omega) (by omega) (by omega) (fun i h1 => KeyOrd.kle_trans (hu i ((l + r) / 2) (by omega) (by omega)) (by unfold KeyOrd.kle; simpa using hb)) hhi

theorem s_bin (hc : sCmp O key n s cmp) {Q : Array Nat → Shared → Prop} (h : ∀ q, sPerm n q → sUp key q n → Q q s) :
    ∀ (f : Nat) (p : Array Nat) (k : Nat), f = n - k → k ≤ n → sPerm n p → sUp key p k → (kas_bin f p k).kasWp cmp Q s
  | 0, p, k, hf, hkn, hp, hu => h p hp (by have : k = n := (by omega); rw [this] at hu; exact hu)
  | f + 1, p, k, hf, hkn, hp, hu => by
    unfold kas_bin
    rw [KasT.kasWp_bind]
    have hz : k < p.size := by rw [hp.size]; omega
    refine s_place hc hp (by omega) hu ?_ k 0 k (Nat.zero_le _) (Nat.le_refl _) (by omega) (fun i hi => by omega) fun i h1 h2 => by omega
    intro l hl hlo hhi
    refine s_bin hc h f _ (k + 1) (by omega) (by omega) (hp.bub _ _) ?_
    intro i j hij hj
    rw [sK_bubble hz (by omega), sK_bubble hz (by omega), show k - (k - l) = l by omega]
    repeat' split
    all_goals first
      | (exfalso; omega)
      | exact KeyOrd.kle_refl _
      | exact hlo _ (by omega)
      | exact KeyOrd.kle_of_klt (hhi _ (by omega) (by omega))
      | exact hu _ _ (by omega) (by omega)

theorem s_sort (hc : sCmp O key n s cmp) (h1 : 1 ≤ n) {Q : Array Nat → Shared → Prop} (h : ∀ q, sPerm n q → sUp key q n → Q q s) : (kas_sort n).kasWp cmp Q s := by
  unfold kas_sort
  rw [KasT.kasWp_bind]
  refine s_count hc (Array.Perm.refl _) h1 ?_
  intro k q hq hk1 hkn hu
  dsimp only
  by_cases hlt : k < n
  · rw [if_pos hlt]
    rw [show max k 1 = k by omega]
    exact s_bin hc h _ q k rfl hkn hq hu
  · rw [if_neg hlt]
    have : k = n := by omega
    subst this
    exact h q hq hu
end
end

section
open AutoSeq1 (wpAny_loadPart')
open MeetsSeq MeetsSeq3

theorem ints_at : ∀ {vs : List Value} {ns : List Int}, IntsAre vs ns → ∀ {i : Nat} {x : Int}, ns[i]? = some x → ∃ t, vs[i]? = some (Value.int x t)
  | _, _, .nil, _, _, h => by simp at h
  | _, _, .cons m t _, 0, x, h => by simp at h; subst h; exact ⟨t, rfl⟩
  | _, _, .cons _ _ hr, i + 1, x, h => by simpa using ints_at hr (by simpa using h)

theorem lt_loop (l b : Addr) (items items2 : List Value) (xs ys : List Int) (n n2 : Nat) (hx : IntsAre items xs) (hy : IntsAre items2 ys) (k : Nat) :
    ∀ i : Nat, xs.length - i = k → i ≤ xs.length → Meets (Builtin.«list.__eq__.loop» ⟨[.ref l, .ref b, rawInt i, rawInt 0], []⟩)
      (fun _ R s => s.heap.get? l = some { cls := .type "list", dict := none, data := .seq items.toArray n, slots := #[] } ∧ s.heap.get? b = some { cls := .type "list", dict := none, data := .seq items2.toArray n2, slots := #[] } ∧
        R (.ok (.ret (.bool (decide (xs.drop i < ys.drop i))))) s) := by
  have hlx : items.length = xs.length := hx.length
  have hly : items2.length = ys.length := hy.length
  induction k with
  | zero =>
    intro i hk hi prog w A R s h
    obtain ⟨hp, g, d, tk, os⟩ := s; obtain ⟨hl, hb, h⟩ := h
    wp_walk using wpAny_loadPart' hl, wpAny_loadPart' hb
    have hi1 : items.toArray[((i : Nat) : Int).toNat]? = none := by simp; omega
    have hd : xs.drop i = [] := by simp; omega
    rw [hd] at h
    rw [hi1]
    wp_walk using wpAny_loadPart' hl, wpAny_loadPart' hb
    show R (.ok (.ret (.bool (decide (items.toArray.size < items2.toArray.size))))) _
    have e : decide (items.toArray.size < items2.toArray.size) = decide ([] < ys.drop i) := by
      rw [List.size_toArray, List.size_toArray, hlx, hly]
      have hi' : i = xs.length := by omega
      subst hi'
      by_cases hlt : xs.length < ys.length
      · have e2 : ys.drop xs.length = ys[xs.length] :: ys.drop (xs.length + 1) := List.drop_eq_getElem_cons hlt
        rw [e2, decide_eq_true hlt]
        exact (decide_eq_true (List.nil_lt_cons _ _)).symm
      · rw [List.drop_of_length_le (by omega)]; simp [hlt]
    rw [e]; exact h
  | succ k ih =>
    intro i hk hi prog w A R s h
    obtain ⟨hp, g, d, tk, os⟩ := s; obtain ⟨hl, hb, h⟩ := h
    have hlt : i < xs.length := by omega
    obtain ⟨x, hxx⟩ : ∃ x, xs[i]? = some x := ⟨_, List.getElem?_eq_getElem hlt⟩
    obtain ⟨t, hvx⟩ := ints_at hx hxx
    have hdx : xs.drop i = x :: xs.drop (i + 1) := by
      obtain ⟨h1, rfl⟩ := List.getElem?_eq_some_iff.mp hxx
      exact List.drop_eq_getElem_cons h1
    have hi1 : items.toArray[((i : Nat) : Int).toNat]? = some (.int x t) := by simpa using hvx
    have hc : ((i : Int) + 1) = ((i + 1 : Nat) : Int) := by push_cast; rfl
    by_cases hlt2 : i < ys.length
    · obtain ⟨y, hyy⟩ : ∃ y, ys[i]? = some y := ⟨_, List.getElem?_eq_getElem hlt2⟩
      obtain ⟨u, hvy⟩ := ints_at hy hyy
      have hdy : ys.drop i = y :: ys.drop (i + 1) := by
        obtain ⟨h1, rfl⟩ := List.getElem?_eq_some_iff.mp hyy
        exact List.drop_eq_getElem_cons h1
      have hi2 : items2.toArray[((i : Nat) : Int).toNat]? = some (.int y u) := by simpa using hvy
      rw [hdx, hdy] at h
      wp_walk using wpAny_loadPart' hl, wpAny_loadPart' hb
      rw [hi1, hi2]
      refine wpAny_bind (wpAny_eqBool_int ?_)
      by_cases hxy : x = y
      · subst hxy
        rw [beq_self_eq_true]
        wp_walk
        rw [hc]
        have e : decide (x :: xs.drop (i + 1) < x :: ys.drop (i + 1)) = decide (xs.drop (i + 1) < ys.drop (i + 1)) := by
          rw [Bool.eq_iff_iff]; simp [List.cons_lt_cons_iff]
        rw [e] at h
        exact ⟨plainId_quiet plain_eq_loop _, codeAny_builtin entry_eq_loop (by
          rw [Around.under_plainId plain_eq_loop _]
          exact ih (i + 1) (by omega) (by omega) prog w A R _ ⟨hl, hb, h⟩)⟩
      · have hne : (x == y) = false := by simpa using hxy
        rw [hne]
        wp_walk using wpAny_loadPart' hl, wpAny_loadPart' hb
        rw [hi1, hi2]
        refine wpAny_bind (wpAny_lt_int (wpAny_pure ?_))
        have e : decide (x :: xs.drop (i + 1) < y :: ys.drop (i + 1)) = decide (x < y) := by
          rw [Bool.eq_iff_iff]; simp [List.cons_lt_cons_iff, hxy]
        rw [e] at h; exact h
    · have hi2 : items2.toArray[((i : Nat) : Int).toNat]? = none := by simp; omega
      rw [hdx, List.drop_of_length_le (l := ys) (by omega)] at h
      wp_walk using wpAny_loadPart' hl, wpAny_loadPart' hb
      rw [hi1, hi2]
      wp_walk using wpAny_loadPart' hl, wpAny_loadPart' hb
      show R (.ok (.ret (.bool (decide (items.toArray.size < items2.toArray.size))))) _
      have e : decide (items.toArray.size < items2.toArray.size) = decide (x :: xs.drop (i + 1) < []) := by
        rw [List.size_toArray, List.size_toArray, hlx, hly, Bool.eq_iff_iff]; simp; omega
      rw [e]; exact h

theorem list_lt (l b : Addr) (items items2 : List Value) (xs ys : List Int) (n n2 : Nat) (hx : IntsAre items xs) (hy : IntsAre items2 ys) :
    Meets (Builtin.«list.__lt__» ⟨[.ref l, .ref b], []⟩)
      (fun _ R s => s.heap.get? l = some { cls := .type "list", dict := none, data := .seq items.toArray n, slots := #[] } ∧ s.heap.get? b = some { cls := .type "list", dict := none, data := .seq items2.toArray n2, slots := #[] } ∧
        R (.ok (.ret (.bool (decide (xs < ys))))) s) := by
  intro prog w A R s h
  obtain ⟨hp, g, d, tk, os⟩ := s; obtain ⟨hl, hb, h⟩ := h
  have f3 := AutoSeq1.sub_list_list
  wp_walk using wpAny_loadPart' hl, wpAny_loadPart' hb
  exact ⟨plainId_quiet plain_eq_loop _, codeAny_builtin entry_eq_loop (by
    rw [Around.under_plainId plain_eq_loop _]
    exact lt_loop l b items items2 xs ys n n2 hx hy _ 0 rfl (Nat.zero_le _) prog w A R _ ⟨hl, hb, by simpa using h⟩)⟩

section
variable {prog : Program} {w : World} {A : Around} {E : Value → Shared → Prop} {s : Shared}
theorem key_lt_lists {l b : Addr} {items items2 : List Value} {xs ys : List Int} {n n2 : Nat} {Q : Bool → Shared → Prop} (hu : A.units < cLine) (hx : IntsAre items xs) (hy : IntsAre items2 ys)
    (hl : s.heap.get? l = some (listOf items.toArray n)) (hb : s.heap.get? b = some (listOf items2.toArray n2)) (h : Q (decide (xs < ys)) s) :
    wpAny (model prog w) A (keyLt' oneType' (.ref l) (.ref b)) Q E s := by
  rw [keyLt'_oneType, oneLt'_eq]
  simp only [if_true]
  refine wpAny_bind (wpAny_cRoomFor hu ?_)
  refine wpAny_bind (wpAny_callSpecialIfBound?_slot (T := "list") ⟨_, hl, rfl⟩ PySem.F.slot_list_lt (call_meets PySem.F.slot_list_lt ⟨_, hl, rfl⟩ PySem.F.entry_list_lt (PySem.F.args_list_lt_2 _ _) (list_lt l b items items2 xs ys n n2 hx hy) ⟨hl, hb, ?_⟩))
  exact wpAny_truthy_bool h
end
end

section
/-! [elt for x in .. for y in ..] -/
section
variable {w : World} {prog : Program} {A : Around} {E : Value → Shared → Prop} {s : Shared} {R : Result → Shared → Prop} {elt t1 i1 t2 i2 : Expr} {scope : Scope} {pos : Pos} {it acc : Value} {env : Env}

theorem compTurn_in (elt t1 i1 t2 i2 : Expr) (scope : Scope) (pos : Pos) (it acc : Value) (env : Env) :
    compTurn (.ListComp elt [⟨t1, i1, [], 0⟩, ⟨t2, i2, [], 0⟩] scope pos) 1 it acc env = (standAt i2.pos >>= fun _ => pyNext it >>= fun r => match r with
      | none => pure (.done .next)
      | some v => letOwnedTupleGo t2 it v >>= fun _ => assign t2 env v >>= fun _ =>
        (eval elt env >>= fun x => call (.builtin "list.append") [acc, x] >>= fun _ => pure ()) >>= fun _ =>
          again (.compLoop (.ListComp elt [⟨t1, i1, [], 0⟩, ⟨t2, i2, [], 0⟩] scope pos) 1 it acc env)) := by rfl
theorem compTurn_out (elt t1 i1 t2 i2 : Expr) (scope : Scope) (pos : Pos) (it acc : Value) (env : Env) :
    compTurn (.ListComp elt [⟨t1, i1, [], 0⟩, ⟨t2, i2, [], 0⟩] scope pos) 0 it acc env = (standAt i1.pos >>= fun _ => pyNext it >>= fun r => match r with
      | none => pure (.done .next)
      | some v => letOwnedTupleGo t1 it v >>= fun _ => assign t1 env v >>= fun _ =>
        (eval i2 env >>= fun x => standAt i2.pos >>= fun _ => foldedSetIterable i2 env x >>= fun x => holding [x] (pyIter x) >>= fun it2 =>
          runOwn (.compStart (.ListComp elt [⟨t1, i1, [], 0⟩, ⟨t2, i2, [], 0⟩] scope pos) 1 it2 acc env) env >>= fun _ => 
          again (.compLoop (.ListComp elt [⟨t1, i1, [], 0⟩, ⟨t2, i2, [], 0⟩] scope pos) 0 it acc env))) := by rfl

theorem codeAny_in (I : Nat → Shared → Prop)
    (turn : ∀ n s, I n s → wpAny (model prog w) A (pyNext it) (fun r s₁ => match r with
      | none => R (.ok .next) s₁
      | some v => wpAny (model prog w) A (assign t2 env v) (fun _ s₂ => wpAny (model prog w) A (eval elt env) (fun x s₃ =>
          wpAny (model prog w) A (call (.builtin "list.append") [acc, x]) (fun _ s₄ => ∃ m, m < n ∧ I m s₄) (notedBy (model prog w) A env fun e s' => R (.error e) s') s₃)
          (notedBy (model prog w) A env fun e s' => R (.error e) s') s₂) (notedBy (model prog w) A env fun e s' => R (.error e) s') s₁) (notedBy (model prog w) A env fun e s' => R (.error e) s') s)
    (n : Nat) (h : I n s) (ht : ∀ v, letOwnedTupleGo t2 it v = pure ()) :
    codeAny (model prog w) A (.compLoop (.ListComp elt [⟨t1, i1, [], 0⟩, ⟨t2, i2, [], 0⟩] scope pos) 1 it acc env) R s := by
  refine codeAny_loop rfl I (fun n s hI => ?_) n h
  show wpAny _ _ ((compTurn (.ListComp elt [⟨t1, i1, [], 0⟩, ⟨t2, i2, [], 0⟩] scope pos) 1 it acc env).onRaise (fun x => do noteFrame x env; theTreesLotGoes x)) _ _ s
  refine wpAny_noted ?_
  rw [compTurn_in]
  refine wpAny_bind (wpAny_standAt (wpAny_bind (wpAny_mono (turn n s hI) (fun r s₁ h₁ => ?_) fun _ _ h' => h')))
  cases r with
  | none => exact wpAny_pure h₁
  | some v =>
    refine wpAny_bind (wpAny_of_eq (ht v) ?_)
    exact wpAny_bind (wpAny_mono h₁ (fun _ s₂ h₂ => wpAny_bind (wpAny_bind (wpAny_mono h₂ (fun x s₃ h₃ => wpAny_bind (wpAny_mono h₃ (fun _ s₄ h₄ => wpAny_pure (wpAny_pure ⟨rfl, h₄⟩)) fun _ _ h' => h')) fun _ _ h' => h'))) fun _ _ h' => h')

theorem codeAny_out (I : Nat → Shared → Prop)
    (turn : ∀ n s, I n s → wpAny (model prog w) A (pyNext it) (fun r s₁ => match r with
      | none => R (.ok .next) s₁
      | some v => wpAny (model prog w) A (assign t1 env v) (fun _ s₂ => wpAny (model prog w) A (eval i2 env) (fun x s₃ =>
          wpAny (model prog w) A (pyIter x) (fun it2 s₄ => codeAny (model prog w) A (.compStart (.ListComp elt [⟨t1, i1, [], 0⟩, ⟨t2, i2, [], 0⟩] scope pos) 1 it2 acc env)
            (fun r s' => match r with | .ok _ => ∃ m, m < n ∧ I m s' | .error e => False) s₄) (notedBy (model prog w) A env fun e s' => R (.error e) s') s₃)
          (notedBy (model prog w) A env fun e s' => R (.error e) s') s₂) (notedBy (model prog w) A env fun e s' => R (.error e) s') s₁) (notedBy (model prog w) A env fun e s' => R (.error e) s') s)
    (n : Nat) (h : I n s) (ht : ∀ v, letOwnedTupleGo t1 it v = pure ()) (hs : ∀ x, foldedSetIterable i2 env x = pure x) :
    codeAny (model prog w) A (.compLoop (.ListComp elt [⟨t1, i1, [], 0⟩, ⟨t2, i2, [], 0⟩] scope pos) 0 it acc env) R s := by
  refine codeAny_loop rfl I (fun n s hI => ?_) n h
  show wpAny _ _ ((compTurn (.ListComp elt [⟨t1, i1, [], 0⟩, ⟨t2, i2, [], 0⟩] scope pos) 0 it acc env).onRaise (fun x => do noteFrame x env; theTreesLotGoes x)) _ _ s
  refine wpAny_noted ?_
  rw [compTurn_out]
  refine wpAny_bind (wpAny_standAt (wpAny_bind (wpAny_mono (turn n s hI) (fun r s₁ h₁ => ?_) fun _ _ h' => h')))
  cases r with
  | none => exact wpAny_pure h₁
  | some v =>
    refine wpAny_bind (wpAny_of_eq (ht v) ?_)
    refine wpAny_bind (wpAny_mono h₁ (fun _ s₂ h₂ => wpAny_bind (wpAny_mono h₂ (fun x s₃ h₃ => ?_) fun _ _ h' => h')) fun _ _ h' => h')
    refine wpAny_bind (wpAny_standAt (wpAny_bind (wpAny_of_eq (hs x) (wpAny_bind (wpAny_holding (wpAny_mono h₃ (fun it2 s₄ h₄ => ?_) fun _ _ h' => h'))))))
    refine wpAny_bind (wpAny_runOwn (codeAny_mono h₄ fun r s' hr => ?_))
    cases r with
    | error e => exact hr.elim
    | ok f => exact wpAny_pure ⟨rfl, hr⟩

theorem compStart_in {R : Result → Shared → Prop}
    (h0 : codeAny (model prog w) A (.compLoop (.ListComp elt [⟨t1, i1, [], 0⟩, ⟨t2, i2, [], 0⟩] scope pos) 1 it acc env) R s)
    (h : wpAny (model prog w) A (pyIter it) (fun it' s' => codeAny (model prog w) A (.compLoop (.ListComp elt [⟨t1, i1, [], 0⟩, ⟨t2, i2, [], 0⟩] scope pos) 1 it' acc env) R s')
      (notedBy (model prog w) A env fun x s' => R (.error x) s') s) :
    codeAny (model prog w) A (.compStart (.ListComp elt [⟨t1, i1, [], 0⟩, ⟨t2, i2, [], 0⟩] scope pos) 1 it acc env) R s := by
  refine codeAny_of_tree ?_
  show wpAny _ _ ((compStart (.ListComp elt [⟨t1, i1, [], 0⟩, ⟨t2, i2, [], 0⟩] scope pos) 1 it acc env).onRaise (fun x => do noteFrame x env; standAt theWindowsPlace)) _ _ s
  refine wpAny_notedAt ?_
  unfold compStart
  show wpAny _ _ (ask >>= _) _ _ s
  refine wpAny_bind (wpAny_askSetting (wpAny_ite ?_))
  split
  · exact wpAny_bind (wpAny_pure (wpAny_pure (And.intro rfl h0)))
  · refine wpAny_bind (wpAny_rule ?_)
    show wpAny _ _ (standAt i2.pos >>= _) _ _ s
    exact wpAny_bind (wpAny_standAt (wpAny_bind (wpAny_mono h (fun it' s' h' => wpAny_pure (And.intro rfl h')) fun _ _ x => x)))
end
end

section
section
variable {w : World} {prog : Program} {A : Around} {E : Value → Shared → Prop} {s : Shared} {R : Result → Shared → Prop} {elt i1 i2 : Expr} {x y : Str} {px py : Pos} {scope : Scope} {pos : Pos} {cenv : Env} {I ax bx D : Addr} {vs ch : List Value} {m : Str → Option Value}

theorem comp2Loop (J : Nat → Nat → List Value → Heap → Prop)
    (hh : A.handled = none) (hx : cenv.kindOf x = some .local) (hy : cenv.kindOf y = some .local) (hxy : x ≠ y) (hp : (cenv.scope.kind == .class || (cenv.scope.kind == .module && cenv.locals != cenv.globals)) = false)
    (hIC : I < cenv.locals) (hDC : D < cenv.locals) (hID : I ≠ D) (haC : ax < cenv.locals) (haI : ax ≠ I) (haD : ax ≠ D) (hbC : bx < cenv.locals) (hbI : bx ≠ I) (hbD : bx ≠ D)
    (hit : s.heap.IsListIter I ax 0) (hl : s.heap.IsList ax vs.toArray) (hb : s.heap.IsList bx ch.toArray) (hacc : s.heap.PlainList D #[]) (hn : s.heap.Ns cenv.locals m) (hJ : J 0 0 [] s.heap)
    (stab : ∀ i j ys h h', J i j ys h → (∀ b o, cenv.locals < b → o.cls = .type "list" → h.get? b = some o → h'.get? b = some o) → J i j ys h')
    (next : ∀ i ys h, J i ch.length ys h → J (i + 1) 0 ys h)
    (hi2 : ∀ h tk m₂ (Q : Value → Shared → Prop) (E' : Value → Shared → Prop), h.Ns cenv.locals m₂ → (∀ b o, b ≠ cenv.locals → b ≠ I → b ≠ D → s.heap.get? b = some o → h.get? b = some o) → Q (.ref bx) { s with heap := h, toks := tk } →
      wpAny (model prog w) A (eval i2 cenv) Q E' { s with heap := h, toks := tk })
    (helt : ∀ i j v u ys h tk m₂, vs[i]? = some v → ch[j]? = some u → h.Ns cenv.locals m₂ → m₂ x = some v → m₂ y = some u → (∀ b o, b ≠ cenv.locals → b ≠ I → b ≠ D → s.heap.get? b = some o → h.get? b = some o) → J i j ys h →
      wpAny (model prog w) A (eval elt cenv) (fun z s₄ => ∃ h₄ tk₄, s₄ = { s with heap := h₄, toks := tk₄ } ∧ Grows h h₄ ∧ J i (j + 1) (ys ++ [z]) h₄) (fun _ _ => False) { s with heap := h, toks := tk })
    (hR : ∀ h' tk m' ys, h'.Ns cenv.locals m' → h'.PlainList D (List.toArray ys) → J vs.length 0 ys h' → (∀ b o, b ≠ cenv.locals → b ≠ I → b ≠ D → s.heap.get? b = some o → h'.get? b = some o) → R (.ok .next) { s with heap := h', toks := tk })
    (hsz : vs.length * ch.length ≤ 1000) (hs : ∀ x, foldedSetIterable i2 cenv x = pure x) :
    codeAny (model prog w) A (.compLoop (.ListComp elt [⟨.Name x px, i1, [], 0⟩, ⟨.Name y py, i2, [], 0⟩] scope pos) 0 (.ref I) (.ref D) cenv) R s := by
  have hDC' := Nat.ne_of_lt hDC
  have hIC' := Nat.ne_of_lt hIC
  refine codeAny_out
    (fun k s' => ∃ i h' tk m' ys, s' = { s with heap := h', toks := tk } ∧ h'.IsListIter I ax i ∧ h'.PlainList D (List.toArray ys) ∧ h'.Ns cenv.locals m' ∧ J i 0 ys h' ∧ ys.length ≤ i * ch.length ∧ i ≤ vs.length ∧ k = vs.length + 1 - i ∧
      (∀ b o, b ≠ cenv.locals → b ≠ I → b ≠ D → s.heap.get? b = some o → h'.get? b = some o)) ?_ (vs.length + 1)
    ⟨0, s.heap, s.toks, m, [], rfl, hit, hacc, hn, hJ, by simp, Nat.zero_le _, rfl, fun _ _ _ _ _ e => e⟩ (fun _ => rfl) hs
  rintro k _ ⟨i, H, tk, m', ys, rfl, hit', hacc', hn', hJ', hyl, hi, rfl, hk⟩
  have hlH : H.IsList ax vs.toArray := hl.at fun o e => hk ax o (Nat.ne_of_lt haC) haI haD e
  by_cases hlt : i < vs.length
  · obtain ⟨v, hv⟩ : ∃ v, vs[i]? = some v := ⟨_, List.getElem?_eq_getElem hlt⟩
    refine wpAny_pyNext_list_item hit' hlH (x := v) (by simpa using hv) fun h₁ hit₁ hs₁ => ?_
    refine wpAny_assign_Name (wpAny_storeName_local hx (hn'.sameBut hs₁ (Ne.symm hIC')) (fun h₂ hn₂ hs₂ => ?_) hp)
    have up₂ : ∀ b o, b ≠ cenv.locals → b ≠ I → H.get? b = some o → h₂.get? b = some o := fun b o hbC hbI e => hs₂.extBut b o hbC (hs₁.extBut b o hbI e)
    have hk₂ : ∀ b o, b ≠ cenv.locals → b ≠ I → b ≠ D → s.heap.get? b = some o → h₂.get? b = some o := fun b o h1 h2 h3 e => up₂ b o h1 h2 (hk b o h1 h2 h3 e)
    refine hi2 h₂ _ _ _ _ hn₂ hk₂ ?_
    have hb₂ : h₂.IsList bx ch.toArray := hb.at fun o e => hk₂ bx o (Nat.ne_of_lt hbC) hbI hbD e
    refine wpAny_pyIter_list hb₂ ?_
    have hC₂ : cenv.locals < h₂.objs.size := hn₂.lt
    generalize hI2 : h₂.objs.size = I2 at hC₂ ⊢
    have hI2C : cenv.locals ≠ I2 := Nat.ne_of_lt hC₂
    have hJ₂ : J i 0 ys (h₂.push { cls := .type "list_iterator", data := .fields #[.ref bx, .int 0 0] }) := stab _ _ _ _ _ hJ' fun b o hbC _ e => Heap.get?_push_of_some _ (up₂ b o (Nat.ne_of_gt hbC) (fun q => by rw [q] at hbC; exact absurd hbC (Nat.not_lt.mpr (Nat.le_of_lt hIC))) e)
    have hitp : (h₂.push { cls := .type "list_iterator", data := .fields #[.ref bx, .int 0 0] }).IsListIter I2 bx 0 := ⟨_, by rw [← hI2]; exact Heap.get?_push_size _ rfl, rfl, rfl⟩
    have hit1p : (h₂.push { cls := .type "list_iterator", data := .fields #[.ref bx, .int 0 0] }).IsListIter I ax (i + 1) := by
      obtain ⟨o, ho, r⟩ := hit₁
      exact ⟨o, Heap.get?_push_of_some _ (hs₂.extBut I o hIC' ho), r⟩
    have haccp : (h₂.push { cls := .type "list_iterator", data := .fields #[.ref bx, .int 0 0] }).PlainList D (List.toArray ys) := hacc'.at fun o e => Heap.get?_push_of_some _ (up₂ D o hDC' (Ne.symm hID) e)
    have hkp : ∀ b o, b ≠ cenv.locals → b ≠ I → b ≠ D → s.heap.get? b = some o → (h₂.push { cls := .type "list_iterator", data := .fields #[.ref bx, .int 0 0] }).get? b = some o := fun b o h1 h2 h3 e => Heap.get?_push_of_some _ (hk₂ b o h1 h2 h3 e)
    have hnp := hn₂.keeps fun b o e => Heap.get?_push_of_some { cls := .type "list_iterator", data := .fields #[.ref bx, .int 0 0] } e
    have neI2 : ∀ b o, b ≠ cenv.locals → b ≠ I → b ≠ D → s.heap.get? b = some o → b ≠ I2 := fun b o h1 h2 h3 e => by rw [← hI2]; exact Nat.ne_of_lt (Heap.lt_size (hk₂ b o h1 h2 h3 e))
    have hI2I : I ≠ I2 := Nat.ne_of_lt (Nat.lt_trans hIC hC₂)
    have hI2D : D ≠ I2 := Nat.ne_of_lt (Nat.lt_trans hDC hC₂)
    have hbI2 : bx ≠ I2 := Nat.ne_of_lt (Nat.lt_trans hbC hC₂)
    clear hit' hacc' hn' hJ' hlH hs₁ hs₂ up₂ hk₂ hb₂ hk hn₂ hit₁
    generalize h₂.push { cls := .type "list_iterator", data := .fields #[.ref bx, .int 0 0] } = hP at hJ₂ hitp hit1p haccp hkp hnp ⊢
    have inner : ∀ s₃ : Shared, (∃ tk, s₃ = { s with heap := hP, toks := tk }) → codeAny (model prog w) A (.compLoop (.ListComp elt [⟨.Name x px, i1, [], 0⟩, ⟨.Name y py, i2, [], 0⟩] scope pos) 1 (.ref I2) (.ref D) cenv)
        (fun r s' => match r with | .ok _ => ∃ k, k < vs.length + 1 - i ∧ ∃ i h' tk m' ys, s' = { s with heap := h', toks := tk } ∧ h'.IsListIter I ax i ∧ h'.PlainList D (List.toArray ys) ∧ h'.Ns cenv.locals m' ∧ J i 0 ys h' ∧ ys.length ≤ i * ch.length ∧ i ≤ vs.length ∧ k = vs.length + 1 - i ∧
            (∀ b o, b ≠ cenv.locals → b ≠ I → b ≠ D → s.heap.get? b = some o → h'.get? b = some o) | .error e => False) s₃ := by
      rintro s₃ ⟨tk₃, rfl⟩
      refine codeAny_in
        (fun k s' => ∃ j h' tk m' zs, s' = { s with heap := h', toks := tk } ∧ h'.IsListIter I2 bx j ∧ h'.IsListIter I ax (i + 1) ∧ h'.PlainList D (List.toArray zs) ∧ h'.Ns cenv.locals m' ∧ m' x = some v ∧ J i j zs h' ∧ zs.length ≤ i * ch.length + j ∧ j ≤ ch.length ∧ k = ch.length + 1 - j ∧
          (∀ b o, b ≠ cenv.locals → b ≠ I → b ≠ D → s.heap.get? b = some o → h'.get? b = some o)) ?_ (ch.length + 1)
        ⟨0, hP, tk₃, _, ys, rfl, hitp, hit1p, haccp, hnp, by simp, hJ₂, by omega, Nat.zero_le _, rfl, fun b o h1 h2 h3 e => hkp b o h1 h2 h3 e⟩ (fun _ => rfl)
      rintro k _ ⟨j, G, tk₄, m₄, zs, rfl, hit2, hit1, haccG, hnG, hmx, hJG, hzl, hj, rfl, hkG⟩
      have hbG : G.IsList bx ch.toArray := hb.at fun o e => hkG bx o (Nat.ne_of_lt hbC) hbI hbD e
      have notIter : ∀ b o, o.cls = .type "list" → G.get? b = some o → b ≠ I2 := fun b o hc e q => by
        obtain ⟨o', ho', hc', _⟩ := hit2
        rw [q, ho'] at e; cases e; rw [hc'] at hc; exact absurd hc (by decide)
      by_cases hltj : j < ch.length
      · obtain ⟨u, hu⟩ : ∃ u, ch[j]? = some u := ⟨_, List.getElem?_eq_getElem hltj⟩
        refine wpAny_pyNext_list_item hit2 hbG (x := u) (by simpa using hu) fun g₁ hit2' hsA => ?_
        refine wpAny_assign_Name (wpAny_storeName_local hy (hnG.sameBut hsA hI2C) (fun g₂ hnB hsB => ?_) hp)
        have up : ∀ b o, b ≠ cenv.locals → b ≠ I2 → G.get? b = some o → g₂.get? b = some o := fun b o hbC hbI e => hsB.extBut b o hbC (hsA.extBut b o hbI e)
        have hkB : ∀ b o, b ≠ cenv.locals → b ≠ I → b ≠ D → s.heap.get? b = some o → g₂.get? b = some o := fun b o h1 h2 h3 e => up b o h1 (neI2 b o h1 h2 h3 e) (hkG b o h1 h2 h3 e)
        have hJB : J i j zs g₂ := stab _ _ _ _ _ hJG fun b o hbC hc e => up b o (Nat.ne_of_gt hbC) (notIter b o hc e) e
        refine wpAny_mono (helt i j v u zs g₂ _ _ hv hu hnB (by show (if x = y then _ else _) = _; rw [if_neg hxy]; exact hmx) (by show (if y = y then _ else _) = _; rw [if_pos rfl]) hkB hJB) (fun z s₄ h₄ => ?_) fun _ _ e => e.elim
        obtain ⟨g₄, tk₅, rfl, gr, hJ4⟩ := h₄
        have hprod : (i + 1) * ch.length ≤ vs.length * ch.length := Nat.mul_le_mul_right _ hlt
        have hprod' : (i + 1) * ch.length = i * ch.length + ch.length := Nat.succ_mul _ _
        refine wpAny_list_append_plain (hsz := by rw [List.size_toArray, sizeLine_eq]; omega) (haccG.at fun o e => gr _ o (up D o hDC' hI2D e)) fun g₅ hl₅ hs₅ => ?_
        refine ⟨ch.length + 1 - (j + 1), by omega, j + 1, g₅, tk₅, _, zs ++ [z], rfl, ?_, ?_, by rw [List.push_toArray] at hl₅; exact hl₅, (hnB.keeps gr).sameBut hs₅ (Ne.symm hDC'), by show (if x = y then _ else _) = _; rw [if_neg hxy]; exact hmx, stab _ _ _ _ _ hJ4 fun b o hbC _ e => hs₅.extBut b o (fun q => by rw [q] at hbC; exact absurd (Nat.lt_trans hbC hDC) (Nat.lt_irrefl _)) e,
          by rw [List.length_append, List.length_singleton]; omega, hltj, rfl, fun b o h1 h2 h3 e => hs₅.extBut b o h3 (gr b o (hkB b o h1 h2 h3 e))⟩
        · obtain ⟨o, ho, r⟩ := hit2'
          exact ⟨o, hs₅.extBut _ _ (Ne.symm hI2D) (gr _ _ (hsB.extBut _ _ (Ne.symm hI2C) ho)), r⟩
        · obtain ⟨o, ho, r⟩ := hit1
          exact ⟨o, hs₅.extBut _ _ hID (gr _ _ (up I o hIC' hI2I ho)), r⟩
      · have hjn : j = ch.length := by omega
        subst hjn
        refine wpAny_pyNext_list_end hh hit2 hbG (by simp) fun g₁ hsA => ?_
        refine ⟨vs.length + 1 - (i + 1), by omega, i + 1, g₁, tk₄, m₄, zs, rfl, ?_, haccG.at fun o e => hsA _ o hI2D e, hnG.at' fun o e => hsA _ o hI2C e, stab _ _ _ _ _ (next i zs G hJG) fun b o hbC hc e => hsA b o (notIter b o hc e) e,
          by rw [Nat.succ_mul]; exact hzl, hlt, rfl, fun b o h1 h2 h3 e => hsA b o (neI2 b o h1 h2 h3 e) (hkG b o h1 h2 h3 e)⟩
        obtain ⟨o, ho, r⟩ := hit1
        exact ⟨o, hsA _ _ hI2I ho, r⟩
    refine compStart_in (inner _ ⟨_, rfl⟩) ?_
    exact (Walks.list (prog := prog) (w := w) hh I2 bx hbI2 ch.toArray).self 0 _ _ _ ⟨hitp, hb.at fun o e => hkp bx o (Nat.ne_of_lt hbC) hbI hbD e⟩ (inner _ ⟨_, rfl⟩)
  · have hin : i = vs.length := by omega
    subst hin
    refine wpAny_pyNext_list_end hh hit' hlH (by simp) fun h₁ hs₁ => ?_
    refine hR h₁ tk m' ys (hn'.at' fun o e => hs₁ _ o (Ne.symm hIC') e) (hacc'.at fun o e => hs₁ _ o (Ne.symm hID) e) (stab _ _ _ _ _ hJ' fun b o hbC _ e => hs₁ b o (fun q => by rw [q] at hbC; exact absurd hbC (Nat.not_lt.mpr (Nat.le_of_lt hIC))) e)
      fun b o h1 h2 h3 e => hs₁ b o h2 (hk b o h1 h2 h3 e)
end
end

section
section
variable {w : World} {prog : Program} {A : Around} {E : Value → Shared → Prop} {s : Shared} {elt i1 i2 : Expr} {x y z : Str} {px py pz : Pos} {scope : Scope} {pos spos : Pos} {env : Env} {ax bx : Addr} {vs ch : List Value} {m : Str → Option Value} {cl : List (Str × Addr)}

/-- z = [elt for x in i1 for y in i2], both over lists that stand -/
theorem assignComp2 {Q : Flow → Shared → Prop} (J : Addr → Nat → Nat → List Value → Heap → Prop)
    (hsw : swapsWith (.ListComp elt [⟨.Name x px, i1, [], 0⟩, ⟨.Name y py, i2, [], 0⟩] scope pos) (some (.Name z pz)) spos.line env = pure true)
    (hclos : closureFor scope env = pure cl) (hcell : ∀ z ∈ scope.names, z.2 ≠ .cell) (hkind : scope.kind = .function)
    (hnames : ∀ z ∈ scope.names, z.2 = .local → scope.names.lookup z.1 = some .local) (hx : scope.names.lookup x = some .local) (hy : scope.names.lookup y = some .local) (hxy : x ≠ y)
    (hz : env.kindOf z = some .local) (hp : (env.scope.kind == .class || (env.scope.kind == .module && env.locals != env.globals)) = false)
    (hs1 : ∀ x, foldedSetIterable i1 env x = pure x) (hs2 : ∀ C x, foldedSetIterable i2 (compEnvC scope cl C env) x = pure x) (hh : A.handled = none)
    (hl : s.heap.IsList ax vs.toArray) (hb : s.heap.IsList bx ch.toArray) (hn : s.heap.Ns env.locals m) (hsz : vs.length * ch.length ≤ 1000)
    (hi1 : ∀ (Q : Value → Shared → Prop) (E' : Value → Shared → Prop), Q (.ref ax) s → wpAny (model prog w) A (eval i1 env) Q E' s)
    (hJ : ∀ C h, J C 0 0 [] h)
    (stab : ∀ C i j ys h h', J C i j ys h → (∀ b o, C < b → o.cls = .type "list" → h.get? b = some o → h'.get? b = some o) → J C i j ys h')
    (next : ∀ C i ys h, J C i ch.length ys h → J C (i + 1) 0 ys h)
    (hi2 : ∀ C h tk m₂ (Q : Value → Shared → Prop) (E' : Value → Shared → Prop), s.heap.objs.size < C → h.Ns C m₂ → (∀ b o, s.heap.get? b = some o → h.get? b = some o) → Q (.ref bx) { s with heap := h, toks := tk } →
      wpAny (model prog w) A (eval i2 (compEnvC scope cl C env)) Q E' { s with heap := h, toks := tk })
    (helt : ∀ C i j v u ys h tk m₂, s.heap.objs.size < C → vs[i]? = some v → ch[j]? = some u → h.Ns C m₂ → m₂ x = some v → m₂ y = some u → (∀ b o, s.heap.get? b = some o → h.get? b = some o) → J C i j ys h →
      wpAny (model prog w) A (eval elt (compEnvC scope cl C env)) (fun z s₄ => ∃ h₄ tk₄, s₄ = { s with heap := h₄, toks := tk₄ } ∧ Grows h h₄ ∧ J C i (j + 1) (ys ++ [z]) h₄) (fun _ _ => False) { s with heap := h, toks := tk })
    (hQ : ∀ D C h' tk ys, s.heap.get? D = none → s.heap.objs.size < C → h'.PlainList D (List.toArray ys) → J C vs.length 0 ys h' → h'.Ns env.locals (fun q => if q = z then some (.ref D) else m q) →
      (∀ b o, b ≠ env.locals → s.heap.get? b = some o → h'.get? b = some o) → Q .next { s with heap := h', toks := tk }) :
    wpAny (model prog w) A (exec (.Assign [.Name z pz] (.ListComp elt [⟨.Name x px, i1, [], 0⟩, ⟨.Name y py, i2, [], 0⟩] scope pos) spos) env) Q E s := by
  rw [exec_Assign_Name_used _ _ _ _ hsw]
  refine wpAny_bind (wpAny_standAt (wpAny_bind ?_))
  show wpAny _ A (do let _ ← comprehension (.ListComp elt [⟨.Name x px, i1, [], 0⟩, ⟨.Name y py, i2, [], 0⟩] scope pos) scope env _ (newList []) false (eval i1 env) (some (assign (.Name z pz) env))) _ _ s
  refine wpAny_bind (wpAny_mono (wpAny_comprehension_free (use := some (assign (.Name z pz) env)) (Q := fun _ s' => Q .next s') rfl hs1 hclos hkind hnames (hi1 _ _ (wpAny_pyIter_list hl ?_))) (fun _ s' hq => wpAny_pure (wpAny_pure hq)) fun _ _ e => e)
  refine wpAny_newObj_type (wpAny_newFunctionEnv hcell (by intro y hy; simp at hy) (fun h₁ hns₁ hsb₁ => ?_) hkind)
  dsimp only at hns₁ hsb₁ ⊢
  generalize hH1 : s.heap.push { cls := .type "list_iterator", data := .fields #[.ref ax, .int 0 0] } = H1 at hns₁ hsb₁ ⊢
  have hI : H1.objs.size = s.heap.objs.size + 1 := by rw [← hH1, Heap.size_push]
  generalize hH2 : H1.push { cls := .type "list", dict := none, data := .seq ([] : List Value).toArray } = H2 at hns₁ hsb₁ ⊢
  have hC : H2.objs.size = s.heap.objs.size + 2 := by rw [← hH2, Heap.size_push, hI]
  have hItO : H1.get? s.heap.objs.size = some { cls := .type "list_iterator", data := .fields #[.ref ax, .int 0 0] } := by rw [← hH1]; exact Heap.get?_push_size _ rfl
  have old1 : ∀ b o, H1.get? b = some o → h₁.get? b = some o := fun b o e => hsb₁.extBut b o (Nat.ne_of_lt (Nat.lt_of_lt_of_le (Heap.lt_size e) (by omega))) (Heap.get?_push_of_some _ (hH2 ▸ Heap.get?_push_of_some _ e))
  have old : ∀ b o, s.heap.get? b = some o → h₁.get? b = some o := fun b o e => old1 b o (hH1 ▸ Heap.get?_push_of_some _ e)
  have hDo : H2.get? H1.objs.size = some { cls := .type "list", dict := none, data := .seq ([] : List Value).toArray } := by rw [← hH2]; exact Heap.get?_push_size _ rfl
  have hacc : h₁.PlainList H1.objs.size #[] := ⟨_, hsb₁.extBut _ _ (Nat.ne_of_lt (by omega)) (Heap.get?_push_of_some _ hDo)⟩
  have hlt : ∀ b o, s.heap.get? b = some o → @LT.lt Nat instLTNat b s.heap.objs.size := fun b o e => Heap.lt_size e
  have hax : @LT.lt Nat instLTNat ax s.heap.objs.size := by obtain ⟨o, ho, _⟩ := hl; exact hlt _ _ ho
  have hbx : @LT.lt Nat instLTNat bx s.heap.objs.size := by obtain ⟨o, ho, _⟩ := hb; exact hlt _ _ ho
  have hLs : @LT.lt Nat instLTNat env.locals s.heap.objs.size := hn.lt
  have loop : ∀ s₃ : Shared, s₃ = { s with heap := h₁, toks := s.toks + ([] : List (Str × Value)).length } →
      codeAny (model prog w) A (.compLoop (.ListComp elt [⟨.Name x px, i1, [], 0⟩, ⟨.Name y py, i2, [], 0⟩] scope pos) 0 (.ref s.heap.objs.size) (.ref H1.objs.size) (compEnvC scope cl H2.objs.size env))
        (compPost (model prog w) A E (some (assign (.Name z pz) env)) (fun _ s' => Q .next s') (.ref H1.objs.size) H2.objs.size) s₃ := by
    rintro s₃ rfl
    have up : ∀ h : Heap, (∀ b o, b ≠ H2.objs.size → b ≠ s.heap.objs.size → b ≠ H1.objs.size → h₁.get? b = some o → h.get? b = some o) → ∀ b o, s.heap.get? b = some o → h.get? b = some o := fun h hk b o e => by
      have := hlt b o e
      exact hk b o (Nat.ne_of_lt (by omega)) (Nat.ne_of_lt (by omega)) (Nat.ne_of_lt (by omega)) (old b o e)
    refine comp2Loop (cenv := compEnvC scope cl H2.objs.size env) (ax := ax) (bx := bx) (vs := vs) (ch := ch) (J H2.objs.size) hh (lookup_relabel_local hx) (lookup_relabel_local hy) hxy (by simp [compEnvC, relabel, hkind])
      (by show s.heap.objs.size < H2.objs.size; omega) (by show H1.objs.size < H2.objs.size; omega) (Nat.ne_of_lt (by omega)) (by show @LT.lt Nat instLTNat ax H2.objs.size; omega) (Nat.ne_of_lt (by omega)) (Nat.ne_of_lt (by omega)) (by show @LT.lt Nat instLTNat bx H2.objs.size; omega) (Nat.ne_of_lt (by omega)) (Nat.ne_of_lt (by omega))
      ⟨_, old1 _ _ hItO, rfl, rfl⟩ (hl.at fun o e => old _ o e) (hb.at fun o e => old _ o e) hacc hns₁ (hJ _ _) (stab _) (next _)
      (fun h tk m₂ Q' E' hn' hk hq => hi2 _ h tk m₂ Q' E' (by omega) hn' (up h hk) hq)
      (fun i j v u ys h tk m₂ hv hu hn' hmx hmy hk hj => helt _ i j v u ys h tk m₂ (by omega) hv hu hn' hmx hmy (up h hk) hj) ?_ hsz (hs2 _)
    intro h' tk m' ys hn' hpl hj hk
    have hkeep := up h' hk
    show wpAny _ A (assign (.Name z pz) env (.ref H1.objs.size)) _ _ _
    refine wpAny_assign_Name (wpAny_storeName_local hz (hn.keeps hkeep) (fun h₂ hn₂ hs₂ => ?_) hp)
    refine ⟨m', hn'.sameBut hs₂ (Nat.ne_of_gt (by show @LT.lt Nat instLTNat env.locals H2.objs.size; omega)), fun h₃ hs₃ => ?_⟩
    refine hQ H1.objs.size H2.objs.size h₃ _ ys (Heap.get?_none_of_le (by omega)) (by omega) ((hpl.extBut hs₂.extBut (Nat.ne_of_gt (by omega))).extBut hs₃.extBut (Nat.ne_of_lt (by show H1.objs.size < H2.objs.size; omega)))
      (stab _ _ _ _ _ _ (stab _ _ _ _ _ _ hj fun b o hb _ e => hs₂.extBut b o (Nat.ne_of_gt (by have : @LT.lt Nat instLTNat H2.objs.size b := hb; omega)) e) fun b o hb _ e => hs₃.extBut b o (Nat.ne_of_gt hb) e)
      (hn₂.sameBut hs₃ (Nat.ne_of_lt (by show @LT.lt Nat instLTNat env.locals H2.objs.size; omega))) fun b o hbL e => ?_
    have := hlt b o e
    exact hs₃.extBut b o (Nat.ne_of_lt (by show @LT.lt Nat instLTNat b H2.objs.size; omega)) (hs₂.extBut b o hbL (hkeep b o e))
  refine codeAny_compStart_list (loop _ rfl) ?_
  have hlI : ax ≠ s.heap.objs.size := Nat.ne_of_lt hax
  exact (Walks.list (prog := prog) (w := w) hh s.heap.objs.size ax hlI vs.toArray).self 0 _ _ _ ⟨⟨_, old1 _ _ hItO, rfl, rfl⟩, hl.at fun o e => old _ o e⟩ (loop _ rfl)
end
end

section
/-! what _law_texts makes -/
def choicesOf (n i : Nat) (p : Pc) : List (List Str) := match p with
  | some x => [[x]]
  | none => if i = 0 then [[cS]] else if i = n - 1 then [[]] else [[cS], []]
def mixStep (ws cs : List (List Str)) : List (List Str) := ws.flatMap fun w => cs.map fun c => w ++ c
def mixTo (ps : List Pc) : Nat → List (List Str)
  | 0 => [[]]
  | k + 1 => mixStep (mixTo ps k) (choicesOf ps.length k (ps.getD k none))
def joinDot : List Str → Str
  | [] => Str.ofString ""
  | [x] => x
  | x :: y :: r => x ++ dotS ++ joinDot (y :: r)
def mixes (ps : List Pc) : List (List Str) := mixTo ps ps.length
def textsAll (ps : List Pc) : List Str := (mixes ps).map joinDot

/-- the ledger bears a list of texts at v -/
def WordIn (tl : List (Addr × Obj)) (v : Value) (w : List Str) : Prop := ∃ a us n, v = .ref a ∧ (a, listOf (List.toArray us) n) ∈ tl ∧ StrsAre us w
theorem WordIn.mono {tl tl' : List (Addr × Obj)} (h : ∀ p ∈ tl, p ∈ tl') {v : Value} {w : List Str} (x : WordIn tl v w) : WordIn tl' v w :=
  let ⟨a, us, n, e, m, p⟩ := x; ⟨a, us, n, e, h _ m, p⟩
/-- a list of texts above C -/
def WordAt (C : Addr) (h : Heap) (v : Value) (w : List Str) : Prop := ∃ a us n, v = .ref a ∧ C < a ∧ h.get? a = some (listOf (List.toArray us) n) ∧ StrsAre us w

theorem words_ledger {C : Addr} {h : Heap} : ∀ {ys : List Value} {ws : List (List Str)}, Paired (WordAt C h) ys ws → ∃ tl : List (Addr × Obj), (∀ p ∈ tl, C < p.1 ∧ h.get? p.1 = some p.2) ∧ Paired (WordIn tl) ys ws
  | _, _, .nil => ⟨[], And.intro (fun p hp => by cases hp) Paired.nil⟩
  | _, _, .cons x r => by
    obtain ⟨tl, h1, h2⟩ := words_ledger r
    obtain ⟨a, us, n, rfl, hC, ho, hs⟩ := x
    refine ⟨(a, listOf (List.toArray us) n) :: tl, fun p hp => ?_, .cons ⟨a, us, n, rfl, .head _, hs⟩ (paired_mono (fun _ _ y => y.mono fun p hp => .tail _ hp) h2)⟩
    rcases List.mem_cons.mp hp with rfl | hp
    · exact ⟨hC, ho⟩
    · exact h1 p hp

theorem choicesOf_length (n i : Nat) (p : Pc) : 1 ≤ (choicesOf n i p).length ∧ (choicesOf n i p).length ≤ 2 := by
  unfold choicesOf
  cases p with
  | some x => exact ⟨Nat.le_refl _, Nat.le_succ _⟩
  | none =>
    dsimp only
    split
    · exact ⟨Nat.le_refl _, Nat.le_succ _⟩
    · split
      · exact ⟨Nat.le_refl _, Nat.le_succ _⟩
      · exact ⟨Nat.le_succ _, Nat.le_refl _⟩
theorem mixStep_length (ws cs : List (List Str)) : (mixStep ws cs).length = ws.length * cs.length := by
  unfold mixStep
  induction ws with
  | nil => simp
  | cons w ws ih => rw [List.flatMap_cons, List.length_append, ih, List.length_map, List.length_cons, Nat.succ_mul, Nat.add_comm]
theorem mixTo_length (ps : List Pc) : ∀ k, (mixTo ps k).length ≤ 2 ^ k
  | 0 => Nat.le_refl _
  | k + 1 => by
    rw [mixTo, mixStep_length, Nat.pow_succ]
    exact Nat.mul_le_mul (mixTo_length ps k) (choicesOf_length _ _ _).2

/-- one word more of the step -/
theorem mixStep_take {ws cs : List (List Str)} {i j : Nat} {w c : List Str} (hw : ws[i]? = some w) (hc : cs[j]? = some c) :
    mixStep (ws.take i) cs ++ (cs.take (j + 1)).map (w ++ ·) = (mixStep (ws.take i) cs ++ (cs.take j).map (w ++ ·)) ++ [w ++ c] := by
  rw [List.take_add_one, hc, List.map_append, ← List.append_assoc]; rfl
theorem mixStep_next {ws cs : List (List Str)} {i : Nat} {w : List Str} (hw : ws[i]? = some w) : mixStep (ws.take (i + 1)) cs = mixStep (ws.take i) cs ++ cs.map (w ++ ·) := by
  rw [List.take_add_one, hw]
  unfold mixStep
  rw [List.flatMap_append]
  simp
end

section
/-! the names of all ways are the texts: by places in the place of texts -/
/-- a word by its pieces' places (99: the C), never empty -/
abbrev SW := Nat × List Nat
abbrev SP := Option SW
def sJoin2 (p q : SP) : SW := match q with
  | none => p.getD (99, [])
  | some y => ((p.getD (99, [])).1, (p.getD (99, [])).2 ++ y.1 :: y.2)
def sCell (rows : List (List (List SP))) (i j : Nat) : List SP := (rows.getD i []).getD j []
def sJoinAll (xs ys : List SP) : List SP := xs.flatMap fun x => ys.map fun y => some (sJoin2 x y)
def sCut (rows : List (List (List SP))) (size start c : Nat) : List SP := sJoinAll (sCell rows c start) (sCell rows (size - c - 2) (start + c + 1))
def sNames (rows : List (List (List SP))) (size start : Nat) : List SP := (List.range (size - 1)).flatMap (sCut rows size start)
def sRow (n : Nat) (rows : List (List (List SP))) (size : Nat) : List (List SP) := (List.range (n + 1 - size)).map (sNames rows size)
def sRows (ps : List SP) : Nat → List (List (List SP))
  | 0 => [ps.map fun p => [p]]
  | k + 1 => sRows ps k ++ [sRow ps.length (sRows ps k) (k + 2)]
def sWays (ps : List SP) : List SP := sCell (sRows ps (ps.length - 1)) (ps.length - 1) 0

def wVal (val : Nat → Str) (p : SW) : Str := p.2.foldl (fun acc i => acc ++ dotS ++ val i) (val p.1)
def pVal (val : Nat → Str) (p : SP) : Pc := p.map (wVal val)

theorem str_app_assoc (a b c : Str) : a ++ b ++ c = a ++ (b ++ c) := by
  obtain ⟨a⟩ := a; obtain ⟨b⟩ := b; obtain ⟨c⟩ := c
  show Str.mk (a ++ b ++ c) = Str.mk (a ++ (b ++ c))
  rw [Array.append_assoc]

theorem fold_dot (val : Nat → Str) : ∀ (l : List Nat) (a x : Str), l.foldl (fun acc i => acc ++ dotS ++ val i) (a ++ dotS ++ x) = a ++ dotS ++ l.foldl (fun acc i => acc ++ dotS ++ val i) x
  | [], _, _ => rfl
  | i :: l, a, x => by
    rw [List.foldl_cons, List.foldl_cons, ← fold_dot val l a (x ++ dotS ++ val i)]
    congr 1
    simp only [str_app_assoc]

variable {val : Nat → Str}
theorem join2_val (h99 : val 99 = cS) (p q : SP) : join2 (pVal val p) (pVal val q) = wVal val (sJoin2 p q) := by
  have hp : (pVal val p).getD cS = wVal val (p.getD (99, [])) := by
    cases p with
    | none => show cS = val 99; exact h99.symm
    | some x => rfl
  cases q with
  | none => exact hp
  | some y =>
    show (pVal val p).getD cS ++ dotS ++ wVal val y = wVal val _
    rw [hp]
    show _ = ((p.getD (99, [])).2 ++ y.1 :: y.2).foldl (fun acc i => acc ++ dotS ++ val i) (val (p.getD (99, [])).1)
    rw [List.foldl_append, List.foldl_cons, fold_dot]
    rfl

theorem getD_map {α β : Type} (f : List α → List β) (hf : f [] = []) (l : List (List α)) (i : Nat) : (l.map f).getD i [] = f (l.getD i []) := by
  rw [List.getD_eq_getElem?_getD, List.getD_eq_getElem?_getD, List.getElem?_map]
  cases l[i]? <;> simp [hf]
abbrev rVal (val : Nat → Str) (rows : List (List (List SP))) : List (List (List Pc)) := rows.map (·.map (·.map (pVal val)))
theorem cell_val (rows : List (List (List SP))) (i j : Nat) : cellAtR (rVal val rows) i j = (sCell rows i j).map (pVal val) := by
  unfold cellAtR sCell rVal
  have h1 : (rows.map (·.map (·.map (pVal val)))).getD i [] = (rows.getD i []).map (·.map (pVal val)) := by
    rw [List.getD_eq_getElem?_getD, List.getD_eq_getElem?_getD, List.getElem?_map]
    cases rows[i]? <;> simp
  rw [h1, List.getD_eq_getElem?_getD, List.getD_eq_getElem?_getD (l := rows.getD i []), List.getElem?_map]
  cases (rows.getD i [])[j]? <;> simp
theorem joinAll_val (h99 : val 99 = cS) (xs ys : List SP) : joinAll (xs.map (pVal val)) (ys.map (pVal val)) = (sJoinAll xs ys).map (pVal val) := by
  unfold joinAll sJoinAll
  rw [List.map_flatMap, List.flatMap_map]
  congr 1
  funext x
  rw [List.map_map, List.map_map]
  congr 1
  funext y
  show some (join2 (pVal val x) (pVal val y)) = some (wVal val (sJoin2 x y))
  rw [join2_val h99]
theorem cut_val (h99 : val 99 = cS) (rows : List (List (List SP))) (size start c : Nat) : cutAt (rVal val rows) size start c = (sCut rows size start c).map (pVal val) := by
  unfold cutAt sCut
  rw [cell_val, cell_val, joinAll_val h99]
theorem names_val (h99 : val 99 = cS) (rows : List (List (List SP))) (size start : Nat) : namesAt (rVal val rows) size start = (sNames rows size start).map (pVal val) := by
  unfold namesAt sNames
  rw [List.map_flatMap]
  congr 1
  funext c
  exact cut_val h99 rows size start c
theorem rows_val (h99 : val 99 = cS) (ps : List SP) : ∀ k, waysRows (ps.map (pVal val)) k = rVal val (sRows ps k)
  | 0 => by
    show [(ps.map (pVal val)).map fun p => [p]] = _
    simp [sRows, rVal]
  | k + 1 => by
    show waysRows (ps.map (pVal val)) k ++ [rowAt (ps.map (pVal val)).length (waysRows (ps.map (pVal val)) k) (k + 2)] = rVal val (sRows ps k ++ [sRow ps.length (sRows ps k) (k + 2)])
    rw [rows_val h99 ps k, List.length_map]
    unfold rVal
    rw [List.map_append]
    congr 1
    show [rowAt ps.length (rVal val (sRows ps k)) (k + 2)] = [(sRow ps.length (sRows ps k) (k + 2)).map (·.map (pVal val))]
    congr 1
    unfold rowAt sRow
    rw [List.map_map]
    congr 1
    funext st
    exact names_val h99 _ _ _
theorem ways_val (h99 : val 99 = cS) (ps : List SP) : ways (ps.map (pVal val)) = (sWays ps).map (pVal val) := by
  unfold ways sWays
  rw [List.length_map, rows_val h99, cell_val]

/-! the texts by places -/
def sChoices (n i : Nat) (b : Bool) : List (List Nat) := if b then [[i]] else if i = 0 then [[99]] else if i = n - 1 then [[]] else [[99], []]
def sMix (ws cs : List (List Nat)) : List (List Nat) := ws.flatMap fun w => cs.map fun c => w ++ c
def sMixTo (bs : List Bool) : Nat → List (List Nat)
  | 0 => [[]]
  | k + 1 => sMix (sMixTo bs k) (sChoices bs.length k (bs.getD k false))
def sMixes (bs : List Bool) : List (List Nat) := sMixTo bs bs.length

def valOf (ps : List Pc) (i : Nat) : Str := if i = 99 then cS else (ps.getD i none).getD cS
def patOf (bs : List Bool) : List SP := (List.range bs.length).map fun i => if bs.getD i false then some (i, []) else none
def bitsOf (ps : List Pc) : List Bool := ps.map Option.isSome

theorem bits_get (ps : List Pc) (i : Nat) : (bitsOf ps).getD i false = (ps.getD i none).isSome := by
  unfold bitsOf
  rw [List.getD_eq_getElem?_getD, List.getD_eq_getElem?_getD, List.getElem?_map]
  cases ps[i]? <;> simp
theorem pat_val (ps : List Pc) (h5 : ps.length ≤ 5) : (patOf (bitsOf ps)).map (pVal (valOf ps)) = ps := by
  apply List.ext_getElem?
  intro i
  unfold patOf
  rw [List.map_map, List.getElem?_map]
  have hl : (bitsOf ps).length = ps.length := by unfold bitsOf; simp
  rw [hl]
  by_cases hi : i < ps.length
  · rw [List.getElem?_range hi, List.getElem?_eq_getElem hi]
    show some (pVal (valOf ps) (if (bitsOf ps).getD i false then some (i, []) else none)) = _
    rw [bits_get]
    have e : ps.getD i none = ps[i] := by rw [List.getD_eq_getElem?_getD, List.getElem?_eq_getElem hi]; rfl
    rw [e]
    cases hp : ps[i] with
    | none => rfl
    | some x =>
      show some (some (valOf ps i)) = some (some x)
      unfold valOf
      rw [if_neg (by omega), e, hp]
      rfl
  · rw [List.getElem?_eq_none (by simpa using hi), List.getElem?_eq_none (by omega)]
    rfl
theorem choices_val (ps : List Pc) (h5 : ps.length ≤ 5) (i : Nat) (hi : i < ps.length) : choicesOf ps.length i (ps.getD i none) = (sChoices ps.length i ((bitsOf ps).getD i false)).map (·.map (valOf ps)) := by
  rw [bits_get]
  unfold choicesOf sChoices
  have c99 : valOf ps 99 = cS := rfl
  cases hp : ps.getD i none with
  | some x =>
    show [[x]] = [[valOf ps i]]
    unfold valOf
    rw [if_neg (by omega), hp]
    rfl
  | none =>
    simp only [Option.isSome_none, Bool.false_eq_true, if_false]
    split
    · show [[cS]] = [[valOf ps 99]]; rw [c99]
    · split
      · rfl
      · show [[cS], []] = [[valOf ps 99], []]; rw [c99]
theorem mix_val (f : Nat → Str) (ws cs : List (List Nat)) : mixStep (ws.map (·.map f)) (cs.map (·.map f)) = (sMix ws cs).map (·.map f) := by
  unfold mixStep sMix
  rw [List.map_flatMap, List.flatMap_map]
  congr 1
  funext w
  rw [List.map_map, List.map_map]
  congr 1
  funext c
  simp
theorem mixTo_val (ps : List Pc) (h5 : ps.length ≤ 5) : ∀ k, k ≤ ps.length → mixTo ps k = (sMixTo (bitsOf ps) k).map (·.map (valOf ps))
  | 0, _ => rfl
  | k + 1, h => by
    show mixStep (mixTo ps k) (choicesOf ps.length k (ps.getD k none)) = (sMix (sMixTo (bitsOf ps) k) (sChoices (bitsOf ps).length k ((bitsOf ps).getD k false))).map _
    rw [mixTo_val ps h5 k (by omega), choices_val ps h5 k (by omega), mix_val, show (bitsOf ps).length = ps.length by unfold bitsOf; simp]

theorem joinDot_val (f : Nat → Str) : ∀ (h : Nat) (t : List Nat), joinDot ((h :: t).map f) = wVal f (h, t)
  | h, [] => rfl
  | h, i :: t => by
    show f h ++ dotS ++ joinDot ((i :: t).map f) = (i :: t).foldl (fun acc i => acc ++ dotS ++ f i) (f h)
    rw [joinDot_val f i t, List.foldl_cons, fold_dot]
    rfl

/-- the one finite fact: as places the names are the texts -/
def okBits (bs : List Bool) : Bool :=
  (sWays (patOf bs)).all (fun p => match p with | none => false | some w => (sMixes bs).contains (w.1 :: w.2)) && (sMixes bs).all (fun w => match w with | [] => false | h :: t => (sWays (patOf bs)).contains (some (h, t))) && decide ((sWays (patOf bs)).length ≤ 14)
theorem okBits2 : ∀ a b, okBits [a, b] = true := by decide +kernel
theorem okBits3 : ∀ a b c, okBits [a, b, c] = true := by decide +kernel
theorem okBits4 : ∀ a b c d, okBits [a, b, c, d] = true := by decide +kernel
theorem okBits5 : ∀ a b c d e, okBits [a, b, c, d, e] = true := by decide +kernel
theorem okBits_all : ∀ (bs : List Bool), 2 ≤ bs.length → bs.length ≤ 5 → okBits bs = true
  | [a, b], _, _ => okBits2 a b
  | [a, b, c], _, _ => okBits3 a b c
  | [a, b, c, d], _, _ => okBits4 a b c d
  | [a, b, c, d, e], _, _ => okBits5 a b c d e
  | [], h, _ => absurd h (by decide)
  | [_], h, _ => absurd h (by simp)
  | _ :: _ :: _ :: _ :: _ :: _ :: l, _, h => absurd h (by simp only [List.length_cons]; omega)

theorem ways_texts {ps : List Pc} (h2 : 2 ≤ ps.length) (h5 : ps.length ≤ 5) : ∃ ns : List Str, ways ps = ns.map some ∧ ns.length ≤ 14 ∧ ∀ y, y ∈ ns ↔ y ∈ textsAll ps := by
  have hb : (bitsOf ps).length = ps.length := by unfold bitsOf; simp
  have ok := okBits_all (bitsOf ps) (by omega) (by omega)
  unfold okBits at ok
  simp only [Bool.and_eq_true, decide_eq_true_eq, List.all_eq_true] at ok
  obtain ⟨⟨k1, k2⟩, k3⟩ := ok
  have hw : ways ps = (sWays (patOf (bitsOf ps))).map (pVal (valOf ps)) := by
    have := ways_val (val := valOf ps) rfl (patOf (bitsOf ps))
    rwa [pat_val ps h5] at this
  have hm : mixes ps = (sMixes (bitsOf ps)).map (·.map (valOf ps)) := by
    have := mixTo_val ps h5 ps.length (Nat.le_refl _)
    unfold mixes sMixes
    rw [this, hb]
  refine ⟨(sWays (patOf (bitsOf ps))).map fun p => wVal (valOf ps) (p.getD (99, [])), ?_, by rw [List.length_map]; exact k3, fun y => ?_⟩
  · rw [hw, List.map_map]
    refine List.map_congr_left fun p hp => ?_
    have := k1 p hp
    cases p with
    | none => cases this
    | some w => rfl
  · unfold textsAll
    rw [hm, List.map_map]
    constructor
    · intro h
      obtain ⟨p, hp, rfl⟩ := List.mem_map.mp h
      have := k1 p hp
      cases p with
      | none => cases this
      | some w =>
        refine List.mem_map.mpr ⟨w.1 :: w.2, by simpa using this, ?_⟩
        exact joinDot_val (valOf ps) w.1 w.2
    · intro hy
      obtain ⟨w, hp, rfl⟩ := List.mem_map.mp hy
      have := k2 w hp
      cases w with
      | nil => cases this
      | cons a t =>
        refine List.mem_map.mpr ⟨some (a, t), by simpa using this, ?_⟩
        exact (joinDot_val (valOf ps) a t).symm

/-! rising lists are told by their members -/
theorem firsts_nodup (xs : List Str) : (firsts xs).Nodup := by
  unfold firsts
  suffices h : ∀ (xs acc : List Str), acc.Nodup → (xs.foldl addNew acc).Nodup from h xs [] List.nodup_nil
  intro xs
  induction xs with
  | nil => exact fun acc h => h
  | cons x xs ih =>
    intro acc h
    rw [List.foldl_cons]
    refine ih _ ?_
    unfold addNew
    split
    · exact h
    · rename_i hx
      rw [List.nodup_append]
      refine ⟨h, by simp, ?_⟩
      intro a ha b hb
      rw [List.mem_singleton.mp hb]
      intro e
      subst e
      exact hx (by simpa using ha)
theorem firsts_perm {xs ys : List Str} (h : ∀ y, y ∈ xs ↔ y ∈ ys) : (firsts xs).Perm (firsts ys) :=
  (List.perm_ext_iff_of_nodup (firsts_nodup _) (firsts_nodup _)).mpr fun a => by rw [firsts_mem, firsts_mem, h a]
theorem rising_eq {xs ys : List Str} (hx : Rising xs) (hy : Rising ys) (h : xs.Perm ys) : xs = ys := by
  refine List.Perm.eq_of_pairwise (fun a b _ _ h1 h2 => ?_) hx hy h
  exact absurd (List.lt_trans h1 h2) (List.lt_irrefl _)
end

section
/-! sorted(x, key=f) where f only grows the heap -/
/-- the key of an item: a plain value, or one object -/
abbrev KeyP := Nat → Value → Option (Addr × Obj) → Prop
def KeysAt (KP : KeyP) (a kS : Addr) (h : Heap) (ks : List Value) : Prop := ∀ (j : Nat) (k : Value), ks[j]? = some k → ∃ q, KP j k q ∧ ∀ p, q = some p → p.1 ≠ kS ∧ p.1 ≠ a ∧ h.get? p.1 = some p.2
theorem KeysAt.keeps {KP : KeyP} {a kS : Addr} {h h' : Heap} {ks : List Value} (x : KeysAt KP a kS h ks) (k : ∀ b o, b ≠ kS → b ≠ a → h.get? b = some o → h'.get? b = some o) : KeysAt KP a kS h' ks := fun j v hv =>
  let ⟨q, h1, h2⟩ := x j v hv
  ⟨q, h1, fun p hp => let ⟨x1, x2, x3⟩ := h2 p hp; ⟨x1, x2, k _ _ x1 x2 x3⟩⟩
theorem KeysAt.snoc {KP : KeyP} {a kS : Addr} {h : Heap} {ks : List Value} {k : Value} (x : KeysAt KP a kS h ks) (hk : ∃ q, KP ks.length k q ∧ ∀ p, q = some p → p.1 ≠ kS ∧ p.1 ≠ a ∧ h.get? p.1 = some p.2) : KeysAt KP a kS h (ks ++ [k]) := fun j v hv => by
  rcases Nat.lt_trichotomy j ks.length with h1 | h1 | h1
  · rw [List.getElem?_append_left h1] at hv; exact x j v hv
  · subst h1
    have : k = v := by simpa using hv
    subst this; exact hk
  · rw [List.getElem?_eq_none (by rw [List.length_append, List.length_singleton]; omega)] at hv; cases hv

section
variable {prog : Program} {w : World} {A : Around} {E : Value → Shared → Prop} {s : Shared} {O : KeyOrd} {key : Nat → O.α}

/-- a key's call -/
def KeyCall (prog : Program) (w : World) (A : Around) (s : Shared) (KP : KeyP) (f : Value) (i : Nat) (v : Value) (h : Heap) (tk : Nat) : Prop :=
  wpAny (model prog w) A (call f [v]) (fun k s' => ∃ h' tk' q, s' = { s with heap := h', toks := tk' } ∧ Grows h h' ∧ KP i k q ∧ ∀ p, q = some p → h.get? p.1 = none ∧ h'.get? p.1 = some p.2) (fun _ _ => False) { s with heap := h, toks := tk }

theorem sort_keys {KP : KeyP} {f : Value} {a kS : Addr} {vs : List Value} {e1 : Nat} {R : PUnit → Shared → Prop} {body : Value → PUnit → Sem (ForInStep PUnit)} (hn : vs.length < 64) (hak : a ≠ kS)
    (hb : ∀ x ks e (s' : Shared) (R' : ForInStep PUnit → Shared → Prop), List.length ks < 64 →
      wpAny (model prog w) A (call f [x]) (fun k s'' => s''.heap.get? kS = some (seqObj "list" (List.toArray ks) e) ∧ ∀ h2 c2, Heap.SameBut kS s''.heap h2 → h2.get? kS = some (seqObj "list" (List.toArray (ks ++ [k])) c2) → R' (.yield ⟨⟩) { s'' with heap := h2 }) (fun _ _ => False) s' →
      wpAny (model prog w) A (body x ⟨⟩) R' E s')
    (hcall : ∀ i v h tk, vs[i]? = some v → (∀ b o, b ≠ a → b ≠ kS → s.heap.get? b = some o → h.get? b = some o) → KeyCall prog w A s KP f i v h tk)
    (fin : ∀ ks h tk e, ks.length = vs.length → h.get? kS = some (seqObj "list" (List.toArray ks) e) → h.get? a = some (seqObj "list" #[] e1) → KeysAt KP a kS h ks → (∀ b o, b ≠ a → b ≠ kS → s.heap.get? b = some o → h.get? b = some o) → R ⟨⟩ { s with heap := h, toks := tk }) :
    ∀ (r pre ks : List Value) (h : Heap) (tk e : Nat), vs = pre ++ r → pre.length = ks.length → h.get? kS = some (seqObj "list" (List.toArray ks) e) → h.get? a = some (seqObj "list" #[] e1) → KeysAt KP a kS h ks → (∀ b o, b ≠ a → b ≠ kS → s.heap.get? b = some o → h.get? b = some o) →
      wpAny (model prog w) A (forIn r PUnit.unit body) R E { s with heap := h, toks := tk }
  | [], pre, ks, h, tk, e, hv, hl, hk, ha, K, keep => by
    rw [List.forIn_nil]
    exact wpAny_pure (fin ks h tk e (by rw [hv, List.append_nil, hl]) hk ha K keep)
  | x :: r, pre, ks, h, tk, e, hv, hl, hk, ha, K, keep => by
    rw [List.forIn_cons]
    have hlen : pre.length + (r.length + 1) = vs.length := by rw [hv, List.length_append, List.length_cons]
    have hx : vs[pre.length]? = some x := by rw [hv, List.getElem?_append_right (Nat.le_refl _), Nat.sub_self]; rfl
    refine wpAny_bind (hb x ks e _ _ (by omega) (wpAny_mono (hcall pre.length x h tk hx keep) (fun k s' hq => ?_) fun _ _ z => z))
    obtain ⟨h', tk', q, rfl, g, hKP, hq⟩ := hq
    refine ⟨g _ _ hk, fun h2 c2 sb hk2 => ?_⟩
    have up : ∀ b o, b ≠ kS → h.get? b = some o → h2.get? b = some o := fun b o hb e => (sb.2 b hb).trans (g b o e)
    refine sort_keys hn hak hb hcall fin r (pre ++ [x]) (ks ++ [k]) h2 tk' c2 (by rw [hv]; simp) (by rw [List.length_append, List.length_append, hl]; rfl) hk2 (up a _ hak ha) ?_ fun b o h1 h2 e => up b o h2 (keep b o h1 h2 e)
    refine KeysAt.snoc (K.keeps fun b o h1 _ e => up b o h1 e) ⟨q, hl ▸ hKP, fun p hp => ?_⟩
    obtain ⟨n1, n2⟩ := hq p hp
    have nk : p.1 ≠ kS := fun e => by rw [e, hk] at n1; cases n1
    exact ⟨nk, fun e => (by rw [e, ha] at n1; cases n1), (sb.2 _ nk).trans n2⟩

theorem sort_tail {a kS : Addr} {st : SortSt} {e e1 : Nat} {ks out : List Value} {P : PySem.Fin → Shared → Prop} (hak : a ≠ kS) (hk : s.heap.get? kS = some (seqObj "list" (List.toArray ks) e)) (ha : s.heap.get? a = some (seqObj "list" #[] e1))
    (hout : (arrOf st).map (·.2) = List.toArray out) (hz : out.length < 64) (hkz : ks.length < 64) (hf : failedOf st = none)
    (h : ∀ h' c, h'.get? a = some (seqObj "list" (List.toArray out) c) → (∀ b o, b ≠ a → b ≠ kS → s.heap.get? b = some o → h'.get? b = some o) → P (.done (.ret .none)) { s with heap := h' }) : wpAny (model prog w) A (ksk_tail a false e1 (.ref kS) st) P E s := by
  have s1 := Heap.SameBut.update s.heap kS (Obj.mapSeq fun _ => (#[] : Array Value))
  have ha1 := (s1.2 a hak).trans ha
  have s2 := Heap.SameBut.update (s.heap.update kS (Obj.mapSeq fun _ => (#[] : Array Value))) a (Obj.mapSeq fun _ => List.toArray out)
  obtain ⟨c2, hc2⟩ : ∃ c2, ((s.heap.update kS (Obj.mapSeq fun _ => (#[] : Array Value))).update a (Obj.mapSeq fun _ => List.toArray out)).get? a = some (seqObj "list" (List.toArray out) c2) := ⟨_, get?_update_seq ha1 fun _ => List.toArray out⟩
  unfold ksk_tail
  try dsimp only
  rw [hout]
  refine wpAny_bind (listUpdate_at hk rfl ?_ (by rw [List.size_toArray, sizeLine_eq]; omega) (Nat.zero_le _))
  refine wpAny_bind (wpAny_letGo ?_)
  refine wpAny_bind (seqEpoch_at ha1 rfl ?_)
  refine wpAny_bind (listUpdate_at ha1 rfl ?_ (Nat.zero_le _) (by simp only [Bool.false_eq_true, if_false, List.size_toArray, sizeLine_eq]; omega))
  rw [hf]
  simp only [bne_self_eq_false, Bool.false_eq_true, if_false]
  exact wpAny_pure (h _ c2 hc2 fun b o h1 h2 e => (s2.2 b h1).trans ((s1.2 b h2).trans e))

theorem sort_end {KP : KeyP} {T : Value} {a kS : Addr} {vs ks : List Value} {e e1 : Nat} {P : PySem.Fin → Shared → Prop} (hak : a ≠ kS) (h1 : 1 ≤ vs.length) (h64 : vs.length < 64) (hl : ks.length = vs.length)
    (hk : s.heap.get? kS = some (seqObj "list" (List.toArray ks) e)) (ha : s.heap.get? a = some (seqObj "list" #[] e1)) (K : KeysAt KP a kS s.heap ks)
    (hT : ∀ i k q, KP i k q → (∀ p, q = some p → s.heap.get? p.1 = some p.2) → Looks (model prog w) s.heap (typeOf k) T) (hT1 : (T != Value.type "tuple") = true) (hT2 : (T == T) = true)
    (hcmp : ∀ i j ki kj qi qj (C : Bool → Shared → Prop), KP i ki qi → KP j kj qj → (∀ p, qi = some p → s.heap.get? p.1 = some p.2) → (∀ p, qj = some p → s.heap.get? p.1 = some p.2) → C (O.blt (key i) (key j)) s → wpAny (model prog w) A (keyLt' oneType' ki kj) C (fun _ _ => False) s)
    (h : ∀ p h' c, sPerm vs.length p → sUp key p vs.length → h'.get? a = some (seqObj "list" (List.toArray (p.toList.map fun i => vs.getD i Value.none)) c) → (∀ b o, b ≠ a → b ≠ kS → s.heap.get? b = some o → h'.get? b = some o) → P (.done (.ret .none)) { s with heap := h' }) :
    wpAny (model prog w) A (ksk_end a false vs.toArray e1 (.ref kS) (List.toArray ks)) P E s := by
  unfold ksk_end
  simp only [Bool.false_eq_true, if_false]
  by_cases h2 : vs.length < 2
  · have hn2 : vs.toArray.size < 2 := by rw [List.size_toArray]; exact h2
    have hv1 : vs.length = 1 := by omega
    rw [if_pos hn2, if_pos hn2]
    refine wpAny_bind (wpAny_pure ?_)
    refine wpAny_bind (wpAny_of_eq (a := ((), SortSt.mk' general' (ks.toArray.zip vs.toArray) #[] 7 none)) rfl ?_)
    have har : arrOf (SortSt.mk' general' (ks.toArray.zip vs.toArray) #[] 7 none) = (List.toArray (List.range vs.length)).map (kas_item (ks.toArray.zip vs.toArray)) := by
      have e := kas_range (ks.toArray.zip vs.toArray)
      rw [show (ks.toArray.zip vs.toArray).size = vs.length by simp [hl]] at e
      rw [e]
    refine sort_tail hak hk ha (kat_snds hl har) (by simpa using h64) (by omega) rfl fun h' c e1 e2 => h _ h' c (Array.Perm.refl _) ?_ e1 e2
    intro i j hij hj
    have : i = j := by omega
    subst this
    exact KeyOrd.kle_refl _
  · have hn2 : ¬ vs.toArray.size < 2 := by rw [List.size_toArray]; exact h2
    rw [if_neg hn2, if_neg hn2]
    have hat : ∀ i, i < vs.length → ∃ q, KP i (ks.getD i .none) q ∧ ∀ p, q = some p → s.heap.get? p.1 = some p.2 := fun i hi => by
      have hi' : i < ks.length := by omega
      obtain ⟨q, k1, k2⟩ := K i ks[i] (List.getElem?_eq_getElem hi')
      refine ⟨q, ?_, fun p hp => (k2 p hp).2.2⟩
      rw [List.getD_eq_getElem?_getD, List.getElem?_eq_getElem hi']; exact k1
    refine wpAny_bind (kas_kind (T := T) (by omega) (fun v hv => ?_) hT1 hT2 ?_)
    · obtain ⟨i, hi⟩ := List.mem_iff_getElem?.mp hv
      obtain ⟨q, k1, k2⟩ := K i v hi
      exact hT i v q k1 fun p hp => (k2 p hp).2.2
    · refine wpAny_bind (wpAny_mono (kat_run (Q := fun st' s' => s' = s ∧ ∃ p : Array Nat, p.size = vs.length ∧ arrOf st' = p.map (kas_item (ks.toArray.zip vs.toArray)) ∧ failedOf st' = none ∧ sPerm vs.length p ∧ sUp key p vs.length)
        (G := fun p s' => s' = s ∧ sPerm vs.length p ∧ sUp key p vs.length) hl (by omega) h64 (fun p st' s' a1 a2 a3 a4 => ⟨a4.1, p, a1, a2, a3, a4.2.1, a4.2.2⟩)
        (s_sort (key := key) (O := O) (n := vs.length) (fun i j C hi hj hC => ?_) h1 fun q hq hu => ⟨rfl, hq, hu⟩)) ?_ fun _ _ x => x)
      · obtain ⟨qi, i1, i2⟩ := hat i hi
        obtain ⟨qj, j1, j2⟩ := hat j hj
        exact hcmp i j _ _ qi qj C i1 j1 i2 j2 hC
      · rintro ⟨⟨⟩, st'⟩ s' ⟨rfl, p, hp, har, hf, hpm, hup⟩
        exact sort_tail hak hk ha (kat_snds hl har) (by rw [List.length_map, Array.length_toList, hp]; exact h64) (by omega) hf fun h' c e1 e2 => h p h' c hpm hup e1 e2

theorem sort_tree {KP : KeyP} {T f : Value} {a : Addr} {vs : List Value} {n0 : Nat} {P : PySem.Fin → Shared → Prop} (ho : s.heap.get? a = some (seqObj "list" vs.toArray n0)) (h1 : 1 ≤ vs.length) (h64 : vs.length < 64)
    (hcall : ∀ i v h tk, vs[i]? = some v → (∀ b o, b ≠ a → s.heap.get? b = some o → h.get? b = some o) → KeyCall prog w A s KP f i v h tk)
    (hT : ∀ h i k q, KP i k q → (∀ p, q = some p → h.get? p.1 = some p.2) → Looks (model prog w) h (typeOf k) T) (hT1 : (T != Value.type "tuple") = true) (hT2 : (T == T) = true)
    (hcmp : ∀ h tk i j ki kj qi qj (C : Bool → Shared → Prop), KP i ki qi → KP j kj qj → (∀ p, qi = some p → h.get? p.1 = some p.2) → (∀ p, qj = some p → h.get? p.1 = some p.2) → C (O.blt (key i) (key j)) { s with heap := h, toks := tk } → wpAny (model prog w) A (keyLt' oneType' ki kj) C (fun _ _ => False) { s with heap := h, toks := tk })
    (h : ∀ p h' tk c, sPerm vs.length p → sUp key p vs.length → h'.get? a = some (seqObj "list" (List.toArray (p.toList.map fun i => vs.getD i Value.none)) c) → (∀ b o, b ≠ a → s.heap.get? b = some o → h'.get? b = some o) → P (.done (.ret .none)) { s with heap := h', toks := tk }) :
    wpAny (model prog w) A (ksk_tree a f false) P E s := by
  have hal : a < s.heap.objs.size := Heap.lt_size ho
  have s1 := Heap.SameBut.update s.heap a (Obj.mapSeq fun _ => (#[] : Array Value))
  obtain ⟨e1, ho1⟩ : ∃ e1, (s.heap.update a (Obj.mapSeq fun _ => (#[] : Array Value))).get? a = some (seqObj "list" #[] e1) := ⟨_, get?_update_seq ho fun _ => #[]⟩
  unfold ksk_tree
  refine wpAny_bind (listItems_at ho rfl ?_)
  refine wpAny_bind (listUpdate_at ho rfl ?_ (by rw [List.size_toArray, sizeLine_eq]; omega) (Nat.zero_le _))
  refine wpAny_bind (seqEpoch_at ho1 rfl ?_)
  refine wpAny_bind (wpAny_newTuple ?_ (by show vs.length ≤ _; rw [sizeLine_eq]; omega))
  refine wpAny_bind (wpAny_newList ?_ (Nat.zero_le _))
  refine wpAny_holding ?_
  have hkS : ((s.heap.update a (Obj.mapSeq fun _ => (#[] : Array Value))).push (seqObj "tuple" vs.toArray 0)).objs.size = s.heap.objs.size + 1 := by rw [size_push', Heap.size_update]
  have hak : a ≠ ((s.heap.update a (Obj.mapSeq fun _ => (#[] : Array Value))).push (seqObj "tuple" vs.toArray 0)).objs.size := by rw [hkS]; exact Nat.ne_of_lt (Nat.lt_succ_of_lt hal)
  have keep0 : ∀ b o, b ≠ a → s.heap.get? b = some o → (((s.heap.update a (Obj.mapSeq fun _ => (#[] : Array Value))).push (seqObj "tuple" vs.toArray 0)).push (seqObj "list" #[] 0)).get? b = some o := fun b o hb e => Heap.get?_push_of_some _ (Heap.get?_push_of_some _ ((s1.2 b hb).trans e))
  have hnk : ∀ b o, s.heap.get? b = some o → b ≠ ((s.heap.update a (Obj.mapSeq fun _ => (#[] : Array Value))).push (seqObj "tuple" vs.toArray 0)).objs.size := fun b o e => by rw [hkS]; exact Nat.ne_of_lt (Nat.lt_succ_of_lt (Heap.lt_size e))
  have hkS0 : (((s.heap.update a (Obj.mapSeq fun _ => (#[] : Array Value))).push (seqObj "tuple" vs.toArray 0)).push (seqObj "list" #[] 0)).get? ((s.heap.update a (Obj.mapSeq fun _ => (#[] : Array Value))).push (seqObj "tuple" vs.toArray 0)).objs.size = some (seqObj "list" #[] 0) := Heap.get?_push_size _ rfl
  have ha0 : (((s.heap.update a (Obj.mapSeq fun _ => (#[] : Array Value))).push (seqObj "tuple" vs.toArray 0)).push (seqObj "list" #[] 0)).get? a = some (seqObj "list" #[] e1) := Heap.get?_push_of_some _ (Heap.get?_push_of_some _ ho1)
  show wpAny _ _ (ksk_rest a f false vs.toArray e1 (.ref ((s.heap.update a (Obj.mapSeq fun _ => (#[] : Array Value))).push (seqObj "tuple" vs.toArray 0)).objs.size)) _ _ { s with heap := ((s.heap.update a (Obj.mapSeq fun _ => (#[] : Array Value))).push (seqObj "tuple" vs.toArray 0)).push (seqObj "list" #[] 0) }
  generalize ((s.heap.update a (Obj.mapSeq fun _ => (#[] : Array Value))).push (seqObj "tuple" vs.toArray 0)).objs.size = kS at *
  generalize ((s.heap.update a (Obj.mapSeq fun _ => (#[] : Array Value))).push (seqObj "tuple" vs.toArray 0)).push (seqObj "list" #[] 0) = H at *
  unfold ksk_rest
  refine wpAny_bind (wpAny_rule ?_)
  first
    | rw [List.forIn_toArray]
    | (rw [← Array.forIn_toList]; simp only [List.toList_toArray])
  refine wpAny_bind (sort_keys (s := { s with heap := H }) (KP := KP) (a := a) (kS := kS) (f := f) (vs := vs) (e1 := e1) h64 hak (fun x ks e s' R' hz hx => ?_) (fun i v h tk hv hk => hcall i v h tk hv fun b o hb e => hk b o hb (hnk b o e) (keep0 b o hb e)) (fun ks h' tk e hl hk ha K keep => ?_) vs [] [] H s.toks 0 rfl rfl hkS0 ha0 (fun j k hk => by simp at hk) fun _ _ _ _ e => e)
  · refine wpAny_bind (wpAny_attempt (wpAny_mono hx (fun k s'' hk => ?_) fun _ _ hF => hF.elim))
    obtain ⟨hk, c⟩ := hk
    have sb := Heap.SameBut.update s''.heap kS (Obj.mapSeq (·.push k))
    have ea : (List.toArray ks).push k = List.toArray (ks ++ [k]) := by simp
    obtain ⟨c2, hc2⟩ : ∃ c2, (s''.heap.update kS (Obj.mapSeq (·.push k))).get? kS = some (seqObj "list" (List.toArray (ks ++ [k])) c2) := ⟨_, by rw [← ea]; exact get?_update_seq hk (·.push k)⟩
    try dsimp only
    refine wpAny_bind (listUpdate_at hk rfl ?_ (by rw [List.size_toArray, sizeLine_eq]; omega) (Nat.le_trans (Nat.le_of_eq (Array.size_push ..)) (by rw [List.size_toArray, sizeLine_eq]; omega)))
    exact wpAny_pure (c _ c2 sb hc2)
  · try dsimp only
    refine wpAny_bind (listItems_at hk rfl ?_)
    refine sort_end (T := T) (O := O) (key := key) hak h1 h64 hl hk ha K (fun i k q h1 h2 => hT _ i k q h1 h2) hT1 hT2 (fun i j ki kj qi qj C k1 k2 k3 k4 hC => hcmp h' tk i j ki kj qi qj C k1 k2 k3 k4 hC) fun p h2 c hp hu hr hkp => ?_
    exact h p h2 tk c hp hu hr fun b o hb e => hkp b o hb (hnk b o e) (keep b o hb (hnk b o e) (keep0 b o hb e))
end
end

section
def natsOrd : KeyOrd := PyProof.Rows.strKind.toKeyOrd
def keyOf (xs : List Str) (i : Nat) : natsOrd.α := (xs.getD i (Str.ofString "")).cps.toList
theorem natsOrd_blt (a b : List Nat) : natsOrd.blt a b = decide (a < b) := rfl

theorem strs_pick {xs : List Str} {vs : List Value} (hs : StrsAre vs xs) : ∀ (l : List Nat), (∀ i ∈ l, i < xs.length) → StrsAre (l.map fun i => vs.getD i Value.none) (l.map fun i => xs.getD i (Str.ofString ""))
  | [], _ => .nil
  | i :: l, h => by
    have hi := h i (.head _)
    obtain ⟨t, ht⟩ := hs.get i xs[i] (List.getElem?_eq_getElem hi)
    have e1 : vs.getD i Value.none = .str xs[i] t := by rw [List.getD_eq_getElem?_getD, ht]; rfl
    have e2 : xs.getD i (Str.ofString "") = xs[i] := by rw [List.getD_eq_getElem?_getD, List.getElem?_eq_getElem hi]; rfl
    rw [List.map_cons, List.map_cons, e1, e2]
    exact .cons _ t (strs_pick hs l fun j hj => h j (.tail _ hj))

theorem range_pick (xs : List Str) (d : Str) : (List.range xs.length).map (fun i => xs.getD i d) = xs := by
  apply List.ext_getElem (by simp)
  intro i h1 h2
  simp [h2]

theorem cps_inj {a b : Str} (h : a.cps.toList = b.cps.toList) : a = b := by
  obtain ⟨a⟩ := a; obtain ⟨b⟩ := b
  have : a = b := Array.toList_inj.mp h
  rw [this]

theorem sorted_out {xs : List Str} {vs : List Value} (hs : StrsAre vs xs) (hnd : xs.Nodup) {p : Array Nat} (hp : sPerm vs.length p) (hu : sUp (O := natsOrd) (keyOf xs) p vs.length) :
    ∃ ys, StrsAre (p.toList.map fun i => vs.getD i Value.none) ys ∧ Rising ys ∧ ys.Perm xs := by
  have hl : vs.length = xs.length := hs.length
  have hpl : p.toList.Perm (List.range vs.length) := Array.perm_iff_toList_perm.mp hp
  have hpm : (p.toList.map fun i => xs.getD i (Str.ofString "")).Perm xs := by
    have := hpl.map fun i => xs.getD i (Str.ofString "")
    rw [hl, range_pick] at this
    exact this
  refine ⟨p.toList.map fun i => xs.getD i (Str.ofString ""), strs_pick hs _ fun i hi => ?_, ?_, hpm⟩
  · have := hpl.mem_iff.mp hi
    rw [← hl]; simpa using this
  · have hyn := hpm.nodup_iff.mpr hnd
    unfold Rising
    rw [List.pairwise_iff_getElem]
    intro i j hi hj hij
    have hpi : i < p.size := by simpa using hi
    have hpj : j < p.size := by simpa using hj
    have hsz := hp.size
    have hk := hu i j (Nat.le_of_lt hij) (by omega)
    have e : ∀ k (hk : k < p.size), sK (O := natsOrd) (keyOf xs) p k = ((p.toList.map fun i => xs.getD i (Str.ofString ""))[k]'(by simpa using hk)).cps.toList := fun k hk => by
      unfold sK keyOf
      simp [Array.getD, hk]
      rfl
    rw [e i hpi, e j hpj] at hk
    have hk' := of_decide_eq_false (show decide (_ < _) = false from hk)
    have hle := List.not_lt.mp hk'
    rcases List.le_iff_lt_or_eq.mp hle with h | h
    · exact h
    · exact absurd (cps_inj h) (List.pairwise_iff_getElem.mp hyn i j hi hj hij)

section
variable {prog : Program} {w : World} {A : Around} {E : Value → Shared → Prop} {s : Shared}

theorem sorted_strs {KP : KeyP} {T : Value} {l q : Addr} {xs : List Str} {Q : Value → Shared → Prop} (hnd : xs.Nodup) (h1 : 1 ≤ xs.length) (h64 : xs.length < 64)
    (hcol : ∀ (R : List Value → Shared → Prop) (E' : Value → Shared → Prop), (∀ vs h' tk, StrsAre vs xs → Grows s.heap h' → R vs { s with heap := h', toks := tk }) → wpAny (model prog w) A.in1 (collect (.ref l)) R E' s)
    (hcall : ∀ i x t h tk, xs[i]? = some x → Grows s.heap h → KeyCall prog w A.in1.in1 s KP (.ref q) i (.str x t) h tk)
    (hT : ∀ h i k q, KP i k q → (∀ p, q = some p → h.get? p.1 = some p.2) → Looks (model prog w) h (typeOf k) T) (hT1 : (T != Value.type "tuple") = true) (hT2 : (T == T) = true)
    (hcmp : ∀ h tk i j ki kj qi qj (C : Bool → Shared → Prop), KP i ki qi → KP j kj qj → (∀ p, qi = some p → h.get? p.1 = some p.2) → (∀ p, qj = some p → h.get? p.1 = some p.2) → C (decide ((xs.getD i (Str.ofString "")).cps.toList < (xs.getD j (Str.ofString "")).cps.toList)) { s with heap := h, toks := tk } →
      wpAny (model prog w) A.in1.in1 (keyLt' oneType' ki kj) C (fun _ _ => False) { s with heap := h, toks := tk })
    (hQ : ∀ D vs' ys h' tk c, s.heap.get? D = none → h'.get? D = some (listOf (List.toArray vs') c) → StrsAre vs' ys → Rising ys → ys.Perm xs → Grows s.heap h' → Q (.ref D) { s with heap := h', toks := tk }) :
    wpAny (model prog w) A (call (.builtin "sorted") [.ref l] [(Str.ofString "key", .ref q)]) Q E s := by
  refine call_function_entry_kw kind_sorted plain_sorted entry_sorted (ksk_s1 _ _) ?_
  unfold Builtin.«sorted»
  refine wpAny_bind (m := checkCount "sorted" 1 1 _) (wpAny_pure ?_)
  refine wpAny_bind (hcol _ _ fun vs h₁ tk₁ hs g₁ => ?_)
  have hl : vs.length = xs.length := hs.length
  refine wpAny_bind (wpAny_newList ?_ (by rw [sizeLine_eq]; omega))
  have hoL : (h₁.push (seqObj "list" vs.toArray 0)).get? h₁.objs.size = some (seqObj "list" vs.toArray 0) := Heap.get?_push_size _ rfl
  show wpAny _ _ _ _ _ { s with heap := h₁.push (seqObj "list" vs.toArray 0), toks := tk₁ }
  have g₂ : ∀ b o, s.heap.get? b = some o → b ≠ h₁.objs.size ∧ (h₁.push (seqObj "list" vs.toArray 0)).get? b = some o := fun b o e => ⟨Nat.ne_of_lt (Heap.lt_size (g₁ b o e)), Heap.get?_push_of_some _ (g₁ b o e)⟩
  refine wpAny_bind (wpAny_holding (wpAny_call_entry_kw slot_list_sort ⟨_, hoL, rfl⟩ entry_list_sort ?body (ksk_l1 _ _)))
  case body =>
    show wpAny (model prog w) A.in1.in1 (Builtin.«list.sort» ⟨[.ref h₁.objs.size], [(Str.ofString "key", .ref q)]⟩) _ _ _
    rw [ksk_t1]
    refine sort_tree (T := T) (O := natsOrd) (key := keyOf xs) (KP := KP) (vs := vs) (n0 := 0) (s := { s with heap := h₁.push (seqObj "list" vs.toArray 0), toks := tk₁ }) hoL (by omega) (by omega) (fun i v h tk hv hk => ?_) hT hT1 hT2
      (fun h tk i j ki kj qi qj C k1 k2 k3 k4 hC => hcmp h tk i j ki kj qi qj C k1 k2 k3 k4 hC) fun p h' tk c hp hu hr hk => ?_
    · obtain ⟨x, t, rfl, hx⟩ := hs.item i v hv
      exact hcall i x t h tk hx fun b o e => hk b o (g₂ b o e).1 (g₂ b o e).2
    · obtain ⟨ys, k1, k2, k3⟩ := sorted_out hs hnd hp hu
      refine ⟨_, rfl, wpAny_pure ⟨_, rfl, ?_⟩⟩
      refine hQ h₁.objs.size _ ys h' tk c ?_ hr k1 k2 k3 fun b o e => hk b o (g₂ b o e).1 (g₂ b o e).2
      cases e : s.heap.get? h₁.objs.size with
      | none => rfl
      | some o => exact absurd rfl (g₂ _ o e).1
end
end

section
theorem joinDot_str : ∀ (ws : List Str), Str.join dotS ws = joinDot ws
  | [] => rfl
  | [_] => rfl
  | x :: y :: r => by
    show x ++ dotS ++ Str.join dotS (y :: r) = x ++ dotS ++ joinDot (y :: r)
    rw [joinDot_str (y :: r)]
theorem joinDot_join (ws : List Str) : Txt.join dotS ws = joinDot ws := (StrLaws.glued_eq_join dotS ws).trans (joinDot_str ws)

def WordOk (k : Nat) (w : List Str) : Prop := w.length ≤ k ∧ ∀ x ∈ w, x.length ≤ 3
theorem choices_ok {n i : Nat} {p : Pc} (hp : Small 3 p) : ∀ c ∈ choicesOf n i p, WordOk 1 c := by
  have hC : WordOk 1 [cS] := ⟨Nat.le_refl _, fun x hx => by rw [List.mem_singleton.mp hx]; decide⟩
  have hN : WordOk 1 [] := ⟨Nat.zero_le _, fun x hx => nomatch hx⟩
  intro c hc
  unfold choicesOf at hc
  cases p with
  | some x =>
    rw [List.mem_singleton.mp hc]
    exact ⟨Nat.le_refl _, fun y hy => by rw [List.mem_singleton.mp hy]; exact hp x rfl⟩
  | none =>
    dsimp only at hc
    split at hc
    · rw [List.mem_singleton.mp hc]; exact hC
    · split at hc
      · rw [List.mem_singleton.mp hc]; exact hN
      · rcases List.mem_cons.mp hc with rfl | hc
        · exact hC
        · rw [List.mem_singleton.mp hc]; exact hN
theorem mixTo_ok {ps : List Pc} (hsm : ∀ p ∈ ps, Small 3 p) : ∀ k, ∀ w ∈ mixTo ps k, WordOk k w
  | 0, w, hw => by
    rw [List.mem_singleton.mp hw]
    exact ⟨Nat.le_refl _, fun x hx => nomatch hx⟩
  | k + 1, w, hw => by
    have hp : Small 3 (ps.getD k none) := by
      by_cases h : k < ps.length
      · exact hsm _ (getD_mem h)
      · rw [List.getD_eq_getElem?_getD, List.getElem?_eq_none (by omega)]
        exact fun x e => nomatch e
    unfold mixTo mixStep at hw
    obtain ⟨u, hu, hc⟩ := List.mem_flatMap.mp hw
    obtain ⟨c, hc', rfl⟩ := List.mem_map.mp hc
    have h1 := mixTo_ok hsm k u hu
    have h2 := choices_ok hp c hc'
    refine ⟨by rw [List.length_append]; have := h1.1; have := h2.1; omega, fun x hx => ?_⟩
    rcases List.mem_append.mp hx with hx | hx
    · exact h1.2 x hx
    · exact h2.2 x hx
theorem word_sum : ∀ (w : List Str), (∀ x ∈ w, x.length ≤ 3) → (w.map (·.length)).sum ≤ 3 * w.length
  | [], _ => Nat.le_refl _
  | x :: w, h => by
    have h1 := word_sum w fun y hy => h y (.tail _ hy)
    have h2 := h x (.head _)
    rw [List.map_cons, List.sum_cons, List.length_cons]; omega

theorem paired_append {α β : Type} {F : α → β → Prop} : ∀ {l l' : List α} {r r' : List β}, Paired F l r → Paired F l' r' → Paired F (l ++ l') (r ++ r')
  | _, _, _, _, .nil, h => h
  | _, _, _, _, .cons x r, h => .cons x (paired_append r h)

theorem turn_ledger {h₀ h' g : Heap} {L c I Dd C : Addr} {oI oc tab : Obj} {mf mn : Str → Option Value} {ks : List (Addr × Obj)} {ys : List Value} {ws : List (List Str)} (F' : Fr h₀ L h' mf) (N' : News h₀ L h' ks) (hI : (I, oI) ∈ ks) (hc : (c, oc) ∈ ks) (h76 : ((76 : Addr), tab) ∈ ks)
    (hcI : c ≠ I) (h76I : (76 : Addr) ≠ I) (hDn : h'.get? Dd = none) (hC : h'.objs.size < C) (hpl : g.PlainList Dd (List.toArray ys)) (hJ : Paired (WordAt C g) ys ws) (hn : g.Ns L mn) (hkp : ∀ b o, b ≠ L → h'.get? b = some o → g.get? b = some o) :
    Fr h₀ L g mn ∧ ∃ n tl, News h₀ L g ((I, oI) :: (Dd, listOf (List.toArray ys) n) :: (c, oc) :: (76, tab) :: tl) ∧ (∀ p ∈ (Dd, listOf (List.toArray ys) n) :: (c, oc) :: (76, tab) :: tl, p.1 ≠ I) ∧ Dd ≠ c ∧ (∀ p ∈ tl, p.1 ≠ c) ∧ Paired (WordIn tl) ys ws := by
  have hLs : @LT.lt Nat instLTNat L h'.objs.size := F'.ns.lt
  have hL0 : @LE.le Nat instLENat h₀.objs.size L := F'.above
  have hC' : @LT.lt Nat instLTNat h'.objs.size C := hC
  have keep : ∀ b o, h₀.get? b = some o → g.get? b = some o := fun b o e => hkp b o (fun q => by
    have : @LT.lt Nat instLTNat b h₀.objs.size := Heap.lt_size e
    subst q; omega) (F'.keep b o e)
  obtain ⟨n, hpl⟩ := hpl
  obtain ⟨tl, t1, t2⟩ := words_ledger hJ
  have old : ∀ q ∈ ks, g.get? q.1 = some q.2 ∧ q.1 ≠ L ∧ h₀.get? q.1 = none := fun q hq => ⟨hkp _ _ (N' q hq).2.1 (N' q hq).1, (N' q hq).2⟩
  have hDk : ∀ q ∈ ks, Dd ≠ q.1 := fun q hq e => by have := (N' q hq).1; rw [← e, hDn] at this; cases this
  have hlt : ∀ q ∈ ks, @LT.lt Nat instLTNat q.1 h'.objs.size := fun q hq => Heap.lt_size (N' q hq).1
  have hDL : Dd ≠ L := fun e => by
    obtain ⟨o, es, ep, ho, _⟩ := F'.ns
    rw [← e, hDn] at ho; cases ho
  have hD0 : h₀.get? Dd = none := by
    cases e : h₀.get? Dd with
    | none => rfl
    | some o => have := F'.keep _ _ e; rw [hDn] at this; cases this
  have ht : ∀ q ∈ tl, @LT.lt Nat instLTNat C q.1 := fun q hq => (t1 q hq).1
  refine ⟨⟨hn, keep, F'.above⟩, n, tl, fun q hq => ?_, fun q hq => ?_, hDk _ hc, fun q hq => ?_, t2⟩
  · rcases List.mem_cons.mp hq with rfl | hq
    · exact old _ hI
    · rcases List.mem_cons.mp hq with rfl | hq
      · exact ⟨hpl, hDL, hD0⟩
      · rcases List.mem_cons.mp hq with rfl | hq
        · exact old _ hc
        · rcases List.mem_cons.mp hq with rfl | hq
          · exact old _ h76
          · have := ht q hq
            exact ⟨(t1 q hq).2, Nat.ne_of_gt (by omega), Heap.get?_none_of_le (by omega)⟩
  · rcases List.mem_cons.mp hq with rfl | hq
    · exact hDk _ hI
    · rcases List.mem_cons.mp hq with rfl | hq
      · exact hcI
      · rcases List.mem_cons.mp hq with rfl | hq
        · exact h76I
        · have := ht q hq
          have := hlt _ hI
          exact Nat.ne_of_gt (by omega)
  · have := ht q hq
    have := hlt _ hc
    exact Nat.ne_of_gt (by omega)

/-- a frame over nothing -/
theorem fr0 {L : Addr} {h : Heap} {m : Str → Option Value} (hn : h.Ns L m) : Fr ({ objs := #[] } : Heap) L h m :=
  ⟨hn, fun b o e => by simp [Heap.get?] at e, Nat.zero_le _⟩

section
variable {prog : Program} {w : World} {A : Around} {E : Value → Shared → Prop} {s : Shared}

theorem addL {l b : Addr} {vs ws : List Value} {Q : Value → Shared → Prop} (hl : s.heap.IsList l vs.toArray) (hb : s.heap.IsList b ws.toArray)
    (h : Q (.ref s.heap.objs.size) { s with heap := s.heap.push (listOf (List.toArray (vs ++ ws)) 0) }) (hsz : vs.length + ws.length ≤ sizeLine) :
    wpAny (model prog w) A (binaryOp .Add (.ref l) (.ref b)) Q E s := by
  obtain ⟨⟨cls, dd, data, sl⟩, ho, hc, n, hd⟩ := id hl
  obtain ⟨⟨cls2, dd2, data2, sl2⟩, ho2, hc2, n2, hd2⟩ := id hb
  simp only at hc hd hc2 hd2
  subst hc hd hc2 hd2
  have e : vs.toArray ++ ws.toArray = (vs ++ ws).toArray := by simp
  refine concat_meets ⟨_, ho, rfl⟩ ⟨_, ho2, rfl⟩ noFill_list_add seq_list_add PySem.F.slot_list_add PySem.F.entry_list_add (PySem.F.args_list_add_2 _ _) (list_addW l b vs.toArray ws.toArray n n2 dd dd2 sl sl2 (by simpa using hsz)) ⟨ho, ho2, ?_⟩
  rw [e]
  exact h

/-- entering a lambda of the text, no way that raises -/
theorem enterLam {w : World} {mg mb : Str → Option Value} {name qual : Str} {params : Arguments} {body : Expr} {scope : Scope} {cl : List (Str × Addr)} {pm ctv : Value} {c' f : Addr} {args : List Value} {binds : List (Str × Value)} {Q : Value → Shared → Prop}
    (D : Gd w mg mb s.heap) (hroom : A.depth < recursionLimit) (ho : s.heap.get? f = some (kla_obj name qual params body scope cl pm c' ctv)) (hcd : s.heap.CodeRec (.ref c') qual)
    (hbind : bindArgs (kla_fn name qual params body scope cl pm (.ref c') ctv) ⟨args, []⟩ = pure binds) (hloc : ∀ y ∈ binds, scope.names.lookup y.1 = some .local)
    (h : ∀ h₁, Fr s.heap s.heap.objs.size h₁ (fun y => binds.reverse.lookup y) →
      wpAny (model prog w) (A.deeper (envX qual scope s.heap.objs.size f (.ref c') cl)) (eval body (envX qual scope s.heap.objs.size f (.ref c') cl)) Q (fun _ _ => False) { s with heap := h₁, toks := s.toks + binds.length })
    (hcell : ∀ x ∈ scope.names, x.2 ≠ .cell) (hco : scope.isCoroutine = false) (hgen : scope.isGenerator = false) (hk : scope.kind = .function) :
    wpAny (model prog w) A (call (.ref f) args) Q E s := by
  refine wpAny_call (kla_callFunE hroom ho rfl hco hgen rfl hcd ?_)
  rw [hbind]
  refine wpAny_pure (wpAny_newFunctionEnv hcell hloc (fun h₁ hns hsb => ⟨D.lim.fresh _ hsb, ?_⟩) hk)
  show codeAny _ _ (.expr body (envX qual scope s.heap.objs.size f (.ref c') cl)) _ _
  have hk₁ : ∀ b o, s.heap.get? b = some o → h₁.get? b = some o := fun b o e => hsb.extBut b o (Nat.ne_of_lt (Heap.lt_size e)) (Heap.get?_push_of_some _ e)
  exact kla_codeExpr (wpAny_mono (h h₁ ⟨hns, hk₁, Nat.le_refl _⟩) (fun v s' hl => hl) fun _ _ x => x.elim)
end
end

section
/-- the table of the lambda's code: empty, or with this one lambda's code -/
def TabOk (qual : Str) (pos : Pos) (h : Heap) (tab : Obj) : Prop := tab = tabObj #[] ∨ ∃ c' : Addr, tab = tabObj #[rawInt pos.line, rawInt pos.col, .ref c'] ∧ h.CodeRec (.ref c') qual
theorem TabOk.keeps {qual : Str} {pos : Pos} {h h' : Heap} {tab : Obj} (x : TabOk qual pos h tab) (k : Grows h h') : TabOk qual pos h' tab := by
  rcases x with x | ⟨c', e, r⟩
  · exact .inl x
  · exact .inr ⟨c', e, r.keeps k⟩

section
variable {M : Model} {A : Around} {E : Value → Shared → Prop} {s : Shared} {h₀ : Heap} {L a : Addr} {m mg mb : Str → Option Value} {cn : Str} {cs : Scope} {cl : List (Str × Addr)}
  {p : Program} {loose : List Str} {mean : ExcName → Option Value} {name qual : Str} {params : Arguments} {body : Expr} {scope : Scope} {pos : Pos} {firstLine : Nat} {clos : List (Str × Addr)} {ot tab : Obj} {t : Addr}

theorem lam_make {Q : Value → Shared → Prop} (F : Fr h₀ L s.heap m) (N : News h₀ L s.heap [(t, ot), (76, tab)]) (ht : t ≠ 76) (T : Top p loose mean mg mb h₀) (C : CodeHd h₀ 78 76) (ok : TabOk qual pos h₀ tab)
    (hcl : closureFor scope (envX cn cs L a (.ref 78) cl) = pure clos)
    (h : ∀ f c' ctv tab' h' tk, Fr h₀ L h' m → News h₀ L h' [(f, kla_obj name qual params body scope clos ((mg "__name__").getD .none) c' ctv), (t, ot), (76, tab')] → f ≠ 76 → TabOk qual pos (hideAll h' [76]) tab' → h'.CodeRec (.ref c') qual → Q (.ref f) { s with heap := h', toks := tk }) :
    wpAny M A (makeFunction name qual params (.expr body) scope (envX cn cs L a (.ref 78) cl) [] [] [] pos firstLine) Q E s := by
  rcases ok with rfl | ⟨c', rfl, hrec⟩
  · refine kla_nest F N T C rfl (.tail ht (.head fun p hp => nomatch hp)) trivial rfl hcl fun f c' oc vs tq ctv h' tk F' N' d1 d2 l1 l2 => ?_
    have h76 : (76 : Addr) < c' := l1 _ (.tail _ (.head _))
    have oc' := N' (c', oc) (.tail _ (.head _))
    refine h f c' ctv _ h' tk F' (fun q hq => N' q ?_) (Nat.ne_of_gt (Nat.lt_trans h76 l2)) (.inr ⟨c', rfl, c', oc, vs, tq, rfl, hideAll_get _ oc'.1 (by simpa using Nat.ne_of_gt h76), d1, d2⟩) ⟨c', oc, vs, tq, rfl, oc'.1, d1, d2⟩
    rcases List.mem_cons.mp hq with rfl | hq
    · exact .head _
    · exact .tail _ (.tail _ hq)
  · refine kla_hit (c' := c') F N T C rfl (.tail _ (.head _)) trivial (by simp [codeAmong, rawInt]) hcl fun f ctv h' tk F' N' l1 => ?_
    have h76 : (76 : Addr) < f := l1 _ (.tail _ (.head _))
    refine h f c' ctv _ h' tk F' N' (Nat.ne_of_gt h76) (.inr ⟨c', rfl, hrec.keeps fun b o e => hideAll_get _ (F'.keep b o e) ?_⟩) (hrec.keeps F'.keep)
    have n76 : h₀.get? 76 = none := (N _ (.tail _ (.head _))).2.2
    intro hb
    rw [List.mem_singleton.mp hb, n76] at e; cases e
end

/-- a text's signs as ints -/
def codesOf (x : Str) : List Int := x.cps.toList.map Int.ofNat
theorem codes_lt : ∀ (a b : List Nat), (a.map Int.ofNat < b.map Int.ofNat) ↔ a < b
  | [], [] => by simp
  | [], b :: bs => by simp
  | a :: as, [] => by simp
  | a :: as, b :: bs => by
    have h1 : Int.ofNat a < Int.ofNat b ↔ a < b := Int.ofNat_lt
    have h2 : Int.ofNat a = Int.ofNat b ↔ a = b := ⟨Int.ofNat.inj, congrArg _⟩
    rw [List.map_cons, List.map_cons, List.cons_lt_cons_iff, List.cons_lt_cons_iff, codes_lt as bs, h1, h2]

def LamKP (xs : List Str) : KeyP := fun i k q => ∃ a us n, k = .ref a ∧ q = some (a, listOf (List.toArray us) n) ∧ IntsAre us (codesOf (xs.getD i (Str.ofString "")))
section
variable {prog : Program} {w : World} {A : Around} {E : Value → Shared → Prop} {s : Shared}
theorem lam_types (xs : List Str) : ∀ h i k q, LamKP xs i k q → (∀ p, q = some p → h.get? p.1 = some p.2) → Looks (model prog w) h (typeOf k) (.type "list") := by
  rintro h i k q ⟨a, us, n, rfl, rfl, _⟩ ho
  exact (Looks.ld (ho _ rfl)).andThen .now
theorem lam_cmp {xs : List Str} (hu : A.units < cLine) : ∀ h tk i j ki kj qi qj (C : Bool → Shared → Prop), LamKP xs i ki qi → LamKP xs j kj qj → (∀ p, qi = some p → h.get? p.1 = some p.2) → (∀ p, qj = some p → h.get? p.1 = some p.2) → C (decide ((xs.getD i (Str.ofString "")).cps.toList < (xs.getD j (Str.ofString "")).cps.toList)) { s with heap := h, toks := tk } →
      wpAny (model prog w) A (keyLt' oneType' ki kj) C (fun _ _ => False) { s with heap := h, toks := tk } := by
  rintro h tk i j ki kj qi qj C ⟨a, us, n, rfl, rfl, h1⟩ ⟨b, us', n', rfl, rfl, h2⟩ o1 o2 hC
  refine key_lt_lists (s := { s with heap := h, toks := tk }) hu h1 h2 (o1 _ rfl) (o2 _ rfl) ?_
  have : decide (codesOf (xs.getD i (Str.ofString "")) < codesOf (xs.getD j (Str.ofString ""))) = decide ((xs.getD i (Str.ofString "")).cps.toList < (xs.getD j (Str.ofString "")).cps.toList) := by
    rw [decide_eq_decide]; exact codes_lt _ _
  rw [this]; exact hC
theorem col_list {l : Addr} {vs : List Value} {xs : List Str} (hl : s.heap.IsList l vs.toArray) (hs : StrsAre vs xs) (hlen : xs.length ≤ 1000) : ∀ (R : List Value → Shared → Prop) (E' : Value → Shared → Prop), (∀ vs h' tk, StrsAre vs xs → Grows s.heap h' → R vs { s with heap := h', toks := tk }) → wpAny (model prog w) A (collect (.ref l)) R E' s := by
  intro R E' hR
  have hl' := hs.length
  refine collect_list hl (hR vs _ s.toks hs fun b o e => ?_) (by rw [sizeLine_eq]; omega)
  have hlt : b < s.heap.objs.size := Heap.lt_size e
  rw [Heap.get?_update_ne _ _ _ _ (Nat.ne_of_lt hlt), Heap.get?_push_ne _ _ _ (Nat.ne_of_lt hlt)]
  exact e
end
theorem mixTo_pos (ps : List Pc) : ∀ k, 1 ≤ (mixTo ps k).length
  | 0 => Nat.le_refl _
  | k + 1 => by
    rw [mixTo, mixStep_length]
    exact Nat.mul_le_mul (mixTo_pos ps k) (choicesOf_length _ _ _).1
theorem firsts_pos {xs : List Str} (h : 1 ≤ xs.length) : 1 ≤ (firsts xs).length := by
  match xs, h with
  | x :: xs, _ => exact List.length_pos_of_mem (firsts_mem.mpr (List.mem_cons_self (a := x)))
theorem texts_pos (ps : List Pc) : 1 ≤ (firsts (textsAll ps)).length := firsts_pos (by unfold textsAll; rw [List.length_map]; exact mixTo_pos ps _)
theorem joinDot_length : ∀ (w : List Str), (joinDot w).length ≤ (w.map (·.length)).sum + w.length
  | [] => Nat.le_refl _
  | [x] => by simp [joinDot]
  | x :: y :: r => by
    have := joinDot_length (y :: r)
    show (x ++ dotS ++ joinDot (y :: r)).length ≤ _
    rw [Str.length_append, Str.length_append, List.map_cons, List.sum_cons, List.length_cons]
    have e : dotS.length = 1 := rfl
    omega
theorem texts_small {ps : List Pc} (h5 : ps.length ≤ 5) (hsm : ∀ p ∈ ps, Small 3 p) : ∀ x ∈ textsAll ps, x.length ≤ 20 := fun x hx => by
  obtain ⟨wd, hw, rfl⟩ := List.mem_map.mp hx
  have ok := mixTo_ok hsm ps.length wd hw
  have h1 := joinDot_length wd
  have h2 := word_sum wd ok.2
  have := ok.1
  omega
theorem hide_grows {h h' : Heap} {l : List Addr} (g : Grows h h') : Grows (hideAll h l) (hideAll h' l) := fun b o e =>
  hideAll_get _ (g _ _ (of_hideAll _ e)) fun hm => by rw [hideAll_none _ hm] at e; cases e
end

section
section
variable {w : World} {mg mb : Str → Option Value} {G : Heap} {prog : Program} {A : Around} {E : Value → Shared → Prop} {s : Shared} {Q : Value → Shared → Prop}

theorem texts0 {h₀ h : Heap} {L a u0 c l : Addr} {oc tab : Obj} (F : Fr h₀ L h (fun y => if y = Str.ofString "mixtures" then some (Value.ref a) else if y = Str.ofString "pieces" then some (Value.ref l) else none))
    (N : News h₀ L h [(a, listOf #[Value.ref u0] 0), (u0, listOf #[] 0), (c, oc), (76, tab)]) (hdc : oc.data = .cell none) :
    ∃ a u0, a ≠ c ∧ u0 ≠ c ∧ News h₀ L h [(a, listOf (List.toArray [Value.ref u0]) 0), (c, oc), (76, tab), (u0, listOf (List.toArray []) 0)] ∧
      Fr h₀ L h (fun y => if y = Str.ofString "mixtures" then some (Value.ref a) else if y = Str.ofString "pieces" then some (Value.ref l) else none) := by
  have hcO := (N (c, oc) (.tail _ (.tail _ (.head _)))).1
  have haO := (N _ (.head _)).1
  have huO := (N _ (.tail _ (.head _))).1
  refine ⟨a, u0, fun q => ?_, fun q => ?_, fun p hp => N p ?_, F⟩
  · subst q; rw [haO] at hcO; cases hcO; cases hdc
  · subst q; rw [huO] at hcO; cases hcO; cases hdc
  · simp only [List.mem_cons, List.not_mem_nil, or_false] at hp ⊢
    rcases hp with h | h | h | h <;> simp [h]

theorem storeCell {h₀ : Heap} {L c : Addr} {m : Str → Option Value} {rest : List (Addr × Obj)} {oc : Obj} {cv : Option Value} {v : Value} {env : Env} {name : Str} {Q : Unit → Shared → Prop} (F : Fr h₀ L s.heap m) (N : News h₀ L s.heap ((c, oc) :: rest)) (hd : oc.data = .cell cv) (hne : ∀ p ∈ rest, p.1 ≠ c)
    (hk : env.scope.kind = .function) (hl : env.kindOf name = some .cell) (hc : env.cells.lookup name = some c)
    (h : ∀ h' oc' tk, Fr h₀ L h' m → News h₀ L h' ((c, oc') :: rest) → oc'.data = .cell (some v) → Q () { s with heap := h', toks := tk }) : wpAny (model prog w) A (storeName env name v) Q E s := by
  have z := N _ (.head _)
  refine wpAny_storeName_cell hk hl hc ⟨oc, z.1, hd⟩ fun h' hc' hs' => ?_
  obtain ⟨oc', ho', hd'⟩ := hc'
  refine h h' oc' _ ⟨F.ns.sameBut hs' (Ne.symm z.2.1), fun b o e => (hs'.2 b fun q => ?_).trans (F.keep b o e), F.above⟩ (fun p hp => ?_) hd'
  · have := z.2.2; rw [← q] at this; rw [this] at e; cases e
  · rcases List.mem_cons.mp hp with rfl | hp
    · exact ⟨ho', z.2⟩
    · have y := N p (.tail _ hp)
      exact ⟨(hs'.2 _ (hne p hp)).trans y.1, y.2⟩

/-- the choices of this turn stand in the cell -/
def Chosen (s : Shared) (h₀ : Heap) (L c : Addr) (m : Str → Option Value) (keepers : List (Addr × Obj)) (cs : List (List Str)) (f : Flow) (s' : Shared) : Prop :=
  f = .next ∧ ∃ h' tk' oc cb cvs ncb ctl, s' = { s with heap := h', toks := tk' } ∧ Fr h₀ L h' m ∧ News h₀ L h' ((c, oc) :: (cb, listOf (List.toArray cvs) ncb) :: (ctl ++ keepers)) ∧
    oc.data = .cell (some (.ref cb)) ∧ Paired (WordIn ctl) cvs cs ∧ (∀ p ∈ ctl, p.1 ≠ c) ∧ cb ≠ c

theorem ne_cell {h₀ h : Heap} {L u c : Addr} {its : Array Value} {k : Nat} {oc : Obj} {cv : Option Value} {news : List (Addr × Obj)} (N : News h₀ L h news) (hu : (u, listOf its k) ∈ news) (hc : (c, oc) ∈ news) (hd : oc.data = .cell cv) : u ≠ c := fun q => by
  have h1 := (N _ hu).1
  have h2 := (N _ hc).1
  subst q
  rw [h1] at h2; cases h2; cases hd
theorem chosen_store {s₀ : Shared} {hp : Heap} {tk : Nat} {h₀ : Heap} {L c cb I a : Addr} {m : Str → Option Value} {oc oI oa tab : Obj} {cv : Option Value} {cvs : List Value} {ncb : Nat} {ctl tl : List (Addr × Obj)} {cs : List (List Str)} {env : Env} {name : Str} {E' : Value → Shared → Prop} {Q' : Unit → Shared → Prop}
    (F : Fr h₀ L hp m) (N : News h₀ L hp ((cb, listOf (List.toArray cvs) ncb) :: (ctl ++ ((I, oI) :: (a, oa) :: (c, oc) :: (76, tab) :: tl)))) (hoc : oc.data = .cell cv)
    (hcb : cb ≠ c) (hctl : ∀ p ∈ ctl, p.1 ≠ c) (hI : I ≠ c) (ha : a ≠ c) (h76 : (76 : Addr) ≠ c) (htl : ∀ p ∈ tl, p.1 ≠ c) (hw : Paired (WordIn ctl) cvs cs)
    (hk : env.scope.kind = .function) (hl : env.kindOf name = some .cell) (hc : env.cells.lookup name = some c)
    (k : ∀ s', Chosen s₀ h₀ L c m ((I, oI) :: (a, oa) :: (76, tab) :: tl) cs .next s' → Q' () s') :
    wpAny (model prog w) A (storeName env name (.ref cb)) Q' E' { s₀ with heap := hp, toks := tk } := by
  refine storeCell (rest := (cb, listOf (List.toArray cvs) ncb) :: (ctl ++ ((I, oI) :: (a, oa) :: (76, tab) :: tl))) F (fun p hp' => N p ?_) hoc (fun p hp' => ?_) hk hl hc ?_
  · simp only [List.mem_cons, List.mem_append] at hp' ⊢
    rcases hp' with h | h | h | h | h | h | h <;> simp [h]
  · simp only [List.mem_cons, List.mem_append] at hp'
    rcases hp' with h | h | h | h | h | h
    · rw [h]; exact hcb
    · exact hctl p h
    · rw [h]; exact hI
    · rw [h]; exact ha
    · rw [h]; exact h76
    · exact htl p h
  · intro h' oc' tk' F' N' hd'
    exact k _ ⟨rfl, h', tk', oc', cb, cvs, ncb, ctl, rfl, F', N', hd', hw, hctl, hcb⟩

def lamQual : Str := Str.ofString "_law_texts" ++ ".<locals>." ++ "<lambda>"
def lamPos : Pos := ⟨72, 29, 72, 70⟩
theorem texts_ {l : Addr} {vs : List Value} {ps : List Pc} {nn : Nat} {tab : Obj} {p₀ : Program} {loose : List Str} {mean : ExcName → Option Value} (Dg : Gd w mg mb (hideAll s.heap [76])) (T : Top p₀ loose mean mg mb (hideAll s.heap [76])) (hCd : CodeHd (hideAll s.heap [76]) 78 76) (ht : s.heap.get? 76 = some tab) (htab : TabOk lamQual lamPos (hideAll s.heap [76]) tab)
    (hA : A.depth + 2 < recursionLimit) (hu : A.units + 10 < cLine) (hh : A.handled = none)
    (hl : (hideAll s.heap [76]).get? l = some (listOf vs.toArray nn)) (hs : PVs vs ps) (h2 : 2 ≤ ps.length) (h5 : ps.length ≤ 5) (hsm : ∀ p ∈ ps, Small 3 p)
    (hQ : ∀ a vs' n' ys tab' h' tk, s.heap.get? a = none → h'.get? a = some (listOf (List.toArray vs') n') → StrsAre vs' ys → Rising ys → ys.Perm (firsts (textsAll ps)) → Grows (hideAll s.heap [76]) h' → h'.get? 76 = some tab' → TabOk lamQual lamPos (hideAll h' [76]) tab' → Q (.ref a) { s with heap := h', toks := tk }) :
    wpAny (model prog w) A (call (.ref 79) [.ref l]) Q E s := by
  w_top off
  have D : Gd w mg mb s.heap := Dg.keeps fun b o e => of_hideAll _ e
  refine enterC (binds := [(Str.ofString "pieces", .ref l)]) D (by omega) rfl (by rfl) rfl (by rfl) ?_
  intro h₁ tk F₀ X₀
  have F : Fr (hideAll s.heap [76]) s.heap.objs.size h₁ (fun y => if y = Str.ofString "pieces" then some (.ref l) else none) := ⟨F₀.ns, fun b o e => F₀.keep b o (of_hideAll _ e), Nat.le_of_eq (hideAll_size _ _)⟩
  obtain ⟨oc, hoc, hdc⟩ : h₁.IsCell (s.heap.objs.size + 1) none := X₀.cell (Str.ofString "choices") _ rfl
  have hg₁ := F₀.keep
  clear X₀ F₀
  have X := Dg.X
  have hc0 : (hideAll s.heap [76]).get? (s.heap.objs.size + 1) = none := Heap.get?_none_of_le (by rw [hideAll_size]; exact Nat.le_succ _)
  have h76 : (hideAll s.heap [76]).get? 76 = none := hideAll_none _ (.head _)
  have h76L : (76 : Addr) ≠ s.heap.objs.size := Nat.ne_of_lt (Heap.lt_size ht)
  have N : News (hideAll s.heap [76]) s.heap.objs.size h₁ [(s.heap.objs.size + 1, oc), (76, tab)] := fun p hp => by
    rcases List.mem_cons.mp hp with rfl | hp
    · exact ⟨hoc, Nat.succ_ne_self _, hc0⟩
    · rw [List.mem_singleton.mp hp]; exact ⟨hg₁ _ _ ht, h76L, h76⟩
  have hlenv : vs.length = ps.length := Paired.length hs
  have h76c : (76 : Addr) ≠ s.heap.objs.size + 1 := Nat.ne_of_lt (Nat.lt_succ_of_lt (Heap.lt_size ht))
  iterate 11 walk1
  rename Fr _ _ _ _ => F
  rename News _ _ _ _ => N
  rename _ ∧ _ ∧ _ => hlt
  with_reducible rename Heap => h₂
  rename_i u0 _ hlt0 a _ _
  show wpAny (model prog w) _ _ _ _ { s with heap := h₂, toks := _ }
  have hL₂ : h₂.IsList l vs.toArray := ⟨_, F.keep _ _ hl, rfl, _, rfl⟩
  with_reducible refine wpAny_execs_cons (wpAny_For ?_ (by intro _; with_unfolding_all rfl))
  iterate 10 walk1
  with_reducible refine call_len_list hL₂ (by rw [List.size_toArray]; omega) ?_
  iterate 2 walk1
  rename IsRange _ _ _ _ _ _ _ _ => hr
  rename News _ _ _ _ => N
  rename Fr _ _ _ _ => F
  rename (∀ b o, _ → _) => hk
  have he : ((vs.toArray.size : Nat) : Int) = 0 + (ps.length : Int) := by rw [List.size_toArray, hlenv]; omega
  rw [he] at hr
  with_reducible rename Heap => h₃
  show wpAny (model prog w) _ (pyIter (.ref h₂.objs.size)) _ _ { s with heap := h₃, toks := _ }
  generalize h₂.objs.size = rr at hr ⊢
  have N' := texts0 F N hdc
  clear F N hk hL₂
  obtain ⟨a, u0, hac, huc, N, F⟩ := N'
  refine iterRangeN (L := s.heap.objs.size) (n := ps.length) (news := [(a, listOf (List.toArray [Value.ref u0]) 0), (s.heap.objs.size + 1, oc), (76, tab), (u0, listOf (List.toArray []) 0)]) rfl
    (fun i m nx => m (Str.ofString "pieces") = some (.ref l) ∧ ∃ a n mv tl oc cv, m (Str.ofString "mixtures") = some (.ref a) ∧ nx = (a, listOf (List.toArray mv) n) :: (s.heap.objs.size + 1, oc) :: (76, tab) :: tl ∧ oc.data = .cell cv ∧ a ≠ s.heap.objs.size + 1 ∧
      (∀ p ∈ tl, p.1 ≠ s.heap.objs.size + 1) ∧ Paired (WordIn tl) mv (mixTo ps i))
    (by exact hh) rfl rfl hr (range_small (by omega) (by omega) (by omega) (by omega)) (range_size rfl) F N
    ⟨rfl, a, 0, [.ref u0], [(u0, listOf (List.toArray []) 0)], oc, none, rfl, rfl, hdc, hac, fun p hp => by rw [List.mem_singleton.mp hp]; exact huc, .cons ⟨u0, [], 0, rfl, .head _, .nil⟩ .nil⟩ ?_ ?_
  · clear F N
    rintro R1 i m nx h tk I oI t hi ⟨hmp, a, n, mv, tl, oc, cv, hma, rfl, hoc, hac, htl, hW⟩ hne F N
    show wpAny (model prog w) _ _ _ _ { s with heap := h, toks := tk }
    have hLh : h.IsList l vs.toArray := ⟨_, F.keep _ _ hl, rfl, _, rfl⟩
    obtain ⟨p, hp⟩ : ∃ p, ps[i]? = some p := ⟨_, List.getElem?_eq_getElem hi⟩
    obtain ⟨v, hv, hpv⟩ := paired_get hs hp
    have e0 : (0 : Int) + (i : Int) = i := by omega
    rw [e0] at F
    with_reducible refine wpAny_execs_cons ?_
    refine wpAny_mono (Q := Chosen s (hideAll s.heap [76]) s.heap.objs.size (s.heap.objs.size + 1) (fun y => if y = Str.ofString "i" then some (Value.int i t) else m y) ((I, oI) :: (a, listOf (List.toArray mv) n) :: (76, tab) :: tl) (choicesOf ps.length i p)) (E := fun _ _ => False) ?_ ?_ (fun _ _ e => e)
    · iterate 5 walk1
      with_reducible refine itemL hLh (by omega) (by omega) (x := v) (by simpa using hv) ?_ (by with_unfolding_all rfl)
      cases p with
      | some x =>
        obtain ⟨t', rfl⟩ := hpv
        iterate 13 walk1
        with_reducible refine itemL hLh (by omega) (by omega) (x := .str x t') (by simpa using hv) ?_ (by with_unfolding_all rfl)
        iterate 4 walk1
        rename Fr _ _ _ _ => F'
        rename News _ _ _ _ => N'
        rename _ < _ ∧ _ => hlt
        refine chosen_store (ctl := [(_, listOf (List.toArray [.str x t']) 0)]) (cvs := [.ref _]) F' N' hoc (Nat.ne_of_gt hlt.2.2.2.1) ?_ (Ne.symm (hne _ (.tail _ (.head _)))) hac h76c htl (.cons ⟨_, _, _, rfl, .head _, .cons x t' .nil⟩ .nil) rfl rfl rfl (fun s' hch => wpAny_execs_nil hch)
        intro p hp
        rw [List.mem_singleton.mp hp]
        exact ne_cell N' (.tail _ (.head _)) (.tail _ (.tail _ (.tail _ (.tail _ (.head _))))) hoc
      | none =>
        obtain rfl := hpv
        iterate 4 walk1
        iterate 7 walk1
        by_cases hi0 : i = 0
        · rw [if_pos (by subst hi0; rfl)]
          iterate 12 walk1
          rename Fr _ _ _ _ => F'
          rename News _ _ _ _ => N'
          rw [show choicesOf ps.length i none = [[cS]] by unfold choicesOf; rw [if_pos hi0]]
          refine chosen_store (ctl := [(_, listOf (List.toArray [.str cS _]) 0)]) (cvs := [.ref _]) F' N' hoc (ne_cell N' (.head _) (.tail _ (.tail _ (.tail _ (.tail _ (.head _))))) hoc) ?_ (Ne.symm (hne _ (.tail _ (.head _)))) hac h76c htl (.cons ⟨_, _, _, rfl, .head _, .cons cS _ .nil⟩ .nil) rfl rfl rfl (fun s' hch => wpAny_execs_nil (wpAny_execs_nil hch))
          intro p hp
          rw [List.mem_singleton.mp hp]
          exact ne_cell N' (.tail _ (.head _)) (.tail _ (.tail _ (.tail _ (.tail _ (.head _))))) hoc
        · rw [if_neg (by simp only [beq_iff_eq]; omega)]
          iterate 12 walk1
          with_reducible refine call_len_list hLh (by rw [List.size_toArray]; omega) ?_
          iterate 4 walk1
          by_cases hi1 : i = ps.length - 1
          · rw [if_pos (by simp only [beq_iff_eq, List.size_toArray]; omega)]
            iterate 10 walk1
            rename Fr _ _ _ _ => F'
            rename News _ _ _ _ => N'
            rw [show choicesOf ps.length i none = [[]] by unfold choicesOf; rw [if_neg hi0, if_pos hi1]]
            refine chosen_store (ctl := [(_, listOf (List.toArray []) 0)]) (cvs := [.ref _]) F' N' hoc (ne_cell N' (.head _) (.tail _ (.tail _ (.tail _ (.tail _ (.head _))))) hoc) ?_ (Ne.symm (hne _ (.tail _ (.head _)))) hac h76c htl (.cons ⟨_, _, _, rfl, .head _, .nil⟩ .nil) rfl rfl rfl (fun s' hch => wpAny_execs_nil (wpAny_execs_nil (wpAny_execs_nil hch)))
            intro p hp
            rw [List.mem_singleton.mp hp]
            exact ne_cell N' (.tail _ (.head _)) (.tail _ (.tail _ (.tail _ (.tail _ (.head _))))) hoc
          · rw [if_neg (by simp only [beq_iff_eq, List.size_toArray]; omega)]
            iterate 16 walk1
            rename Fr _ _ _ _ => F'
            rename News _ _ _ _ => N'
            rw [show choicesOf ps.length i none = [[cS], []] by unfold choicesOf; rw [if_neg hi0, if_neg hi1]]
            refine chosen_store (ctl := [(_, listOf (List.toArray []) 0), (_, listOf (List.toArray [.str cS _]) 0)]) (cvs := [.ref _, .ref _]) F' N' hoc (ne_cell N' (.head _) (.tail _ (.tail _ (.tail _ (.tail _ (.tail _ (.head _)))))) hoc) ?_ (Ne.symm (hne _ (.tail _ (.head _)))) hac h76c htl (.cons ⟨_, _, _, rfl, .tail _ (.head _), .cons cS _ .nil⟩ (.cons ⟨_, _, _, rfl, .head _, .nil⟩ .nil)) rfl rfl rfl (fun s' hch => wpAny_execs_nil (wpAny_execs_nil (wpAny_execs_nil hch)))
            intro p hp
            rcases List.mem_cons.mp hp with rfl | hp
            · exact ne_cell N' (.tail _ (.head _)) (.tail _ (.tail _ (.tail _ (.tail _ (.tail _ (.head _)))))) hoc
            · rw [List.mem_singleton.mp hp]
              exact ne_cell N' (.tail _ (.tail _ (.head _))) (.tail _ (.tail _ (.tail _ (.tail _ (.tail _ (.head _)))))) hoc
    · rintro f s' ⟨rfl, h', tk', oc', cb, cvs, ncb, ctl, rfl, F', N', hoc', hcw, hctl, hcbc⟩
      show wpAny (model prog w) _ (execs _ _) _ _ { s with heap := h', toks := tk' }
      with_reducible refine wpAny_execs_cons ?_
      have hW' : Paired (WordIn tl) mv (mixTo ps i) := hW
      have ha' := N' (a, listOf (List.toArray mv) n) (.tail _ (.tail _ (List.mem_append_right _ (.tail _ (.head _)))))
      have hb' := N' (cb, listOf (List.toArray cvs) ncb) (.tail _ (.head _))
      have hc' := N' (s.heap.objs.size + 1, oc') (.head _)
      have hlm : mv.length = (mixTo ps i).length := Paired.length hW
      have hlc : cvs.length = (choicesOf ps.length i p).length := Paired.length hcw
      refine assignComp2 (cl := [(Str.ofString "choices", s.heap.objs.size + 1)]) (ax := a) (bx := cb) (vs := mv) (ch := cvs) (m := fun y => if y = Str.ofString "i" then some (Value.int i t) else m y)
        (fun C k j ys hp => Paired (WordAt C hp) ys (mixStep ((mixTo ps i).take k) (choicesOf ps.length i p) ++ (match (mixTo ps i)[k]? with | some w => ((choicesOf ps.length i p).take j).map (w ++ ·) | none => [])))
        (by with_unfolding_all rfl) (by with_unfolding_all rfl) (by decide) (by with_unfolding_all rfl) (by with_unfolding_all decide) (by with_unfolding_all rfl) (by with_unfolding_all rfl) (by decide) (by with_unfolding_all rfl) (by with_unfolding_all rfl) (by intro _; with_unfolding_all rfl) (by intro _ _; with_unfolding_all rfl) (by exact hh) ⟨_, ha'.1, rfl, _, rfl⟩ ⟨_, hb'.1, rfl, _, rfl⟩ (by with_unfolding_all exact F'.ns) ?_ ?_ ?_ ?_ ?_ ?_ ?_ ?_
      · have h1 := mixTo_length ps i
        have h2 := (choicesOf_length ps.length i p).2
        have h3 : 2 ^ i ≤ 2 ^ 5 := Nat.pow_le_pow_right (by decide) (by omega)
        rw [hlm, hlc]
        exact Nat.le_trans (Nat.mul_le_mul (Nat.le_trans h1 h3) h2) (by decide)
      · intro Q' E' hq
        with_reducible refine nameL (by with_unfolding_all exact F'.ns) (v := .ref a) ?_ hq (by with_unfolding_all rfl) (by with_unfolding_all rfl) (by decide)
        rw [if_neg (by decide)]; exact hma
      · intro C hp'
        rw [List.take_zero, List.take_zero]
        split <;> exact Paired.nil
      · intro C k j ys g g' hJ hk
        exact paired_mono (fun v wd hx => by
          obtain ⟨b, us, nn', rfl, h1, h2, h3⟩ := hx
          exact ⟨b, us, nn', rfl, h1, hk b _ h1 rfl h2, h3⟩) hJ
      · intro C k ys g hJ
        rw [List.take_zero]
        rw [hlc, List.take_of_length_le (Nat.le_refl _)] at hJ
        have e : (match (mixTo ps i)[k + 1]? with | some w => List.map (w ++ ·) ([] : List (List Str)) | none => []) = [] := by split <;> rfl
        rw [e, List.append_nil]
        cases hk : (mixTo ps i)[k]? with
        | none =>
          rw [hk] at hJ
          dsimp only at hJ
          rw [List.append_nil] at hJ
          have hlk : (mixTo ps i).length ≤ k := List.getElem?_eq_none_iff.mp hk
          rw [List.take_of_length_le (by omega)]
          rw [List.take_of_length_le hlk] at hJ
          exact hJ
        | some wd =>
          rw [hk] at hJ
          dsimp only at hJ
          rw [mixStep_next hk]
          exact hJ
      · intro C g tk2 m₂ Q' E' hC hn hkp hq
        have hcl : g.IsCell (s.heap.objs.size + 1) (some (.ref cb)) := ⟨oc', hkp _ _ hc'.1, hoc'⟩
        with_reducible refine nameC (c := s.heap.objs.size + 1) (by with_unfolding_all rfl) (v := .ref cb) hcl hq (by with_unfolding_all rfl) (by with_unfolding_all rfl) (by decide)
      · intro C k j v u ys g tk2 m₂ hC hv hu hn hmx hmy hkp hJ
        obtain ⟨wd, hwd, b1, us1, n1, rfl, hm1, hs1⟩ := paired_getL hW hv
        obtain ⟨cd, hcd, b2, us2, n2, rfl, hm2, hs2⟩ := paired_getL hcw hu
        have o1 := hkp _ _ (N' (b1, listOf (List.toArray us1) n1) (.tail _ (.tail _ (List.mem_append_right _ (.tail _ (.tail _ (.tail _ hm1))))))).1
        have o2 := hkp _ _ (N' (b2, listOf (List.toArray us2) n2) (.tail _ (.tail _ (List.mem_append_left _ hm2)))).1
        have ok1 := mixTo_ok hsm i wd (List.mem_of_getElem? hwd)
        have ok2 := choices_ok (n := ps.length) (i := i) (hsm p (List.mem_of_getElem? hp)) cd (List.mem_of_getElem? hcd)
        have l1 : us1.length = wd.length := hs1.length
        have l2 : us2.length = cd.length := hs2.length
        have := ok1.1
        have := ok2.1
        with_reducible refine wpAny_BinOp ?_
        with_reducible refine nameL (by with_unfolding_all exact hn) hmx ?_ (by with_unfolding_all rfl) (by with_unfolding_all rfl) (by decide)
        with_reducible refine nameL (by with_unfolding_all exact hn) hmy ?_ (by with_unfolding_all rfl) (by with_unfolding_all rfl) (by decide)
        refine addL ⟨_, o1, rfl, _, rfl⟩ ⟨_, o2, rfl, _, rfl⟩ ?_ (by rw [sizeLine_eq]; omega)
        refine ⟨_, tk2, rfl, grows_push, ?_⟩
        have hgs : C < g.objs.size := hn.lt
        have hw' : WordAt C (g.push (listOf (List.toArray (us1 ++ us2)) 0)) (.ref g.objs.size) (wd ++ cd) := ⟨_, us1 ++ us2, 0, rfl, hgs, Heap.get?_push_size _ rfl, hs1.append' hs2⟩
        have hold := paired_mono (G := WordAt C (g.push (listOf (List.toArray (us1 ++ us2)) 0))) (fun v wd hx => by
          obtain ⟨b, us, nn', rfl, h1, h2, h3⟩ := hx
          exact ⟨b, us, nn', rfl, h1, Heap.get?_push_of_some _ h2, h3⟩) hJ
        show Paired _ (ys ++ [Value.ref g.objs.size]) _
        rw [hwd] at hold ⊢
        dsimp only at hold ⊢
        rw [mixStep_take hwd hcd]
        exact paired_append hold (.cons hw' .nil)
      · intro Dd C g tk2 ys hDn hC hpl hJ hn hkp
        have hlast : mixStep ((mixTo ps i).take mv.length) (choicesOf ps.length i p) ++ (match (mixTo ps i)[mv.length]? with | some w => ((choicesOf ps.length i p).take 0).map (w ++ ·) | none => []) = mixTo ps (i + 1) := by
          rw [hlm, List.getElem?_eq_none (Nat.le_refl _), List.take_of_length_le (Nat.le_refl _), List.append_nil]
          show _ = mixStep (mixTo ps i) (choicesOf ps.length i (ps.getD i none))
          rw [List.getD_eq_getElem?_getD, hp]; rfl
        rw [hlast] at hJ
        obtain ⟨F₂, n₂, tl₂, N₂, k1, k2, k3, k4⟩ := turn_ledger (I := I) (oI := oI) (c := s.heap.objs.size + 1) (oc := oc') (tab := tab) F' N' (.tail _ (.tail _ (List.mem_append_right _ (.head _)))) (.head _) (.tail _ (.tail _ (List.mem_append_right _ (.tail _ (.tail _ (.head _))))))
          (hne _ (.tail _ (.head _))) (hne _ (.tail _ (.tail _ (.head _)))) hDn hC hpl hJ hn hkp
        refine wpAny_execs_nil ⟨g, tk2, _, _, rfl, F₂, N₂, k1, ?_, Dd, n₂, ys, tl₂, oc', _, ?_, rfl, hoc', k2, k3, k4⟩
        · show (if Str.ofString "pieces" = Str.ofString "mixtures" then _ else if Str.ofString "pieces" = Str.ofString "i" then _ else m (Str.ofString "pieces")) = _
          rw [if_neg (by decide), if_neg (by decide)]; exact hmp
        · show (if Str.ofString "mixtures" = Str.ofString "mixtures" then _ else _) = _
          rw [if_pos rfl]
  · clear F N
    rintro m nx h tk ⟨hmp, a, n, mv, tl, oc, cv, hma, rfl, hoc, hac, htl, hW⟩ F N
    show wpAny (model prog w) _ _ _ _ { s with heap := h, toks := tk }
    iterate 6 walk1
    have haO := (N (a, listOf (List.toArray mv) n) (.head _)).1
    have hLa : h.IsList a mv.toArray := ⟨_, haO, rfl, _, rfl⟩
    have hlm : mv.length = (mixes ps).length := Paired.length hW
    have hml : (mixes ps).length ≤ 32 := Nat.le_trans (mixTo_length ps ps.length) (Nat.pow_le_pow_right (by decide) h5)
    with_reducible refine listComp1 (cl := []) (by with_unfolding_all rfl) (by decide) (by with_unfolding_all rfl) (by with_unfolding_all decide) (by with_unfolding_all rfl) ?_ (by intro _; with_unfolding_all rfl)
    walk1
    with_reducible refine wpAny_pyIter_list hLa ?_
    have hne : a ≠ h.objs.size := Nat.ne_of_lt (Heap.lt_size haO)
    refine ⟨h.objs.size, [h.objs.size, a], [h.objs.size], mv.toArray.size, _, _, fun _ i ys _ => StrsAre ys (((mixes ps).take i).map joinDot), rfl, Walks.list (by exact hh) _ a hne mv.toArray, ?_, ?_, ?_, fun _ _ => .nil, ?_, ?_, ?_⟩
    · rw [List.size_toArray, sizeLine_eq]; omega
    · exact ⟨⟨_, Heap.get?_push_size _ rfl, rfl, rfl⟩, hLa.at fun o e => Heap.get?_push_of_some _ e⟩
    · intro b hb
      show _ < (h.push _).objs.size
      rw [Heap.size_push]
      rcases List.mem_cons.mp hb with rfl | hb
      · exact Nat.lt_succ_self _
      · rw [List.mem_singleton.mp hb]; exact Nat.lt_succ_of_lt (Heap.lt_size haO)
    · exact fun _ _ _ _ _ hj _ => hj
    · intro C i v ys g tk2 m₂ hC hi hv hn hm hold hj
      unfold TurnC
      with_reducible refine wpAny_tests_nil ?_
      refine ⟨g, tk2, rfl, fun _ _ e => e, ?_⟩
      rw [if_pos rfl]
      obtain ⟨wd, hwd, b1, us1, n1, rfl, hm1, hs1⟩ := paired_getL hW (i := i) (a := v) (by simpa using hv)
      have o1 := hold _ _ (by have := Heap.lt_size (N _ (.tail _ (.tail _ (.tail _ hm1)))).1; simp; exact Nat.ne_of_lt this) (Heap.get?_push_of_some _ (N _ (.tail _ (.tail _ (.tail _ hm1)))).1)
      have Fc := fr0 hn
      clear F
      show wpAny (model prog w) _ _ _ _ { s with heap := g, toks := tk2 }
      iterate 8 walk1
      have ok1 := mixTo_ok hsm ps.length wd (List.mem_of_getElem? hwd)
      have hws := word_sum wd ok1.2
      have hwl := ok1.1
      refine join_list (D := b1) (items := us1.toArray) (ys := wd) ⟨_, o1, rfl, _, rfl⟩ (by simpa using hs1) (by show _ + wd.length * 1 ≤ _; omega) fun t' k => ?_
      refine ⟨g, _, rfl, fun _ _ e => e, ?_⟩
      show StrsAre (ys ++ [Value.str (Txt.join dotS wd) t']) (((mixes ps).take (i + 1)).map joinDot)
      rw [List.take_add_one, show (mixes ps)[i]? = some wd from hwd, List.map_append, joinDot_join]
      exact hj.append' (.cons _ _ .nil)
    · intro D' C h₂ tk₂ ys hD hC hDC hpl hj hle hold
      rw [List.take_of_length_le (by rw [List.size_toArray]; omega)] at hj
      have g12 : Grows h h₂ := fun b o e => hold b o (by have := Heap.lt_size e; simp; exact Nat.ne_of_lt this) (Heap.get?_push_of_some _ e)
      obtain ⟨nD, hDo⟩ := hpl
      have F₂ := F.keeps g12
      have N₂ : News (hideAll s.heap [76]) s.heap.objs.size h₂ ((a, listOf (List.toArray mv) n) :: (s.heap.objs.size + 1, oc) :: (76, tab) :: tl) := fun p hp => ⟨g12 _ _ (N p hp).1, (N p hp).2⟩
      clear F N
      show wpAny (model prog w) _ _ _ _ { s with heap := h₂, toks := tk₂ }
      walk1
      refine ⟨Dg.X.keeps F₂.keep, ?_⟩
      refine first_ (Dg.keeps F₂.keep) (by show A.depth + 1 < recursionLimit; omega) (by exact hh) hDo hj (by show ((mixes ps).map joinDot).length ≤ 1000; rw [List.length_map]; omega) ?_
      intro t vt nt h₃ tk₃ ht0 hto hts g23
      have F₃ := F₂.keeps g23
      have N₃ : News (hideAll s.heap [76]) s.heap.objs.size h₃ ((t, listOf vt.toArray nt) :: (76, tab) :: []) := by
        intro p hp
        rcases List.mem_cons.mp hp with rfl | hp
        · refine ⟨hto, ?_, ?_⟩
          · rintro rfl
            obtain ⟨o, _, _, ho, _⟩ := F₂.ns
            rw [ht0] at ho; cases ho
          · cases e : (hideAll s.heap [76]).get? t with
            | none => rfl
            | some o => have := F₂.keep _ _ e; rw [ht0] at this; cases this
        · rw [List.mem_singleton.mp hp]
          have := N₂ (76, tab) (.tail _ (.tail _ (.head _)))
          exact ⟨g23 _ _ this.1, this.2⟩
      clear F₂ N₂
      show wpAny (model prog w) _ _ _ _ { s with heap := h₃, toks := tk₃ }
      iterate 11 walk1
      rename Fr _ _ _ _ => F₄
      rename News _ _ _ _ => N₄
      with_reducible rename Heap => h₄
      show wpAny (model prog w) _ _ _ _ { s with heap := h₄, toks := _ }
      have ht76 : t ≠ 76 := by
        intro e
        have h1 := (N₄ _ (.head _)).1
        have h2 := (N₄ _ (.tail _ (.head _))).1
        rw [show (t, listOf vt.toArray nt).1 = 76 from e] at h1
        rcases htab with rfl | ⟨_, rfl, _⟩ <;> (rw [h1] at h2; cases h2)
      refine kla_eval rfl ?_
      refine lam_make (cn := Str.ofString "_law_texts") (qual := lamQual) (pos := lamPos) F₄ N₄ ht76 T hCd htab rfl ?_
      intro f c' ctv tab' h₅ tk₅ F₅ N₅ hf76 htab' hrec
      clear F₄ N₄
      walk1
      show wpAny (model prog w) _ (call (.builtin "sorted") [.ref t] [(Str.ofString "key", .ref f)]) _ _ { s with heap := h₅, toks := _ }
      have hxl : (firsts (textsAll ps)).length ≤ 32 := Nat.le_trans (firsts_length_le _) (by unfold textsAll; rw [List.length_map]; exact hml)
      have hx1 := texts_pos ps
      have ht5 : h₅.IsList t vt.toArray := ⟨_, (N₅ _ (.tail _ (.head _))).1, rfl, _, rfl⟩
      have h765 := (N₅ _ (.tail _ (.tail _ (.head _)))).1
      have hf5 := (N₅ _ (.head _)).1
      refine sorted_strs (KP := LamKP (firsts (textsAll ps))) (T := .type "list") (s := { s with heap := h₅, toks := _ }) (xs := firsts (textsAll ps)) (firsts_nodup _) hx1 (by omega) (col_list ht5 hts (by omega)) ?_ (lam_types _) (by decide) (by decide) (lam_cmp (by show A.units + 3 + 1 + 1 < cLine; omega)) ?_
      · intro i x tx g tkg hx hg
        have kg : ∀ b o, (hideAll s.heap [76]).get? b = some o → g.get? b = some o := fun b o e => hg _ _ (F₅.keep b o e)
        have Dl := Dg.keeps kg
        unfold KeyCall
        refine enterLam (s := { s with heap := g, toks := tkg }) (binds := [(Str.ofString "name", .str x tx)]) Dl (by show A.depth + 1 < recursionLimit; omega) (hg _ _ hf5) (hrec.keeps hg) rfl (locs rfl) ?_ (by decide) rfl rfl rfl
        intro g₁ Fl
        with_reducible refine listComp1 (cl := []) (by with_unfolding_all rfl) (by decide) (by with_unfolding_all rfl) (by with_unfolding_all decide) (by with_unfolding_all rfl) ?_ (by intro _; with_unfolding_all rfl)
        have kg1 := Fl.keep
        with_reducible refine nameL (by with_unfolding_all exact Fl.ns) (v := .str x tx) (by with_unfolding_all rfl) ?_ (by with_unfolding_all rfl) (by with_unfolding_all rfl) (by decide)
        refine wpAny_pyIter_str ?_
        intro oI St W st
        have hxx : (firsts (textsAll ps)).getD i (Str.ofString "") = x := by rw [List.getD_eq_getElem?_getD, hx]; rfl
        refine ⟨g₁.objs.size, [g₁.objs.size], [g₁.objs.size], x.cps.size, SignAt x, St, fun _ i ys _ => IntsAre ys ((x.cps.toList.take i).map Int.ofNat), rfl, W _ (by exact hh), ?_, st, ?_, fun _ _ => .nil, fun _ _ _ _ _ hj _ => hj, ?_, ?_⟩
        · have := texts_small h5 hsm x (firsts_mem.mp (List.mem_of_getElem? hx))
          have : x.cps.size ≤ 20 := this
          rw [sizeLine_eq]; omega
        · intro b hb
          rw [List.mem_singleton.mp hb]
          show _ < (g₁.push _).objs.size
          rw [Heap.size_push]; exact Nat.lt_succ_self _
        · intro C j v ys k tkk m₂ hC hj hv hn hm hold hI
          obtain ⟨c, u, hc, rfl⟩ := hv
          have kk : ∀ b o, g₁.get? b = some o → k.get? b = some o := fun b o e => hold b o (by have := Heap.lt_size e; simp; exact Nat.ne_of_lt this) (Heap.get?_push_of_some _ e)
          have hab : (hideAll s.heap [76]).objs.size ≤ C := by
            obtain ⟨o, _, _, ho, _⟩ := F₅.ns
            have h1 : @LT.lt Nat instLTNat s.heap.objs.size g₁.objs.size := Heap.lt_size (kg1 _ _ (hg _ _ ho))
            have h2 : @LT.lt Nat instLTNat (g₁.push oI).objs.size C := hC
            rw [Heap.size_push] at h2
            rw [hideAll_size]
            show @LE.le Nat instLENat s.heap.objs.size C
            omega
          have Fc : Fr (hideAll s.heap [76]) C k m₂ := ⟨hn, fun b o e => kk b o (kg1 b o (kg b o e)), hab⟩
          clear F₅ N₅ Fl
          have Nc : News (hideAll s.heap [76]) C k [] := News.nil
          unfold TurnC
          with_reducible refine wpAny_tests_nil ?_
          refine ⟨k, tkk, rfl, fun _ _ e => e, ?_⟩
          rw [if_pos rfl]
          show wpAny (model prog w) _ _ _ _ { s with heap := k, toks := tkk }
          iterate 7 walk1
          refine P.ord_of_char ?_
          refine ⟨k, _, rfl, fun _ _ e => e, ?_⟩
          show IntsAre (ys ++ [Value.int (c : Int) _]) _
          rw [List.take_add_one, show x.cps.toList[j]? = some c from by simpa using hc, List.map_append]
          exact hI.append (.cons _ _ .nil)
        · intro D' C k tkk ys hD hC hDC hpl hI hle hold
          have kk : ∀ b o, g₁.get? b = some o → k.get? b = some o := fun b o e => hold b o (by have := Heap.lt_size e; simp; exact Nat.ne_of_lt this) (Heap.get?_push_of_some _ e)
          obtain ⟨nd, hpl⟩ := hpl
          rw [List.take_of_length_le (by simp)] at hI
          refine ⟨k, tkk, some (D', listOf (List.toArray ys) nd), rfl, fun b o e => kk b o (kg1 b o e), ⟨D', ys, nd, rfl, rfl, by rw [hxx]; exact hI⟩, ?_⟩
          rintro p hp
          cases hp
          refine ⟨?_, hpl⟩
          cases e : g.get? D' with
          | none => rfl
          | some o => exact absurd (hD.symm.trans (Heap.get?_push_of_some _ (kg1 _ _ e))) (fun q => nomatch q)
      · intro Dd vs' ys h₆ tk₆ c6 hDn hDo hss hri hpm g56
        refine hQ Dd vs' c6 ys tab' h₆ tk₆ ?_ hDo hss hri hpm (fun b o e => g56 _ _ (F₅.keep b o e)) (g56 _ _ h765) (htab'.keeps (hide_grows g56))
        cases e : s.heap.get? Dd with
        | none => rfl
        | some o =>
          by_cases hd : Dd = 76
          · rw [hd] at hDn; rw [show h₅.get? 76 = none from hDn] at h765; cases h765
          · exact absurd (hDn.symm.trans (F₅.keep _ _ (hideAll_get _ e (by simpa using hd)))) (fun q => nomatch q)
end
end

section
/-! lists of texts, of pieces, of pairs as data -/
def Fine (p : Pc) : Prop := ∀ x, p = some x → PyData.strOk x = true
def pcD (p : Pc) : PyData := match p with | none => .none | some x => .str x
def pairD (x : Str) : PyData := .tuple [.str x, .none]

theorem reads_strs {h : Heap} : ∀ {vs : List Value} {xs : List Str}, StrsAre vs xs → ReadsAll h vs (xs.map .str) []
  | _, _, .nil => .nil
  | _, _, .cons x t r => readsAll_cons_val (.str x t) (reads_strs r)
theorem reads_pcs {h : Heap} : ∀ {vs : List Value} {ps : List Pc}, PVs vs ps → ReadsAll h vs (ps.map pcD) []
  | _, _, .nil => .nil
  | _, _, .cons (b := p) x r => by
    refine readsAll_cons_val ?_ (reads_pcs r)
    cases p with
    | none => cases x; exact .none
    | some y => obtain ⟨t, rfl⟩ := x; exact .str y t
/-- a pair of a text and None -/
def PairAt (h : Heap) (v : Value) (x : Str) : Prop := ∃ a o t n, v = .ref a ∧ h.get? a = some o ∧ o.cls = .type "tuple" ∧ o.data = .seq #[.str x t, .none] n
/-- a pair above C -/
def PairUp (C : Addr) (h : Heap) (v : Value) (x : Str) : Prop := ∃ a o t n, v = .ref a ∧ C < a ∧ h.get? a = some o ∧ o.cls = .type "tuple" ∧ o.data = .seq #[.str x t, .none] n
theorem PairAt.keeps {h h' : Heap} {v : Value} {x : Str} (k : Grows h h') (p : PairAt h v x) : PairAt h' v x :=
  let ⟨a, o, t, n, e, h1, h2, h3⟩ := p; ⟨a, o, t, n, e, k _ _ h1, h2, h3⟩
theorem reads_pairs {h : Heap} : ∀ {vs : List Value} {xs : List Str}, Paired (PairAt h) vs xs → ReadsAll h vs (xs.map pairD) []
  | _, _, .nil => .nil
  | _, _, .cons (b := y) x r => by
    obtain ⟨a, o, t, n, rfl, h1, h2, h3⟩ := x
    exact readsAll_cons_val (reads_tuple_at h1 h2 h3 (readsAll_cons_val (.str y t) (readsAll_cons_val .none .nil))) (reads_pairs r)
theorem reads_of {h : Heap} {a : Addr} {vs : List Value} {ds : List PyData} (hl : h.IsList a vs.toArray) (r : ReadsAll h vs ds []) : Reads h (.ref a) (.list ds) [a] := by
  obtain ⟨o, ho, hc, n, hd⟩ := hl
  exact reads_list_at ho hc hd (by simpa using r)

theorem eqv_strs : ∀ xs ys : List Str, PyData.eqv (.list (xs.map .str)) (.list (ys.map .str)) = decide (xs = ys)
  | [], [] => by simp [PyData.eqv, PyData.eqvAll]
  | [], _ :: _ => by simp [PyData.eqv, PyData.eqvAll]
  | _ :: _, [] => by simp [PyData.eqv, PyData.eqvAll]
  | a :: r, b :: t => by
    have ih := eqv_strs r t
    simp only [PyData.eqv] at ih
    simp only [PyData.eqv, List.map_cons, PyData.eqvAll, ih]
    by_cases h : a = b <;> by_cases h' : r = t <;> simp [h, h']
theorem eqv_pcs : ∀ ps : List Pc, PyData.eqv (.list (ps.map pcD)) (.list (ps.map pcD)) = true
  | [] => by simp [PyData.eqv, PyData.eqvAll]
  | p :: r => by
    have ih := eqv_pcs r
    simp only [PyData.eqv] at ih
    cases p <;> simp [PyData.eqv, PyData.eqvAll, pcD, ih]
theorem eqv_pairs : ∀ xs : List Str, PyData.eqv (.list (xs.map pairD)) (.list (xs.map pairD)) = true
  | [] => by simp [PyData.eqv, PyData.eqvAll]
  | x :: r => by
    have ih := eqv_pairs r
    simp only [PyData.eqv] at ih
    simp [PyData.eqv, PyData.eqvAll, pairD, ih]
theorem lay_strs : ∀ {xs : List Str}, (∀ x ∈ xs, PyData.strOk x = true) → PyData.canLayAll0 (xs.map .str) = true
  | [], _ => rfl
  | x :: r, h => by
    simp [PyData.canLayAll0, PyData.canLay0, h x (.head _), lay_strs fun y hy => h y (.tail _ hy)]
theorem lay_pcs : ∀ {ps : List Pc}, (∀ p ∈ ps, Fine p) → PyData.canLayAll0 (ps.map pcD) = true
  | [], _ => rfl
  | p :: r, h => by
    have h1 := h p (.head _)
    cases p with
    | none => simp [PyData.canLayAll0, PyData.canLay0, pcD, lay_pcs fun y hy => h y (.tail _ hy)]
    | some x => simp [PyData.canLayAll0, PyData.canLay0, pcD, h1 x rfl, lay_pcs fun y hy => h y (.tail _ hy)]
theorem lay_pairs : ∀ {xs : List Str}, (∀ x ∈ xs, PyData.strOk x = true) → PyData.canLayAll0 (xs.map pairD) = true
  | [], _ => rfl
  | x :: r, h => by
    simp [PyData.canLayAll0, PyData.canLay0, pairD, h x (.head _), lay_pairs fun y hy => h y (.tail _ hy)]
theorem deep_strs : ∀ xs : List Str, PyData.depthAll (xs.map .str) = 0
  | [] => rfl
  | _ :: r => by simp [PyData.depthAll, PyData.depth, deep_strs r]
theorem deep_pcs : ∀ ps : List Pc, PyData.depthAll (ps.map pcD) = 0
  | [] => rfl
  | p :: r => by cases p <;> simp [PyData.depthAll, PyData.depth, pcD, deep_pcs r]
theorem deep_pairs : ∀ xs : List Str, PyData.depthAll (xs.map pairD) ≤ 1
  | [] => Nat.zero_le _
  | _ :: r => by
    have := deep_pairs r
    simp [PyData.depthAll, PyData.depth, pairD]
    omega
theorem shaped_strs {xs : List Str} (h : ∀ x ∈ xs, PyData.strOk x = true) : SeqAt.shaped (.list (xs.map .str)) = true := by
  simp [SeqAt.shaped, PyData.canLay0, PyData.depth, lay_strs h, deep_strs]
theorem shaped_pcs {ps : List Pc} (h : ∀ p ∈ ps, Fine p) : SeqAt.shaped (.list (ps.map pcD)) = true := by
  simp [SeqAt.shaped, PyData.canLay0, PyData.depth, lay_pcs h, deep_pcs]
theorem shaped_pairs {xs : List Str} (h : ∀ x ∈ xs, PyData.strOk x = true) : SeqAt.shaped (.list (xs.map pairD)) = true := by
  have := deep_pairs xs
  simp [SeqAt.shaped, PyData.canLay0, PyData.depth, lay_pairs h]
  omega

section
variable {prog : Program} {w : World} {A : Around} {E : Value → Shared → Prop} {s : Shared} {Q : Value → Shared → Prop}
theorem eq_texts {a b : Addr} {vs us : List Value} {xs ys : List Str} (ha : s.heap.IsList a vs.toArray) (hb : s.heap.IsList b us.toArray) (hx : StrsAre vs xs) (hy : StrsAre us ys) (ox : ∀ x ∈ xs, PyData.strOk x = true) (oy : ∀ x ∈ ys, PyData.strOk x = true) (hu : A.units + 64 < cLine)
    (h : Q (.bool (decide (xs = ys))) s) : wpAny (model prog w) A (compareOp .Eq (.ref a) (.ref b)) Q E s :=
  eq_dataH (reads_of ha (reads_strs hx)) (reads_of hb (reads_strs hy)) (shaped_strs ox) (shaped_strs oy) hu (by rw [eqv_strs]; exact h)
theorem ne_texts_same {a b : Addr} {vs us : List Value} {xs : List Str} (ha : s.heap.IsList a vs.toArray) (hb : s.heap.IsList b us.toArray) (hx : StrsAre vs xs) (hy : StrsAre us xs) (ox : ∀ x ∈ xs, PyData.strOk x = true) (hu : A.units + 64 < cLine)
    (h : Q (.bool false) s) : wpAny (model prog w) A (compareOp .NotEq (.ref a) (.ref b)) Q E s :=
  ne_dataH (reads_of ha (reads_strs hx)) (reads_of hb (reads_strs hy)) (shaped_strs ox) (shaped_strs ox) hu (by rw [eqv_strs, decide_eq_true rfl]; exact h)
theorem eq_texts_same {a b : Addr} {vs us : List Value} {xs : List Str} (ha : s.heap.IsList a vs.toArray) (hb : s.heap.IsList b us.toArray) (hx : StrsAre vs xs) (hy : StrsAre us xs) (ox : ∀ x ∈ xs, PyData.strOk x = true) (hu : A.units + 64 < cLine)
    (h : Q (.bool true) s) : wpAny (model prog w) A (compareOp .Eq (.ref a) (.ref b)) Q E s :=
  eq_texts ha hb hx hy ox ox hu (by rw [decide_eq_true rfl]; exact h)
theorem eq_pieces {a b : Addr} {vs us : List Value} {ps : List Pc} (ha : s.heap.IsList a vs.toArray) (hb : s.heap.IsList b us.toArray) (hx : PVs vs ps) (hy : PVs us ps) (ox : ∀ p ∈ ps, Fine p) (hu : A.units + 64 < cLine)
    (h : Q (.bool true) s) : wpAny (model prog w) A (compareOp .Eq (.ref a) (.ref b)) Q E s :=
  eq_dataH (reads_of ha (reads_pcs hx)) (reads_of hb (reads_pcs hy)) (shaped_pcs ox) (shaped_pcs ox) hu (by rw [eqv_pcs]; exact h)
theorem ne_pairs_same {a b : Addr} {vs us : List Value} {xs : List Str} (ha : s.heap.IsList a vs.toArray) (hb : s.heap.IsList b us.toArray) (hx : Paired (PairAt s.heap) vs xs) (hy : Paired (PairAt s.heap) us xs) (ox : ∀ x ∈ xs, PyData.strOk x = true) (hu : A.units + 64 < cLine)
    (h : Q (.bool false) s) : wpAny (model prog w) A (compareOp .NotEq (.ref a) (.ref b)) Q E s :=
  ne_dataH (reads_of ha (reads_pairs hx)) (reads_of hb (reads_pairs hy)) (shaped_pairs ox) (shaped_pairs ox) hu (by rw [eqv_pairs]; exact h)
end

/-! the texts are fine -/
theorem fine_app {a b : Str} (ha : PyData.strOk a = true) (hb : PyData.strOk b = true) : PyData.strOk (a ++ b) = true := by
  obtain ⟨a⟩ := a; obtain ⟨b⟩ := b
  show (a ++ b).all _ = true
  rw [Array.all_append]
  exact Bool.and_eq_true_iff.mpr ⟨ha, hb⟩
theorem fine_dot : PyData.strOk dotS = true := by decide +kernel
theorem fine_c : PyData.strOk cS = true := by decide +kernel
theorem joinDot_fine : ∀ (w : List Str), (∀ x ∈ w, PyData.strOk x = true) → PyData.strOk (joinDot w) = true
  | [], _ => by decide +kernel
  | [x], h => h x (.head _)
  | x :: y :: r, h => fine_app (fine_app (h x (.head _)) fine_dot) (joinDot_fine (y :: r) fun z hz => h z (.tail _ hz))
theorem choices_fine {n i : Nat} {p : Pc} (hp : Fine p) : ∀ c ∈ choicesOf n i p, ∀ x ∈ c, PyData.strOk x = true := by
  have hC : ∀ x ∈ [cS], PyData.strOk x = true := fun x hx => by rw [List.mem_singleton.mp hx]; exact fine_c
  have hN : ∀ x ∈ ([] : List Str), PyData.strOk x = true := fun x hx => nomatch hx
  intro c hc
  unfold choicesOf at hc
  cases p with
  | some x =>
    rw [List.mem_singleton.mp hc]
    exact fun y hy => by rw [List.mem_singleton.mp hy]; exact hp x rfl
  | none =>
    dsimp only at hc
    split at hc
    · rw [List.mem_singleton.mp hc]; exact hC
    · split at hc
      · rw [List.mem_singleton.mp hc]; exact hN
      · rcases List.mem_cons.mp hc with rfl | hc
        · exact hC
        · rw [List.mem_singleton.mp hc]; exact hN
theorem mixTo_fine {ps : List Pc} (hf : ∀ p ∈ ps, Fine p) : ∀ k, ∀ w ∈ mixTo ps k, ∀ x ∈ w, PyData.strOk x = true
  | 0, w, hw => by
    rw [List.mem_singleton.mp hw]
    exact fun x hx => nomatch hx
  | k + 1, w, hw => by
    have hp : Fine (ps.getD k none) := by
      by_cases h : k < ps.length
      · exact hf _ (getD_mem h)
      · rw [List.getD_eq_getElem?_getD, List.getElem?_eq_none (by omega)]
        exact fun x e => nomatch e
    unfold mixTo mixStep at hw
    obtain ⟨u, hu, hc⟩ := List.mem_flatMap.mp hw
    obtain ⟨c, hc', rfl⟩ := List.mem_map.mp hc
    intro x hx
    rcases List.mem_append.mp hx with hx | hx
    · exact mixTo_fine hf k u hu x hx
    · exact choices_fine hp c hc' x hx
theorem texts_fine {ps : List Pc} (hf : ∀ p ∈ ps, Fine p) : ∀ x ∈ textsAll ps, PyData.strOk x = true := fun x hx => by
  obtain ⟨wd, hw, rfl⟩ := List.mem_map.mp hx
  exact joinDot_fine wd (mixTo_fine hf _ wd hw)
theorem texts_two (p q : Pc) : textsAll [p, q] = [join2 p q] := by
  cases p <;> cases q <;> rfl
theorem newsAdd {h₀ h h' : Heap} {L a : Addr} {m : Str → Option Value} {news : List (Addr × Obj)} {o : Obj} (F : Fr h₀ L h m) (N : News h₀ L h news) (g : Grows h h') (ha0 : h.get? a = none) (ha : h'.get? a = some o) : News h₀ L h' ((a, o) :: news) := fun p hp => by
  rcases List.mem_cons.mp hp with rfl | hp
  · refine ⟨ha, fun q => ?_, ?_⟩
    · obtain ⟨oL, _, _, ho, _⟩ := F.ns
      rw [← show a = L from q, ha0] at ho; cases ho
    · cases e : h₀.get? a with
      | none => rfl
      | some o' => have := F.keep _ _ e; rw [ha0] at this; cases this
  · exact ⟨g _ _ (N p hp).1, (N p hp).2⟩
end

section
theorem paired_of_get {α β : Type} {F : α → β → Prop} : ∀ {l : List α} {r : List β}, l.length = r.length → (∀ (j : Nat) (a : α), l[j]? = some a → ∃ b, r[j]? = some b ∧ F a b) → Paired F l r
  | [], [], _, _ => .nil
  | [], _ :: _, h, _ => by simp at h
  | _ :: _, [], h, _ => by simp at h
  | a :: l, b :: r, h, f => by
    obtain ⟨b', hb, hf⟩ := f 0 a rfl
    cases hb
    exact .cons hf (paired_of_get (by simpa using h) fun j x hx => f (j + 1) x (by simpa using hx))
theorem strs_of_get : ∀ {l : List Value} {r : List Str}, l.length = r.length → (∀ (j : Nat) (a : Value), l[j]? = some a → ∃ b t, r[j]? = some b ∧ a = .str b t) → StrsAre l r
  | [], [], _, _ => .nil
  | [], _ :: _, h, _ => by simp at h
  | _ :: _, [], h, _ => by simp at h
  | a :: l, b :: r, h, f => by
    obtain ⟨b', t, hb, rfl⟩ := f 0 a rfl
    cases hb
    exact .cons _ t (strs_of_get (by simpa using h) fun j x hx => f (j + 1) x (by simpa using hx))

section
variable {prog : Program} {w : World} {mg mb : Str → Option Value} {A : Around} {E : Value → Shared → Prop} {s : Shared} {Q : Value → Shared → Prop} {d : Addr} {xs : List Str} {ep : Nat}

theorem is_str {k : Str} {v : Value} (h : (PySem.strKind prog w).is k v = true) : ∃ t, v = .str k t := by
  cases v with
  | str y t =>
    have : y = k := by
      have h' : (y == k) = true ∨ (k == y) = true := by first | exact .inl h | exact .inr h
      rcases h' with h' | h'
      · exact eq_of_beq h'
      · exact (eq_of_beq h').symm
    exact ⟨t, by rw [this]⟩
  | _ => exact absurd h (by intro q; exact Bool.noConfusion q)

abbrev kvsOf (xs : List Str) : List (Str × Value) := xs.map fun y => (y, Value.none)
theorem kvs_get {j : Nat} {k : Str} {x : Value} (h : (kvsOf xs)[j]? = some (k, x)) : xs[j]? = some k ∧ x = .none := by
  rw [List.getElem?_map] at h
  cases e : xs[j]? with
  | none => rw [e] at h; cases h
  | some y => rw [e] at h; cases h; exact ⟨rfl, rfl⟩

theorem items_call (hd1 : d ≠ 1) (hm : s.heap.DictAt (PySem.strKind prog w) d (kvsOf xs) ep) (h : Q (.ref s.heap.objs.size) { s with heap := s.heap.push { cls := .type "dict_items", data := .fields #[.ref d] } }) :
    wpAny (model prog w) A (call (.builtin "dict.items") [.ref d]) Q E s :=
  call_meetsIn PySem.F.slot_dict_items hm.dictOf.typeIs PySem.F.entry_dict_items (PySem.F.args_dict_items_1 _) (meets_dict_items (PySem.strKind prog w) d (by simpa [sysModules] using hd1)) ⟨⟨_, hm.dictOf⟩, h⟩

theorem items_method {pl : Sem Bool} {Q : Value × List Value → Shared → Prop} (hm : s.heap.DictAt (PySem.strKind prog w) d (kvsOf xs) ep) (h : Q (.builtin "dict.items", [.ref d]) s) :
    wpAny (model prog w) A (getMethod (.ref d) (Str.ofString "items") pl) Q E s :=
  getMethod_builtin hm.dictOf.typeIs PySem.F.plainAttrs_dict PySem.F.slot_dict_items (by kernel_rfl) hm.dictOf.mapOf.noDict h

theorem list_items {r : Addr} (hh : A.handled = none) (hv : s.heap.IsItemsView r d) (hm : s.heap.DictAt (PySem.strKind prog w) d (kvsOf xs) ep) (hn : xs.length ≤ 1000)
    (hQ : ∀ a vs c h' tk, s.heap.get? a = none → h'.get? a = some (listOf (List.toArray vs) c) → Paired (PairAt h') vs xs → Grows s.heap h' → Q (.ref a) { s with heap := h', toks := tk }) :
    wpAny (model prog w) A (call (.type "list") [.ref r]) Q E s := by
  refine kdx_call hh hv hm (by rw [List.length_map, sizeLine_eq]; omega) fun h' tk acc c as hk hD hl hG hacc => ?_
  refine hQ _ acc.toList c h' tk (Heap.get?_none_of_le (Nat.le_refl _)) (by rw [Array.toArray_toList]; exact hD) ?_ hk
  rw [hacc]
  refine paired_of_get (by rw [List.length_map, hl, List.length_map]) fun j v hv => ?_
  rw [List.getElem?_map] at hv
  cases e : as[j]? with
  | none => rw [e] at hv; cases hv
  | some a =>
    rw [e] at hv; cases hv
    obtain ⟨key, k, x, h1, h2, h3⟩ := hG.pairs j a e
    obtain ⟨h4, rfl⟩ := kvs_get h1
    obtain ⟨t, rfl⟩ := is_str h2
    exact ⟨k, h4, a, _, t, _, rfl, h3, rfl, rfl⟩

theorem strs_of_items {acc : Array Value} (hi : ItemsOf (fun i v => ∃ k x, (kvsOf xs)[i]? = some (k, x) ∧ (PySem.strKind prog w).is k v = true) acc (kvsOf xs).length) : StrsAre acc.toList xs := by
  refine strs_of_get (by rw [Array.length_toList, hi.1, List.length_map]) fun j v hv => ?_
  obtain ⟨k, x, h1, h2⟩ := hi.2 j v (by rw [← Array.getElem?_toList]; exact hv)
  obtain ⟨t, rfl⟩ := is_str h2
  exact ⟨k, t, (kvs_get h1).1, rfl⟩

theorem list_keys (hd1 : d ≠ 1) (hh : A.handled = none) (hm : s.heap.DictAt (PySem.strKind prog w) d (kvsOf xs) ep) (hn : xs.length ≤ 1000)
    (hQ : ∀ a vs c h' tk, s.heap.get? a = none → h'.get? a = some (listOf (List.toArray vs) c) → StrsAre vs xs → Grows s.heap h' → Q (.ref a) { s with heap := h', toks := tk }) :
    wpAny (model prog w) A (call (.type "list") [.ref d]) Q E s := by
  refine kdl_call (kdl_dict (knd := PySem.strKind prog w) (kvs := kvsOf xs) (ep := ep) (d := d) (by simpa [sysModules] using hd1)) hh hm (by rw [List.length_map, sizeLine_eq]; omega) fun h' tk acc c hk hD hi => ?_
  exact hQ _ acc.toList c h' tk (Heap.get?_none_of_le (Nat.le_refl _)) (by rw [Array.toArray_toList]; exact hD) (strs_of_items hi) hk

theorem col_dict (hd1 : d ≠ 1) (hh : A.handled = none) (hm : s.heap.DictAt (PySem.strKind prog w) d (kvsOf xs) ep) (hn : xs.length ≤ 1000) : ∀ (R : List Value → Shared → Prop) (E' : Value → Shared → Prop), (∀ vs h' tk, StrsAre vs xs → Grows s.heap h' → R vs { s with heap := h', toks := tk }) → wpAny (model prog w) A (collect (.ref d)) R E' s := by
  intro R E' hR
  refine kdu_collect (kdl_dict (knd := PySem.strKind prog w) (kvs := kvsOf xs) (ep := ep) (d := d) (by simpa [sysModules] using hd1)) hh hm (by rw [List.length_map, sizeLine_eq]; omega) fun h' tk acc hk hi => ?_
  exact hR _ h' tk (strs_of_items hi) hk

/-- the key is the text itself -/
def IdKP (xs : List Str) : KeyP := fun i k q => ∃ t, k = .str (xs.getD i (Str.ofString "")) t ∧ q = none
theorem sorted_dict (D : Gd w mg mb s.heap) (hA : A.depth < recursionLimit) (hd1 : d ≠ 1) (hh : A.handled = none) (hm : s.heap.DictAt (PySem.strKind prog w) d (kvsOf xs) ep) (hnd : xs.Nodup) (h1 : 1 ≤ xs.length) (h64 : xs.length < 64)
    (hQ : ∀ Dd vs' ys h' tk c, s.heap.get? Dd = none → h'.get? Dd = some (listOf (List.toArray vs') c) → StrsAre vs' ys → Rising ys → ys.Perm xs → Grows s.heap h' → Q (.ref Dd) { s with heap := h', toks := tk }) :
    wpAny (model prog w) A (call (.builtin "sorted") [.ref d] [(Str.ofString "key", .ref 28)]) Q E s := by
  refine sorted_strs (KP := IdKP xs) (T := .type "str") hnd h1 h64 (col_dict hd1 hh hm (by omega)) ?_ ?_ (by decide) (by decide) ?_ hQ
  · intro i x t h tk hx hg
    unfold KeyCall
    refine strxfrm_ (s := { s with heap := h, toks := tk }) (D.keeps hg) hA fun h' tk' g => ?_
    refine ⟨h', tk', none, rfl, g, ⟨t, ?_, rfl⟩, fun p hp => nomatch hp⟩
    rw [List.getD_eq_getElem?_getD, hx]; rfl
  · rintro h i k q ⟨t, rfl, _⟩ _
    exact .now
  · rintro h tk i j ki kj qi qj C ⟨t, rfl, _⟩ ⟨u, rfl, _⟩ _ _ hC
    rw [keyLt'_oneType]
    exact oneLt_str hC
end
end

section
/-- the objects below n alone -/
def trunc (h : Heap) (n : Nat) : Heap := { h with objs := h.objs.extract 0 n }
theorem trunc_size (h : Heap) (n : Nat) : (trunc h n).objs.size ≤ n := by
  unfold trunc
  simp only [Array.size_extract]
  omega
theorem trunc_of {h : Heap} {n : Nat} {b : Addr} {o : Obj} (e : h.get? b = some o) (hb : @LT.lt Nat instLTNat b n) : (trunc h n).get? b = some o := by
  have hlt : @LT.lt Nat instLTNat b h.objs.size := Heap.lt_size e
  have hx : (h.objs.extract 0 n)[b]? = h.objs[b]? := by
    rw [Array.getElem?_extract]
    rw [if_pos (by omega)]
    simp
  unfold Heap.get? at e ⊢
  unfold trunc
  simp only [hx]
  exact e
theorem of_trunc {h : Heap} {n : Nat} {b : Addr} {o : Obj} (e : (trunc h n).get? b = some o) : h.get? b = some o := by
  have hlt : @LT.lt Nat instLTNat b (trunc h n).objs.size := Heap.lt_size e
  have hsz : (trunc h n).objs.size = min n h.objs.size := by unfold trunc; simp only [Array.size_extract]; omega
  have hx : (h.objs.extract 0 n)[b]? = h.objs[b]? := by
    rw [Array.getElem?_extract]
    rw [if_pos (by omega)]
    simp
  unfold Heap.get? at e ⊢
  unfold trunc at e
  simp only [hx] at e
  exact e
theorem fr_trunc {h : Heap} {L : Addr} {m : Str → Option Value} (hn : h.Ns L m) : Fr (trunc h L) L h m := ⟨hn, fun _ _ e => of_trunc e, trunc_size _ _⟩

theorem fine_msg : PyData.strOk msgS = true := by decide +kernel
theorem soft_end {h₀ h h' g : Heap} {m m'' : Str → Option Value} {env : Env} {outer : List Env} (hf : env.frame = some h₀.objs.size) (F : Fr h₀ h₀.objs.size h m) (S : Soft (fls (env :: outer)) h h') (F' : Fr (trunc h' h₀.objs.size) h₀.objs.size g m'') : Soft (fls outer) h₀ g := by
  have hfl : fls (env :: outer) = h₀.objs.size :: fls outer := by unfold fls; rw [List.filterMap_cons, hf]
  constructor
  · intro b o hb e
    have hlt : b < h₀.objs.size := Heap.lt_size e
    refine F'.keep _ _ (trunc_of (S.keep b o ?_ (F.keep b o e)) hlt)
    rw [hfl]
    intro hm
    rcases List.mem_cons.mp hm with q | hm
    · exact absurd hlt (by rw [q]; exact Nat.lt_irrefl _)
    · exact hb hm
  · intro b o e hn
    have hlt : b < h₀.objs.size := Heap.lt_size e
    obtain ⟨sl, hs⟩ := S.slots b o (F.keep b o e) hn
    exact ⟨sl, F'.keep _ _ (trunc_of hs hlt)⟩
end

section
section
variable {w : World} {mg mb : Str → Option Value} {G : Heap} {prog : Program} {A : Around} {E : Value → Shared → Prop} {s : Shared} {Q : Value → Shared → Prop}

theorem rowHolds_ {l n t : Addr} {pvs nvs tvs : List Value} {ps : List Pc} {ns ys : List Str} {np nn nt : Nat} {base : Heap} {outer : List Env} (Db : Gd w mg mb base) (B : Below A base outer s.heap) (hA : A.depth + 5 < recursionLimit) (hu : A.units + 100 < cLine) (hh : A.handled = none)
    (hl : s.heap.get? l = some (listOf pvs.toArray np)) (hps : PVs pvs ps) (h2 : 2 ≤ ps.length) (h5 : ps.length ≤ 5) (hsm : ∀ p ∈ ps, Small 3 p) (hfp : ∀ p ∈ ps, Fine p)
    (hn : s.heap.get? n = some (listOf nvs.toArray nn)) (hns : StrsAre nvs ns) (hn14 : ns.length ≤ 14) (hmem : ∀ y, y ∈ ns ↔ y ∈ textsAll ps)
    (ht : s.heap.get? t = some (listOf tvs.toArray nt)) (hts : StrsAre tvs ys) (hri : Rising ys) (hpm : ys.Perm (firsts (textsAll ps)))
    (hQ : ∀ h' tk, Soft (fls outer) s.heap h' → Q (.bool true) { s with heap := h', toks := tk }) :
    wpAny (model prog w) A (call (.ref 103) [.ref l, .ref n, .ref t]) Q E s := by
  have D : Gd w mg mb s.heap := Db.keeps B.stays
  have hpn : ys.Perm (firsts ns) := hpm.trans (firsts_perm fun y => (hmem y).symm)
  have hfin : ∀ x ∈ firsts ns, PyData.strOk x = true := fun x hx => texts_fine hfp x ((hmem x).mp (firsts_mem.mp hx))
  have hfiy : ∀ x ∈ ys, PyData.strOk x = true := fun x hx => hfin x (hpn.mem_iff.mp hx)
  have hfl : (firsts ns).length ≤ 14 := Nat.le_trans (firsts_length_le _) hn14
  have hf1 : 1 ≤ (firsts ns).length := by rw [← hpn.length_eq, hpm.length_eq]; exact texts_pos ps
  refine enter (binds := [(Str.ofString "pieces", .ref l), (Str.ofString "names", .ref n), (Str.ofString "texts", .ref t)]) D (by omega) rfl (by rfl) (BindsTo.of_eq rfl) (by decide) (locs rfl) ?_
  intro h₁ F
  have X := D.X
  have N : News s.heap s.heap.objs.size h₁ [] := News.nil
  have F0 := F
  iterate 8 walk1
  refine ⟨D.X.keeps F.keep, ?_⟩
  refine dedup_ (vs := nvs) (xs := ns) (D.keeps F.keep) (by show A.depth + 1 < _; omega) hh ⟨_, F.keep _ _ hn, rfl, _, rfl⟩ hns (by omega) ?_
  intro d h₂ tk₂ hdz hdo g₁
  obtain ⟨od, es, ep, hod, hrest⟩ := hdo
  have hDat : ∀ g : Heap, g.get? d = some od → g.DictAt (PySem.strKind prog w) d (kvsOf (firsts ns)) ep := fun g e => ⟨od, es, e, hrest⟩
  have hd1 : d ≠ 1 := by
    have h103 : @LT.lt Nat instLTNat 103 s.heap.objs.size := Heap.lt_size (D.X 103 _ rfl)
    have : @LT.lt Nat instLTNat s.heap.objs.size h₁.objs.size := F.ns.lt
    have hdz' : @LE.le Nat instLENat h₁.objs.size d := hdz
    exact Nat.ne_of_gt (by omega)
  have F₂ := F.keeps g₁
  have N₂ := newsAdd F N g₁ (Heap.get?_none_of_le hdz) hod
  clear F N F0 hrest
  show wpAny (model prog w) _ _ _ _ { s with heap := h₂, toks := tk₂ }
  iterate 11 walk1
  rename Fr _ _ _ _ => F
  rename News _ _ _ _ => N
  with_reducible rename Heap => h₃
  show wpAny (model prog w) _ _ _ _ { s with heap := h₃, toks := _ }
  have hD₃ := hDat h₃ (N _ (.head _)).1
  refine items_method hD₃ ?_
  walk1
  refine items_call hd1 hD₃ ?_
  have g34 : Grows h₃ (h₃.push { cls := .type "dict_items", data := .fields #[.ref d] }) := grows_push
  have hvw : (h₃.push { cls := .type "dict_items", data := .fields #[.ref d] }).IsItemsView h₃.objs.size d := ⟨_, Heap.get?_push_size _ rfl, rfl, rfl⟩
  have F₄ := F.keeps g34
  have N₄ : News s.heap s.heap.objs.size (h₃.push { cls := .type "dict_items", data := .fields #[.ref d] }) [(d, od)] := fun p hp => ⟨g34 _ _ (N p hp).1, (N p hp).2⟩
  clear F N hD₃ g34
  show wpAny (model prog w) _ _ _ _ { s with heap := h₃.push { cls := .type "dict_items", data := .fields #[.ref d] }, toks := _ }
  generalize h₃.push { cls := .type "dict_items", data := .fields #[.ref d] } = h₄ at hvw F₄ N₄ ⊢
  generalize h₃.objs.size = vw at hvw ⊢
  walk1
  refine list_items (by exact hh) hvw (hDat h₄ (N₄ _ (.head _)).1) (by omega) ?_
  intro a va ca h₅ tk₅ ha0 hao hpa g45
  have F₅ := F₄.keeps g45
  have N₅ := newsAdd F₄ N₄ g45 ha0 hao
  clear F₄ N₄ hvw
  show wpAny (model prog w) _ _ _ _ { s with heap := h₅, toks := tk₅ }
  with_reducible refine listComp1 (cl := []) (by with_unfolding_all rfl) (by decide) (by with_unfolding_all rfl) (by with_unfolding_all decide) (by with_unfolding_all rfl) ?_ (by intro _; with_unfolding_all rfl)
  iterate 6 walk1
  refine ⟨D.X.keeps F₅.keep, ?_⟩
  refine first_ (D.keeps F₅.keep) (by show A.depth + 1 < _; omega) hh (F₅.keep _ _ hn) hns (by omega) ?_
  intro f vf nf h₆ tk₆ hf0 hfo hfs g56
  have F₆ := F₅.keeps g56
  have N₆ : News s.heap s.heap.objs.size h₆ [(a, listOf (List.toArray va) ca), (d, od)] := fun p hp => ⟨g56 _ _ (N₅ p hp).1, (N₅ p hp).2⟩
  have hpa6 := paired_mono (fun _ _ x => PairAt.keeps g56 x) hpa
  clear F₅ N₅ hpa
  show wpAny (model prog w) _ _ _ _ { s with heap := h₆, toks := tk₆ }
  have hLf : h₆.IsList f vf.toArray := ⟨_, hfo, rfl, _, rfl⟩
  have hlf : vf.length = (firsts ns).length := hfs.length
  have hne : f ≠ h₆.objs.size := Nat.ne_of_lt (Heap.lt_size hfo)
  with_reducible refine wpAny_pyIter_list hLf ?_
  refine ⟨h₆.objs.size, [h₆.objs.size, f], [h₆.objs.size], vf.toArray.size, _, _, fun C i ys h => Paired (PairUp C h) ys ((firsts ns).take i), rfl, Walks.list (by exact hh) _ f hne vf.toArray, ?_, ?_, ?_, fun _ _ => .nil, ?_, ?_, ?_⟩
  · rw [List.size_toArray, sizeLine_eq]; omega
  · exact ⟨⟨_, Heap.get?_push_size _ rfl, rfl, rfl⟩, hLf.at fun o e => Heap.get?_push_of_some _ e⟩
  · intro b hb
    show _ < (h₆.push _).objs.size
    rw [Heap.size_push]
    rcases List.mem_cons.mp hb with rfl | hb
    · exact Nat.lt_succ_self _
    · rw [List.mem_singleton.mp hb]; exact Nat.lt_succ_of_lt (Heap.lt_size hfo)
  · intro C i ys h h' hj hk
    exact paired_mono (fun v p ⟨a, o, t, n, e, hC, ho, hp⟩ => ⟨a, o, t, n, e, hC, hk a _ hC ho, hp⟩) hj
  · intro C i v ys g tkg m₂ hC hi hv hnn hm hold hj
    unfold TurnC
    with_reducible refine wpAny_tests_nil ?_
    refine ⟨g, tkg, rfl, fun _ _ e => e, ?_⟩
    rw [if_pos rfl]
    obtain ⟨x, tx, rfl, hx⟩ := hfs.item i v (by simpa using hv)
    with_reducible refine Tuple_ (wpAny_items_cons (nameL (by with_unfolding_all exact hnn) hm ?_ (by with_unfolding_all rfl) (by with_unfolding_all rfl) (by decide)) (by with_unfolding_all rfl))
    with_reducible refine wpAny_items_cons (wpAny_Constant_none ?_) (by with_unfolding_all rfl)
    with_reducible refine wpAny_items_nil (wpAny_newTuple ?_ (by rw [sizeLine_eq]; simp))
    refine ⟨_, tkg, rfl, grows_push, ?_⟩
    show Paired _ (ys ++ [_]) ((firsts ns).take (i + 1))
    rw [List.take_add_one, hx]
    refine Paired.snoc (paired_mono (fun v p ⟨a, o, t, n, e, hC, ho, hp⟩ => ⟨a, o, t, n, e, hC, grows_push a _ ho, hp⟩) hj) ⟨_, _, tx, _, rfl, hnn.lt, Heap.get?_push_size _ rfl, rfl, rfl⟩
  · intro b C h₇ tk₇ yb hb0 hC hbC hpl hj hle hold
    rw [List.take_of_length_le (by rw [List.size_toArray]; omega)] at hj
    have g67 : Grows h₆ h₇ := fun b o e => hold b o (by have := Heap.lt_size e; simp; exact Nat.ne_of_lt this) (Heap.get?_push_of_some _ e)
    obtain ⟨nb, hbo⟩ := hpl
    have F₇ := F₆.keeps g67
    have N₇ : News s.heap s.heap.objs.size h₇ [(a, listOf (List.toArray va) ca), (d, od)] := fun p hp => ⟨g67 _ _ (N₆ p hp).1, (N₆ p hp).2⟩
    have hpa7 := paired_mono (fun _ _ x => PairAt.keeps g67 x) hpa6
    have hpb7 : Paired (PairAt h₇) yb (firsts ns) := paired_mono (fun v p ⟨a, o, t, n, e, _, ho, hp⟩ => ⟨a, o, t, n, e, ho, hp⟩) hj
    clear F₆ N₆ hpa6 hj
    refine ne_pairs_same (s := { s with heap := h₇, toks := tk₇ }) ⟨_, (N₇ _ (.head _)).1, rfl, _, rfl⟩ ⟨_, hbo, rfl, _, rfl⟩ hpa7 hpb7 hfin (by show A.units + 3 + 64 < cLine; omega) ?_
    show wpAny (model prog w) _ _ _ _ { s with heap := h₇, toks := tk₇ }
    have N₈ : News s.heap s.heap.objs.size h₇ [(d, od)] := fun p hp => N₇ p (.tail _ hp)
    clear N₇ hpa7 hpb7
    iterate 3 walk1
    iterate 12 walk1
    refine list_keys hd1 (by exact hh) (hDat h₇ (N₈ _ (.head _)).1) (by omega) ?_
    intro k vk ck h₉ tk₉ hk0 hko hks g79
    have F₉ := F₇.keeps g79
    have N₉ : News s.heap s.heap.objs.size h₉ [(d, od)] := fun p hp => ⟨g79 _ _ (N₈ p hp).1, (N₈ p hp).2⟩
    clear F₇ N₈
    show wpAny (model prog w) _ _ _ _ { s with heap := h₉, toks := tk₉ }
    walk1
    refine ⟨D.X.keeps F₉.keep, ?_⟩
    refine lined_ (ys := ys) (D.keeps F₉.keep) (by show A.depth + 1 + 1 < _; omega) hh hko hks (by omega) hri hpn ?_
    intro c vc h₁₀ tk₁₀ hc0 hcl hcs gg
    have hcl' := hcl
    obtain ⟨oc, hco, hocc, noc, hocd⟩ := hcl'
    have hIc : ∀ g : Heap, g.get? c = some oc → g.IsList c (List.toArray vc) := fun g e => ⟨oc, e, hocc, noc, hocd⟩
    have F₁₀ := F₉.keeps gg
    have N₁₀ := newsAdd F₉ N₉ gg hc0 hco
    clear F₉ N₉ hcl
    show wpAny (model prog w) _ _ _ _ { s with heap := h₁₀, toks := tk₁₀ }
    iterate 8 walk1
    rename Fr _ _ _ _ => F
    rename News _ _ _ _ => N
    with_reducible rename Heap => h₁₁
    show wpAny (model prog w) _ (compareOp .NotEq (.ref c) (.ref t)) _ _ { s with heap := h₁₁, toks := _ }
    refine ne_texts_same (hIc _ (N _ (.head _)).1) ⟨_, F.keep _ _ ht, rfl, _, rfl⟩ hcs hts hfiy (by show A.units + 3 + 64 < cLine; omega) ?_
    iterate 13 walk1
    show wpAny (model prog w) _ (call (.builtin "sorted") [.ref d] [(Str.ofString "key", .ref 28)]) _ _ { s with heap := h₁₁, toks := _ }
    refine sorted_dict (s := { s with heap := h₁₁, toks := _ }) (D.keeps F.keep) (by show A.depth + 1 < _; omega) hd1 (by exact hh) (hDat _ (N _ (.tail _ (.head _))).1) (firsts_nodup _) hf1 (by omega) ?_
    intro e ve ye h₁₂ tk₁₂ ce he0 heo hes hre hpe g12
    have hye : ye = ys := rising_eq hre hri (hpe.trans hpn.symm)
    rw [hye] at hes
    have F₁₂ := F.keeps g12
    have N₁₂ : News s.heap s.heap.objs.size h₁₂ [(c, oc), (d, od)] := fun p hp => ⟨g12 _ _ (N p hp).1, (N p hp).2⟩
    clear F N
    show wpAny (model prog w) _ _ _ _ { s with heap := h₁₂, toks := tk₁₂ }
    walk1
    refine ne_texts_same (s := { s with heap := h₁₂, toks := _ }) ⟨_, heo, rfl, _, rfl⟩ ⟨_, F₁₂.keep _ _ ht, rfl, _, rfl⟩ hes hts hfiy (by show A.units + 3 + 64 < cLine; omega) ?_
    iterate 13 walk1
    refine ⟨D.X.keeps F₁₂.keep, ?_⟩
    refine signs_ (s := { s with heap := h₁₂, toks := _ }) (D.keeps F₁₂.keep) (by show A.depth + 1 + 1 < _; omega) hh (hIc _ (N₁₂ _ (.head _)).1) ⟨_, F₁₂.keep _ _ ht, rfl, _, rfl⟩ hcs hts (by rw [hpn.length_eq]; omega) hri ?_
    intro h₁₃ tk₁₃ g13
    have F₁₃ := F₁₂.keeps g13
    have N₁₃ : News s.heap s.heap.objs.size h₁₃ [] := News.nil
    clear F₁₂ N₁₂ hIc hDat
    show wpAny (model prog w) _ _ _ _ { s with heap := h₁₃, toks := tk₁₃ }
    iterate 5 walk1
    iterate 8 walk1
    refine call_list_seq (s := { s with heap := h₁₃, toks := _ }) (hsz := by rw [List.size_toArray, sizeLine_eq, Paired.length hps]; omega) l (.inl rfl) (F₁₃.keep _ _ hl) rfl rfl fun h₁₄ ck hk hkD => ?_
    have F₁₄ := F₁₃.keeps hk
    have hkL : @LT.lt Nat instLTNat s.heap.objs.size h₁₃.objs.size := F₁₃.ns.lt
    have N₁₄ := newsAdd F₁₃ N₁₃ hk (Heap.get?_none_of_le (Nat.le_refl _)) hkD
    clear F₁₃ N₁₃
    show wpAny (model prog w) _ _ _ _ { s with heap := h₁₄, toks := _ }
    generalize h₁₃.objs.size = k at N₁₄ hkL ⊢
    iterate 10 walk1
    rename Fr _ _ _ _ => F
    rename News _ _ _ _ => N
    with_reducible rename Heap => h₁₅
    show (KF w).In h₁₅ ∧ wpAny (model prog w) _ _ _ _ { s with heap := h₁₅, toks := _ }
    refine ⟨D.X.keeps F.keep, ?_⟩
    have hko := (N _ (.head _)).1
    have hlp : pvs.length = ps.length := Paired.length hps
    have hL15 : @LT.lt Nat instLTNat s.heap.objs.size h₁₅.objs.size := F.ns.lt
    rcases Nat.lt_or_ge 2 ps.length with hgt | hle
    · refine wholeRaises_ (s := { s with heap := h₁₅, toks := _ }) Db (B.push F) (by show A.depth + 1 + 1 < _; omega) (by show A.units + 3 + 8 < cLine; omega) hh ⟨_, F.keep _ _ hl, rfl, _, rfl⟩ (by rw [List.size_toArray, hlp]; exact hgt) ?_
      intro a u h₁₆ tk₁₆ haz hal S
      have hnf : ∀ b o, base.get? b = some o → b ∉ s.heap.objs.size :: fls outer := fun b o e hm => by
        rcases List.mem_cons.mp hm with q | hm
        · exact absurd (Heap.lt_size (B.stays b o e)) (by rw [q]; exact Nat.lt_irrefl _)
        · have := (B.frames.mem hm).1; rw [this] at e; cases e
      have D' : Gd w mg mb (trunc h₁₆ s.heap.objs.size) := Db.keeps fun b o e => trunc_of (S.keep b o (hnf b o e) (F.keep b o (B.stays b o e))) (Heap.lt_size (B.stays b o e))
      have F₁₆ := fr_trunc (S.slots.ns F.ns)
      obtain ⟨oa, hao, hac, na, had⟩ := hal
      obtain ⟨sl, hks⟩ := S.slots _ _ hko (fun vs e => nomatch e)
      have haz' : @LE.le Nat instLENat h₁₅.objs.size a := haz
      have N₁₆ : News (trunc h₁₆ s.heap.objs.size) s.heap.objs.size h₁₆ [(a, oa), (k, { listOf pvs.toArray ck with slots := sl })] := fun p hp => by
        have hsz : @LE.le Nat instLENat (trunc h₁₆ s.heap.objs.size).objs.size s.heap.objs.size := trunc_size _ _
        rcases List.mem_cons.mp hp with rfl | hp
        · exact ⟨hao, Nat.ne_of_gt (by omega), Heap.get?_none_of_le (by omega)⟩
        · rw [List.mem_singleton.mp hp]
          exact ⟨hks, Nat.ne_of_gt hkL, Heap.get?_none_of_le (by omega)⟩
      have X' := D'.X
      have hsoft : ∀ g m'', Fr (trunc h₁₆ s.heap.objs.size) s.heap.objs.size g m'' → Soft (fls outer) s.heap g := fun g m'' F' => soft_end rfl F S F'
      obtain ⟨sl2, hls⟩ := S.slots _ _ (F.keep _ _ hl) (fun vs e => nomatch e)
      have hlt := trunc_of hls (Heap.lt_size hl)
      clear F N D X
      show wpAny (model prog w) _ _ _ _ { s with heap := h₁₆, toks := tk₁₆ }
      iterate 11 walk1
      rename Fr _ _ _ _ => F
      rename News _ _ _ _ => N
      with_reducible rename Heap => h₁₇
      show wpAny (model prog w) _ _ _ _ { s with heap := h₁₇, toks := _ }
      have hLk : h₁₇.IsList k pvs.toArray := ⟨_, (N _ (.tail _ (.head _))).1, rfl, _, rfl⟩
      have hLl : ∀ g m'', Fr (trunc h₁₆ s.heap.objs.size) s.heap.objs.size g m'' → g.IsList l pvs.toArray := fun g m'' F' => ⟨_, F'.keep _ _ hlt, rfl, _, rfl⟩
      with_reducible refine call_len_list hLk (by rw [List.size_toArray]; omega) ?_
      iterate 3 walk1
      rw [if_neg (by simp only [beq_iff_eq, List.size_toArray]; omega)]
      iterate 12 walk1
      rename Fr _ _ _ _ => F
      rename News _ _ _ _ => N
      with_reducible rename Heap => h₁₈
      show wpAny (model prog w) _ (compareOp .Eq (.ref a) (.ref _)) _ _ { s with heap := h₁₈, toks := _ }
      refine eq_texts_same (vs := [.str msgS u]) (us := [.str msgS _]) (xs := [msgS]) ⟨_, (N _ (.tail _ (.head _))).1, hac, na, had⟩ ⟨_, (N _ (.head _)).1, rfl, _, rfl⟩ (.cons _ _ .nil) (.cons _ _ .nil) (fun x hx => by rw [List.mem_singleton.mp hx]; exact fine_msg) (by show A.units + 3 + 64 < cLine; omega) ?_
      have hLk' : h₁₈.IsList k pvs.toArray := ⟨_, (N _ (.tail _ (.tail _ (.head _)))).1, rfl, _, rfl⟩
      iterate 6 walk1
      refine eq_pieces (s := { s with heap := h₁₈, toks := _ }) (hLl _ _ F) hLk' hps hps hfp (by show A.units + 3 + 64 < cLine; omega) ?_
      exact hQ _ _ (hsoft _ _ F)
    · obtain ⟨p, q, rfl⟩ : ∃ p q, ps = [p, q] := by
        match ps, h2, hle with
        | [p, q], _, _ => exact ⟨p, q, rfl⟩
        | _ :: _ :: _ :: r, _, h => simp only [List.length_cons] at h; omega
      obtain ⟨vx, vy, rfl, hx, hy⟩ : ∃ vx vy, pvs = [vx, vy] ∧ PV p vx ∧ PV q vy := by
        cases hps with
        | cons x r => cases r with
          | cons y r => cases r; exact ⟨_, _, rfl, x, y⟩
      have hys : ys = [join2 p q] := by
        rw [texts_two] at hpm
        exact List.perm_singleton.mp hpm
      subst hys
      refine wholeOk_ (s := { s with heap := h₁₅, toks := _ }) (D.keeps F.keep) (by show A.depth + 1 + 1 < _; omega) hh ⟨_, F.keep _ _ hl, rfl, _, rfl⟩ hx hy (small_mono (by decide) (hsm p (.head _))) (small_mono (by decide) (hsm q (.tail _ (.head _)))) ?_
      intro tw h₁₆ tk₁₆ g56
      have F₁₆ := F.keeps g56
      have N₁₆ : News s.heap s.heap.objs.size h₁₆ [(k, listOf (List.toArray [vx, vy]) ck)] := fun p hp => ⟨g56 _ _ (N p hp).1, (N p hp).2⟩
      clear F N
      show wpAny (model prog w) _ _ _ _ { s with heap := h₁₆, toks := tk₁₆ }
      iterate 11 walk1
      rename Fr _ _ _ _ => F
      rename News _ _ _ _ => N
      with_reducible rename Heap => h₁₇
      show wpAny (model prog w) _ _ _ _ { s with heap := h₁₇, toks := _ }
      have hLk : h₁₇.IsList k (List.toArray [vx, vy]) := ⟨_, (N _ (.head _)).1, rfl, _, rfl⟩
      with_reducible refine call_len_list hLk (by simp only [List.size_toArray, List.length_cons, List.length_nil]; omega) ?_
      iterate 3 walk1
      rw [if_pos (by rw [List.size_toArray]; rfl)]
      iterate 11 walk1
      rename Fr _ _ _ _ => F
      rename News _ _ _ _ => N
      with_reducible rename Heap => h₁₈
      show wpAny (model prog w) _ (compareOp .Eq (.ref _) (.ref t)) _ _ { s with heap := h₁₈, toks := _ }
      refine eq_texts_same (vs := [.str (join2 p q) tw]) (xs := [join2 p q]) ⟨_, (N _ (.head _)).1, rfl, _, rfl⟩ ⟨_, F.keep _ _ ht, rfl, _, rfl⟩ (.cons _ _ .nil) hts hfiy (by show A.units + 3 + 64 < cLine; omega) ?_
      have hLk' : h₁₈.IsList k (List.toArray [vx, vy]) := ⟨_, (N _ (.tail _ (.head _))).1, rfl, _, rfl⟩
      iterate 6 walk1
      refine eq_pieces (s := { s with heap := h₁₈, toks := _ }) ⟨_, F.keep _ _ hl, rfl, _, rfl⟩ hLk' hps hps hfp (by show A.units + 3 + 64 < cLine; omega) ?_
      exact hQ _ _ (Soft.of_grows F.keep)
end
end

section
section
variable {w : World} {prog : Program} {A : Around} {E : Value → Shared → Prop} {s : Shared}
/-- z = [elt for x in iter if ..] -/
theorem assignComp1 {env : Env} {elt iter : Expr} {x z : Str} {px pz : Pos} {ifs : List Expr} {scope : Scope} {cl : List (Str × Addr)} {pos spos : Pos} {Q : Flow → Shared → Prop}
    (hsw : swapsWith (.ListComp elt [⟨.Name x px, iter, ifs, 0⟩] scope pos) (some (.Name z pz)) spos.line env = pure true)
    (hclos : closureFor scope env = pure cl) (hcell : ∀ y ∈ scope.names, y.2 ≠ .cell) (hkind : scope.kind = .function)
    (hnames : ∀ y ∈ scope.names, y.2 = .local → scope.names.lookup y.1 = some .local) (hx : scope.names.lookup x = some .local)
    (hz : env.kindOf z = some .local) (hp : (env.scope.kind == .class || (env.scope.kind == .module && env.locals != env.globals)) = false)
    (h : wpAny (model prog w) A (eval iter env) (fun xv s₁ => wpAny (model prog w) A (pyIter xv) (fun it s₂ => ∃ (I : Addr) (fp wr : List Addr) (n : Nat) (P : Nat → Value → Prop) (St : Nat → Heap → Prop) (J : Addr → Nat → List Value → Heap → Prop) (m : Str → Option Value),
      it = .ref I ∧ Walks prog w A I fp wr n P St ∧ n ≤ sizeLine ∧ St 0 s₂.heap ∧ (∀ b ∈ fp, b < s₂.heap.objs.size) ∧ (∀ C h, J C 0 [] h) ∧
      (∀ C i ys h h', J C i ys h → (∀ b o, C < b → h.get? b = some o → h'.get? b = some o) → J C i ys h') ∧
      (∀ C i v ys h tk m₂, s₂.heap.objs.size < C → i < n → P i v → h.Ns C m₂ → m₂ x = some v → (∀ b o, b ∉ wr → s₂.heap.get? b = some o → h.get? b = some o) → J C i ys h →
        TurnC prog w A s₂ ifs elt (compEnvC scope cl C env) (J C (i + 1)) ys h tk) ∧
      s₂.heap.Ns env.locals m ∧ env.locals ∉ wr ∧
      (∀ D C h' tk ys, s₂.heap.get? D = none → h'.PlainList D (List.toArray ys) → J C n ys h' → ys.length ≤ n → h'.Ns env.locals (fun q => if q = z then some (.ref D) else m q) →
        (∀ b o, b ∉ wr → b ≠ env.locals → s₂.heap.get? b = some o → h'.get? b = some o) → Q .next { s₂ with heap := h', toks := tk })) E s₁) E s)
    (hs : ∀ x, foldedSetIterable iter env x = pure x) :
    wpAny (model prog w) A (exec (.Assign [.Name z pz] (.ListComp elt [⟨.Name x px, iter, ifs, 0⟩] scope pos) spos) env) Q E s := by
  rw [exec_Assign_Name_used _ _ _ _ hsw]
  refine wpAny_bind (wpAny_standAt (wpAny_bind ?_))
  show wpAny _ A (do let _ ← comprehension (.ListComp elt [⟨.Name x px, iter, ifs, 0⟩] scope pos) scope env _ (newList []) false (eval iter env) (some (assign (.Name z pz) env))) _ _ s
  refine wpAny_bind (wpAny_mono (wpAny_comprehension_free (use := some (assign (.Name z pz) env)) (Q := fun _ s' => Q .next s') rfl hs hclos hkind hnames (wpAny_mono h (fun xv s₁ h₁ => wpAny_mono h₁ (fun it s₂ h₂ => ?_) fun _ _ e => e) fun _ _ e => e)) (fun _ s' hq => wpAny_pure (wpAny_pure hq)) fun _ _ e => e)
  obtain ⟨I, fp, wr, n, P, St, J, m, rfl, W, hsz, hst, hfp, hJ, stab, turn, hn, hLw, hQ⟩ := h₂
  refine compBlock1 (RR := fun acc C => compPost (model prog w) A E (some (assign (.Name z pz) env)) (fun _ s' => Q .next s') acc C) J W hsz hcell hkind hx hst hfp hJ stab turn ?_
  intro D C h' tk m' ys hD hC hDC hn' hpl hj hle hk
  have hLs : env.locals < s₂.heap.objs.size := hn.lt
  have hLC : env.locals < C := Nat.lt_trans hLs hC
  have hDL : D ≠ env.locals := fun q => by
    obtain ⟨o, _, _, ho, _⟩ := hn
    rw [← q, hD] at ho; cases ho
  show wpAny _ A (assign (.Name z pz) env (.ref D)) _ _ _
  refine wpAny_assign_Name (wpAny_storeName_local hz (hn.at' fun o e => hk _ o hLw e) (fun h₂ hn₂ hs₂ => ?_) hp)
  refine ⟨m', hn'.sameBut hs₂ (Nat.ne_of_gt hLC), fun h₃ hs₃ => ?_⟩
  refine hQ D C h₃ _ ys hD ((hpl.extBut hs₂.extBut hDL).extBut hs₃.extBut (Nat.ne_of_lt hDC))
    (stab _ _ _ _ _ (stab _ _ _ _ _ hj fun b o hb e => hs₂.extBut b o (Nat.ne_of_gt (Nat.lt_trans hLC hb)) e) fun b o hb e => hs₃.extBut b o (Nat.ne_of_gt hb) e) hle
    (hn₂.sameBut hs₃ (Nat.ne_of_lt hLC)) fun b o hbw hbL e => ?_
  exact hs₃.extBut b o (Nat.ne_of_lt (Nat.lt_trans (Heap.lt_size e) hC)) (hs₂.extBut b o hbL (hk b o hbw e))
end

section
variable {w : World} {mg mb : Str → Option Value} {G : Heap} {prog : Program} {A : Around} {E : Value → Shared → Prop} {s : Shared} {Q : Value → Shared → Prop}

theorem pieceF_ {n : Int} {t : Tok} (D : Gd w mg mb s.heap) (hA : A.depth < recursionLimit)
    (hQ : ∀ p v h' tk, PV p v → Small 3 p → Fine p → Grows s.heap h' → Q v { s with heap := h', toks := tk }) :
    wpAny (model prog w) A (call (.ref 64) [.int n t]) Q E s := by
  refine enter D hA rfl (by rfl) (BindsTo.of_eq rfl) (by decide) (locs rfl) ?_
  intro h₁ F
  refine wpAny_execs_cons (wpAny_Return_some (Subscript_ (List_ ?_)))
  refine wpAny_items_cons (wpAny_Constant_none ?_)
  refine wpAny_items_cons (wpAny_Constant_str ?_)
  refine wpAny_items_cons (wpAny_Constant_str ?_)
  refine wpAny_items_cons (wpAny_Constant_str ?_)
  refine wpAny_items_cons (wpAny_Constant_str ?_)
  refine wpAny_items_cons (wpAny_Constant_str ?_)
  refine wpAny_items_nil ?_
  refine wpAny_newList ?_
  have F' := F.push { cls := .type "list", data := .seq ([Value.none, Value.str (Str.ofString "a") (s.toks+1), Value.str (Str.ofString "C") (s.toks+1+1), Value.str (Str.ofString "b.c") (s.toks+1+1+1), Value.str (Str.ofString "") (s.toks+1+1+1+1), Value.str (Str.ofString "é") (s.toks+1+1+1+1+1)]).toArray }
  refine wpAny_BinOp (ld F' rfl (wpAny_Constant_int (mod_int (by decide) ?_)))
  have h0 : 0 ≤ n.fmod 6 := Int.fmod_nonneg_of_pos _ (by decide)
  have h6 : n.fmod 6 < 6 := Int.fmod_lt_of_pos _ (by decide)
  have hit : ∃ p v, ([Value.none, Value.str (Str.ofString "a") (s.toks+1), Value.str (Str.ofString "C") (s.toks+1+1), Value.str (Str.ofString "b.c") (s.toks+1+1+1), Value.str (Str.ofString "") (s.toks+1+1+1+1), Value.str (Str.ofString "é") (s.toks+1+1+1+1+1)])[(n.fmod 6).toNat]? = some v ∧ PV p v ∧ Small 3 p ∧ Fine p := by
    have hk : n.fmod 6 = 0 ∨ n.fmod 6 = 1 ∨ n.fmod 6 = 2 ∨ n.fmod 6 = 3 ∨ n.fmod 6 = 4 ∨ n.fmod 6 = 5 := by omega
    rcases hk with e | e | e | e | e | e <;> rw [e]
    · exact ⟨none, _, rfl, rfl, fun x e => (nomatch e), fun x e => nomatch e⟩
    · exact ⟨some _, _, rfl, ⟨_, rfl⟩, fun x e => (by cases e; decide), fun x e => by cases e; decide +kernel⟩
    · exact ⟨some _, _, rfl, ⟨_, rfl⟩, fun x e => (by cases e; decide), fun x e => by cases e; decide +kernel⟩
    · exact ⟨some _, _, rfl, ⟨_, rfl⟩, fun x e => (by cases e; decide), fun x e => by cases e; decide +kernel⟩
    · exact ⟨some _, _, rfl, ⟨_, rfl⟩, fun x e => (by cases e; decide), fun x e => by cases e; decide +kernel⟩
    · exact ⟨some _, _, rfl, ⟨_, rfl⟩, fun x e => (by cases e; decide), fun x e => by cases e; decide +kernel⟩
  obtain ⟨p, v, hv, hp, hs, hf⟩ := hit
  have hl : (h₁.push { cls := .type "list", data := .seq ([Value.none, Value.str (Str.ofString "a") (s.toks+1), Value.str (Str.ofString "C") (s.toks+1+1), Value.str (Str.ofString "b.c") (s.toks+1+1+1), Value.str (Str.ofString "") (s.toks+1+1+1+1), Value.str (Str.ofString "é") (s.toks+1+1+1+1+1)]).toArray }).IsList h₁.objs.size ([Value.none, Value.str (Str.ofString "a") (s.toks+1), Value.str (Str.ofString "C") (s.toks+1+1), Value.str (Str.ofString "b.c") (s.toks+1+1+1), Value.str (Str.ofString "") (s.toks+1+1+1+1), Value.str (Str.ofString "é") (s.toks+1+1+1+1+1)]).toArray := ⟨_, Heap.get?_push_size _ rfl, rfl, _, rfl⟩
  refine tail_any (ops := [_, _]) (Heap.IsList.typeIs (s := { s with heap := _, toks := _ }) hl) slot_list_getitem.lookup (wpAny_getItem_list hl h0 (by omega) (by simpa using hv) ?_) (by with_unfolding_all rfl)
  exact hQ p v _ _ hp hs hf F'.keep
end

/-- all that the law asks of a row's pieces -/
structure RowOk (ps : List Pc) : Prop where
  two : 2 ≤ ps.length
  five : ps.length ≤ 5
  small : ∀ p ∈ ps, Small 3 p
  fine : ∀ p ∈ ps, Fine p
def PcOk (p : Pc) : Prop := Small 3 p ∧ Fine p
theorem RowOk.of {ps : List Pc} (h2 : 2 ≤ ps.length) (h5 : ps.length ≤ 5) (h : ∀ p ∈ ps, PcOk p) : RowOk ps := ⟨h2, h5, fun p hp => (h p hp).1, fun p hp => (h p hp).2⟩
theorem pcOk_c : PcOk (some cS) := ⟨fun x e => (by cases e; decide), fun x e => by cases e; exact fine_c⟩
theorem paired_take {α β : Type} {F : α → β → Prop} : ∀ {l : List α} {r : List β}, Paired F l r → ∀ k, Paired F (l.take k) (r.take k)
  | _, _, _, 0 => .nil
  | _, _, .nil, _ + 1 => .nil
  | _, _, .cons x r, k + 1 => .cons x (paired_take r k)
theorem paired_drop {α β : Type} {F : α → β → Prop} : ∀ {l : List α} {r : List β}, Paired F l r → ∀ k, Paired F (l.drop k) (r.drop k)
  | _, _, h, 0 => h
  | _, _, .nil, _ + 1 => .nil
  | _, _, .cons _ r, k + 1 => paired_drop r k
theorem strs_of_pvs : ∀ {vs : List Value} {ns : List Str}, PVs vs (ns.map some) → StrsAre vs ns
  | _, [], .nil => .nil
  | _, n :: ns, .cons x r => by
    obtain ⟨t, rfl⟩ := x
    exact .cons n t (strs_of_pvs r)
theorem isPerm_texts {n1 n2 y1 y2 : List Str} (r1 : Rising y1) (r2 : Rising y2) (h1 : y1.Perm (firsts n1)) (h2 : y2.Perm (firsts n2)) : (firsts n1).isPerm (firsts n2) = decide (y1 = y2) := by
  rw [Bool.eq_iff_iff, List.isPerm_iff, decide_eq_true_eq]
  constructor
  · intro h
    exact rising_eq r1 r2 ((h1.trans h).trans h2.symm)
  · rintro rfl
    exact h1.symm.trans h2
theorem slice_push {h₀ h : Heap} {L : Addr} {m : Str → Option Value} {news : List (Addr × Obj)} (F : Fr h₀ L h m) (N : News h₀ L h news) (o : Obj) (items : List Value) :
    ∃ h', (h.push o).push { cls := .type "list", data := .seq (List.toArray items) } = h' ∧ Grows h h' ∧ Fr h₀ L h' m ∧ News h₀ L h' ((h.objs.size + 1, listOf (List.toArray items) 0) :: news) := by
  have g : Grows h ((h.push o).push { cls := .type "list", data := .seq (List.toArray items) }) := grows_trans grows_push grows_push
  refine ⟨_, rfl, g, F.keeps g, newsAdd F N g (Heap.get?_none_of_le (Nat.le_succ _)) ?_⟩
  have := Heap.get?_push_size (h.push o) (o := { cls := .type "list", data := .seq (List.toArray items) }) rfl
  rw [Heap.size_push] at this
  exact this
theorem soft_fr {base h h' : Heap} {L : Addr} {m : Str → Option Value} (F : Fr base L h m) (S : Soft [L] h h') : Fr base L h' m :=
  ⟨S.slots.ns F.ns, fun b o e => S.keep b o (fun hm => by
    have : b < base.objs.size := Heap.lt_size e
    rw [List.mem_singleton.mp hm] at this
    exact absurd (Nat.lt_of_lt_of_le this F.above) (Nat.lt_irrefl _)) (F.keep b o e), F.above⟩
theorem soft_news {base h h' : Heap} {L : Addr} {news : List (Addr × Obj)} (N : News base L h news) (S : Soft [L] h h') : News base L h' news := fun p hp =>
  ⟨S.keep _ _ (fun hm => (N p hp).2.1 (List.mem_singleton.mp hm)) (N p hp).1, (N p hp).2⟩
end

section
section
variable {w : World} {prog : Program} {A : Around} {E : Value → Shared → Prop} {s : Shared}

/-- what a slice gives: a new list -/
def SliceOut (Q : Value → Shared → Prop) (s : Shared) (out : List Value) : Prop := ∀ a h' tk, s.heap.get? a = none → h'.get? a = some (listOf (List.toArray out) 0) → Grows s.heap h' → Q (.ref a) { s with heap := h', toks := tk }
theorem slice_made {Q : Value → Shared → Prop} {o : Obj} {out : List Value} {its : Array Value} (e : its = List.toArray out) (h : SliceOut Q s out) : Q (.ref (s.heap.objs.size + 1)) { s with heap := (s.heap.push o).push { cls := .type "list", data := .seq its } } := by
  subst e
  have := Heap.get?_push_size (s.heap.push o) (o := { cls := .type "list", data := .seq (List.toArray out) }) rfl
  rw [Heap.size_push] at this
  exact h _ _ s.toks (Heap.get?_none_of_le (Nat.le_succ _)) this (grows_trans grows_push grows_push)

theorem sliceUpto {env : Env} {value up : Expr} {p pos : Pos} {Q : Value → Shared → Prop}
    (h : wpAny (model prog w) A (eval value env) (fun o s₁ => wpAny (model prog w) A (eval up env) (fun u s₂ => ∃ l vs b t, o = .ref l ∧ u = .int ((b : Nat) : Int) t ∧ s₂.heap.IsList l (List.toArray vs) ∧ vs.length ≤ 1000 ∧ SliceOut Q s₂ (vs.take b)) E s₁) E s)
    (ht : ∀ o r, letTemporaryGo value o r = pure ()) :
    wpAny (model prog w) A (eval (.Subscript value (.Slice none (some up) none p) pos) env) Q E s := by
  refine wpAny_Subscript_list_slice (wpAny_mono h (fun o s₁ h₁ => ?_) fun _ _ e => e) ht
  rw [evalPart_none, evalPart_some]
  refine wpAny_pure (wpAny_mono h₁ (fun u s₂ h₂ => ?_) fun _ _ e => e)
  obtain ⟨l, vs, b, t, rfl, rfl, hl, hz, hq⟩ := h₂
  exact ⟨l, _, none, some (b : Int), rfl, hl, by rw [List.size_toArray, sizeLine_eq]; omega, .none, .int _ _, slice_made (slicePick_upto' _ _) hq⟩
theorem sliceFrom {env : Env} {value lo : Expr} {p pos : Pos} {Q : Value → Shared → Prop}
    (h : wpAny (model prog w) A (eval value env) (fun o s₁ => wpAny (model prog w) A (eval lo env) (fun u s₂ => ∃ l vs b t, o = .ref l ∧ u = .int ((b : Nat) : Int) t ∧ s₂.heap.IsList l (List.toArray vs) ∧ vs.length ≤ 1000 ∧ SliceOut Q s₂ (vs.drop b)) E s₁) E s)
    (ht : ∀ o r, letTemporaryGo value o r = pure ()) :
    wpAny (model prog w) A (eval (.Subscript value (.Slice (some lo) none none p) pos) env) Q E s := by
  refine wpAny_Subscript_list_slice (wpAny_mono h (fun o s₁ h₁ => ?_) fun _ _ e => e) ht
  rw [evalPart_none, evalPart_some]
  refine wpAny_mono h₁ (fun u s₂ h₂ => wpAny_pure ?_) fun _ _ e => e
  obtain ⟨l, vs, b, t, rfl, rfl, hl, hz, hq⟩ := h₂
  exact ⟨l, _, some (b : Int), none, rfl, hl, by rw [List.size_toArray, sizeLine_eq]; omega, .int _ _, .none, slice_made (slicePick_from' _ _) hq⟩
theorem sliceRun {env : Env} {value lo up : Expr} {p pos : Pos} {Q : Value → Shared → Prop}
    (h : wpAny (model prog w) A (eval value env) (fun o s₁ => wpAny (model prog w) A (eval lo env) (fun v s₂ => wpAny (model prog w) A (eval up env) (fun u s₃ => ∃ l vs a b t t', o = .ref l ∧ v = .int ((a : Nat) : Int) t ∧ u = .int ((b : Nat) : Int) t' ∧ s₃.heap.IsList l (List.toArray vs) ∧ vs.length ≤ 1000 ∧ a ≤ b ∧ b ≤ vs.length ∧ SliceOut Q s₃ ((vs.drop a).take (b - a))) E s₂) E s₁) E s)
    (ht : ∀ o r, letTemporaryGo value o r = pure ()) :
    wpAny (model prog w) A (eval (.Subscript value (.Slice (some lo) (some up) none p) pos) env) Q E s := by
  refine wpAny_Subscript_list_slice (wpAny_mono h (fun o s₁ h₁ => ?_) fun _ _ e => e) ht
  rw [evalPart_some, evalPart_some]
  refine wpAny_mono h₁ (fun v s₂ h₂ => wpAny_mono h₂ (fun u s₃ h₃ => ?_) fun _ _ e => e) fun _ _ e => e
  obtain ⟨l, vs, a, b, t, t', rfl, rfl, rfl, hl, hz, hab, hb, hq⟩ := h₃
  exact ⟨l, _, some (a : Int), some (b : Int), rfl, hl, by rw [List.size_toArray, sizeLine_eq]; omega, .int _ _, .int _ _, slice_made (slicePick_run _ _ _ (by simpa using hb) hab) hq⟩

end

def AllInts (vs : List Value) : Prop := ∀ v ∈ vs, ∃ k t, v = Value.int k t
theorem allInts_of : ∀ {vs : List Value} {ks : List Int}, IntsAre vs ks → AllInts vs
  | _, _, .nil => fun v hv => nomatch hv
  | _, _, .cons k t r => fun v hv => by
    rcases List.mem_cons.mp hv with rfl | hv
    · exact ⟨k, t, rfl⟩
    · exact allInts_of r v hv
theorem newTen {w : World} {prog : Program} {A : Around} {E : Value → Shared → Prop} {s : Shared} {Q : Value → Shared → Prop} {vs : List Value} (hl : vs.length = 10) (ha : AllInts vs)
    (h : ∀ vs : List Value, vs.length = 10 → AllInts vs → Q (.ref s.heap.objs.size) { s with heap := s.heap.push (listOf (List.toArray vs) 0) }) : wpAny (model prog w) A (newList vs) Q E s :=
  wpAny_newList (h vs hl ha) (by rw [sizeLine_eq]; omega)
theorem allInts_cons {k : Int} {t : Tok} {r : List Value} (h : AllInts r) : AllInts (.int k t :: r) := fun v hv => by
  rcases List.mem_cons.mp hv with rfl | hv
  · exact ⟨k, t, rfl⟩
  · exact h v hv
theorem allInts_nil : AllInts [] := fun v hv => nomatch hv
theorem allInts_app {a b : List Value} (ha : AllInts a) (hb : AllInts b) : AllInts (a ++ b) := fun v hv => (List.mem_append.mp hv).elim (ha v) (hb v)
section
variable {w : World} {prog : Program} {A : Around} {E : Value → Shared → Prop} {s : Shared}
theorem tenList {env : Env} {pos : Pos} {n0 n1 n2 n3 n4 n5 n6 n7 n8 n9 : Int} {c0 c1 c2 c3 c4 c5 c6 c7 c8 c9 : Nat} {p0 p1 p2 p3 p4 p5 p6 p7 p8 p9 : Pos} {Q : Value → Shared → Prop}
    (h : ∀ a h' tk (vs : List Value), s.heap.get? a = none → h'.get? a = some (listOf (List.toArray vs) 0) → vs.length = 10 → AllInts vs → Grows s.heap h' → Q (.ref a) { s with heap := h', toks := tk }) :
    wpAny (model prog w) A (eval (.List [.Constant (.int n0) c0 p0, .Constant (.int n1) c1 p1, .Constant (.int n2) c2 p2, .Constant (.int n3) c3 p3, .Constant (.int n4) c4 p4, .Constant (.int n5) c5 p5, .Constant (.int n6) c6 p6, .Constant (.int n7) c7 p7, .Constant (.int n8) c8 p8, .Constant (.int n9) c9 p9] pos) env) Q E s := by
  refine List_ ?_
  iterate 10 refine wpAny_items_cons (wpAny_Constant_int ?_)
  refine wpAny_items_nil (newTen rfl (by repeat' first | exact allInts_nil | apply allInts_cons) ?_)
  intro vs hl ha
  exact h _ _ _ vs (Heap.get?_none_of_le (Nat.le_refl _)) (Heap.get?_push_size _ rfl) hl ha grows_push
theorem addL2 {l b : Addr} {vs ws : List Value} {Q : Value → Shared → Prop} (hl : s.heap.IsList l vs.toArray) (hb : s.heap.IsList b ws.toArray) (hsz : vs.length + ws.length ≤ 1000)
    (h : ∀ a h', s.heap.get? a = none → h'.get? a = some (listOf (List.toArray (vs ++ ws)) 0) → Grows s.heap h' → Q (.ref a) { s with heap := h' }) :
    wpAny (model prog w) A (binaryOp .Add (.ref l) (.ref b)) Q E s :=
  addL hl hb (h _ _ (Heap.get?_none_of_le (Nat.le_refl _)) (Heap.get?_push_size _ rfl) grows_push) (by rw [sizeLine_eq]; omega)
end
/-- the pieces of the pool -/
def PoolIn (n : Nat) (ys : List Value) : Prop := ∃ ps : List Pc, ps.length = n ∧ PVs ys ps ∧ ∀ p ∈ ps, PcOk p
/-- behind an assigned comprehension -/
theorem comp_after {base h h' : Heap} {L a : Addr} {m m' : Str → Option Value} {news : List (Addr × Obj)} {o₁ oa : Obj} (F : Fr base L h m) (N : News base L h news) (hns : h'.Ns L m') (hp0 : (h.push o₁).get? a = none) (hpo : h'.get? a = some oa)
    (hk : ∀ b o, b ∉ [h.objs.size] → b ≠ L → (h.push o₁).get? b = some o → h'.get? b = some o) : Fr base L h' m' ∧ News base L h' ((a, oa) :: news) := by
  have kk : ∀ b o, b ≠ L → h.get? b = some o → h'.get? b = some o := fun b o hb e => hk b o (by have := Heap.lt_size e; simp; exact Nat.ne_of_lt this) hb (Heap.get?_push_of_some _ e)
  have nb : ∀ b o, base.get? b = some o → b ≠ L := fun b o e => Nat.ne_of_lt (Nat.lt_of_lt_of_le (Heap.lt_size e) F.above)
  have hpn : h.get? a = none := by
    cases e : h.get? a with
    | none => rfl
    | some o => exact absurd (hp0.symm.trans (Heap.get?_push_of_some _ e)) (fun q => nomatch q)
  refine ⟨⟨hns, fun b o e => kk b o (nb b o e) (F.keep b o e), F.above⟩, fun p hp => ?_⟩
  rcases List.mem_cons.mp hp with rfl | hp
  · refine ⟨hpo, fun q => ?_, ?_⟩
    · obtain ⟨oL, _, _, ho, _⟩ := F.ns
      rw [← show a = L from q, hpn] at ho; cases ho
    · cases e : base.get? a with
      | none => rfl
      | some o' => have := F.keep _ _ e; rw [hpn] at this; cases this
  · exact ⟨kk _ _ (N p hp).2.1 (N p hp).1, (N p hp).2⟩
theorem not76 {h : Heap} {b : Addr} {its : Array Value} {n : Nat} {q : Str} {pos : Pos} {g : Heap} {tab : Obj} (hb : h.get? b = some (listOf its n)) (ht : h.get? 76 = some tab) (ok : TabOk q pos g tab) : b ≠ 76 := fun e => by
  rw [e, ht] at hb
  rcases ok with rfl | ⟨_, rfl, _⟩ <;> cases hb
theorem base_hide {base h : Heap} {L : Addr} {m : Str → Option Value} (F : Fr base L h m) (h76 : base.get? 76 = none) : Grows base (hideAll h [76]) := fun b o e =>
  hideAll_get _ (F.keep b o e) fun hm => by rw [List.mem_singleton.mp hm, h76] at e; cases e
theorem texts_after {base h h' : Heap} {L a : Addr} {m : Str → Option Value} {news : List (Addr × Obj)} {tab' oa : Obj} (F : Fr base L h m) (N : News base L h news) (hne : ∀ p ∈ news, p.1 ≠ 76) (hL : (76 : Addr) ≠ L) (h76 : base.get? 76 = none)
    (g : Grows (hideAll h [76]) h') (ha0 : h.get? a = none) (ha : h'.get? a = some oa) (ht : h'.get? 76 = some tab') : Fr base L h' m ∧ News base L h' ((a, oa) :: (76, tab') :: news) := by
  have up : ∀ b o, b ≠ 76 → h.get? b = some o → h'.get? b = some o := fun b o hb e => g _ _ (hideAll_get _ e (by simpa using hb))
  refine ⟨⟨F.ns.at' fun o e => up _ o (Ne.symm hL) e, fun b o e => g _ _ (base_hide F h76 b o e), F.above⟩, fun p hp => ?_⟩
  rcases List.mem_cons.mp hp with rfl | hp
  · refine ⟨ha, fun q => ?_, ?_⟩
    · obtain ⟨oL, _, _, ho, _⟩ := F.ns
      rw [← show a = L from q, ha0] at ho; cases ho
    · cases e : base.get? a with
      | none => rfl
      | some o' => have := F.keep _ _ e; rw [ha0] at this; cases this
  · rcases List.mem_cons.mp hp with rfl | hp
    · exact ⟨ht, hL, h76⟩
    · exact ⟨up _ _ (hne p hp) (N p hp).1, (N p hp).2⟩
theorem tab_extra {base h : Heap} {L : Addr} {m : Str → Option Value} {q : Str} {pos : Pos} {tab : Obj} (F : Fr base L h m) (h76 : base.get? 76 = none) (k : TabOk q pos (hideAll h [76]) tab) :
    ∃ extra, News base L h extra ∧ ∀ g m', Fr base L g m' → News base L g extra → TabOk q pos (hideAll g [76]) tab := by
  rcases k with rfl | ⟨c', rfl, c, oc, vs, t, e, ho, hd, hv⟩
  · exact ⟨[], News.nil, fun g m' _ _ => .inl rfl⟩
  · cases e
    have ho' := of_hideAll _ ho
    have hc76 : c' ≠ 76 := fun e => by rw [e, hideAll_none _ (.head _)] at ho; cases ho
    cases eb : base.get? c' with
    | none =>
      refine ⟨[(c', oc)], fun p hp => ?_, fun g m' _ N => .inr ⟨c', rfl, c', oc, vs, t, rfl, hideAll_get _ (N _ (.head _)).1 (by simpa using hc76), hd, hv⟩⟩
      rw [List.mem_singleton.mp hp]
      refine ⟨ho', fun e => ?_, eb⟩
      obtain ⟨oL, es, ep, hoL, hdL, _⟩ := F.ns
      rw [← show c' = L from e, ho'] at hoL; cases hoL; rw [hd] at hdL; cases hdL
    | some o' =>
      have := F.keep _ _ eb
      rw [ho'] at this; cases this
      exact ⟨[], News.nil, fun g m' F' _ => .inr ⟨c', rfl, c', oc, vs, t, rfl, hideAll_get _ (F'.keep _ _ eb) (by simpa using hc76), hd, hv⟩⟩
/-- both rows stand -/
inductive RowsP (base : Heap) (s₁ : Shared) : Shared → Prop
  | mk (h' : Heap) (tk' : Nat) (m' : Str → Option Value) (on : Addr) (ov : List Value) (no : Nat) (ps : List Pc) (tw : Addr) (tv : List Value) (nt : Nat) (qs : List Pc) : Fr base s₁.heap.objs.size h' m' →
    News base s₁.heap.objs.size h' [(on, listOf (List.toArray ov) no), (tw, listOf (List.toArray tv) nt), (76, tabObj #[])] → m' (Str.ofString "one") = some (.ref on) → m' (Str.ofString "two") = some (.ref tw) → PVs ov ps → RowOk ps → PVs tv qs → RowOk qs →
    RowsP base s₁ { s₁ with heap := h', toks := tk' }
theorem subN {α : Type} {l : List α} : ∀ p ∈ ([] : List α), p ∈ l := fun _ h => nomatch h
theorem subC {α : Type} {l t : List α} {a : α} (h : a ∈ l) (hs : ∀ p ∈ t, p ∈ l) : ∀ p ∈ a :: t, p ∈ l := List.forall_mem_cons.mpr ⟨h, hs⟩
theorem newsSub {h₀ h : Heap} {L : Addr} {l t : List (Addr × Obj)} (N : News h₀ L h l) (hs : ∀ p ∈ t, p ∈ l) : News h₀ L h t := fun p hp => N p (hs p hp)
theorem newsC {h₀ h : Heap} {L : Addr} {t : List (Addr × Obj)} {a : Addr × Obj} (x : h.get? a.1 = some a.2 ∧ a.1 ≠ L ∧ h₀.get? a.1 = none) (N : News h₀ L h t) : News h₀ L h (a :: t) := List.forall_mem_cons.mpr ⟨x, N⟩
theorem ne76N : ∀ p ∈ ([] : List (Addr × Obj)), p.1 ≠ 76 := fun _ h => nomatch h
theorem ne76C {t : List (Addr × Obj)} {a : Addr × Obj} (x : a.1 ≠ 76) (N : ∀ p ∈ t, p.1 ≠ 76) : ∀ p ∈ a :: t, p.1 ≠ 76 := List.forall_mem_cons.mpr ⟨x, N⟩
/-- the law's end -/
def LawEnd (base : Heap) (s₁ : Shared) (f : Flow) (s' : Shared) : Prop := ∃ h' tk' tab' m', f = .ret (.bool true) ∧ s' = { s₁ with heap := h', toks := tk' } ∧ Fr base s₁.heap.objs.size h' m' ∧ h'.get? 76 = some tab' ∧ TabOk lamQual lamPos (hideAll h' [76]) tab'
end

section
section
variable {M : Model} {A : Around} {E : Value → Shared → Prop} {env : Env} {Q : Flow → Shared → Prop} {P : Shared → Prop} {rest : List Stmt}
/-- the first statements apart: behind them P holds -/
theorem cut_at (h2 : ∀ s', P s' → wpAny M A (execs rest env) Q E s') {Γ : Ctx} (hΓ : Γ.In A) : ∀ (xs : List Stmt) (p : Pos) (s : Shared),
    Sem.wp M Γ (execs xs env) (fun f _ s' => f = .next ∧ P s') (fun e _ s' => E e s') p s → Sem.wp M Γ (execs (xs ++ rest) env) (fun f _ s' => Q f s') (fun e _ s' => E e s') p s
  | [], p, s, h => h2 s (show _ ∧ _ from h).2 Γ p hΓ
  | st :: xs, p, s, h => by
    rw [execs_cons, Sem.wp_bind'] at h
    rw [List.cons_append, execs_cons, Sem.wp_bind']
    refine Sem.wp_mono M Γ _ (fun f p' s' h' => ?_) (fun _ _ _ h' => h') _ _ h
    cases f <;> first | exact cut_at h2 hΓ xs p' s' h' | exact nomatch (show _ ∧ _ from h').1
theorem cut (xs : List Stmt) {s : Shared} (h2 : ∀ s', P s' → wpAny M A (execs rest env) Q E s') (h : wpAny M A (execs xs env) (fun f s' => f = .next ∧ P s') E s) : wpAny M A (execs (xs ++ rest) env) Q E s :=
  fun Γ p hΓ => cut_at h2 hΓ xs p s (h Γ p hΓ)
theorem cut6 {a b c d e f : Stmt} {s : Shared} (h2 : ∀ s', P s' → wpAny M A (execs rest env) Q E s') (h : wpAny M A (execs [a, b, c, d, e, f] env) (fun f s' => f = .next ∧ P s') E s) :
    wpAny M A (execs (a :: b :: c :: d :: e :: f :: rest) env) Q E s := cut [a, b, c, d, e, f] h2 h
theorem cut8 {a b c d e f g h : Stmt} {s : Shared} (h2 : ∀ s', P s' → wpAny M A (execs rest env) Q E s') (h1 : wpAny M A (execs [a, b, c, d, e, f, g, h] env) (fun f s' => f = .next ∧ P s') E s) :
    wpAny M A (execs (a :: b :: c :: d :: e :: f :: g :: h :: rest) env) Q E s := cut [a, b, c, d, e, f, g, h] h2 h1
end
/-- both rows, their names and texts stand -/
inductive RowsAll (base : Heap) (s₁ : Shared) : Shared → Prop
  | mk (h' : Heap) (tk' : Nat) (m' : Str → Option Value) (on : Addr) (ov : List Value) (no : Nat) (ps : List Pc) (tw : Addr) (tv : List Value) (nt : Nat) (qs : List Pc)
    (na : Addr) (nav : List Value) (nn₁ : Nat) (ns1 : List Str) (ta : Addr) (tav : List Value) (nt₁ : Nat) (ys1 : List Str) (oa : Addr) (oav : List Value) (no₁ : Nat) (ns2 : List Str) (wa : Addr) (wav : List Value) (nw₁ : Nat) (ys2 : List Str) (tab2 : Obj) (ex2 : List (Addr × Obj)) :
    Fr base s₁.heap.objs.size h' m' →
    News base s₁.heap.objs.size h' ((wa, listOf (List.toArray wav) nw₁) :: (76, tab2) :: (oa, listOf (List.toArray oav) no₁) :: (ta, listOf (List.toArray tav) nt₁) :: (na, listOf (List.toArray nav) nn₁) :: (on, listOf (List.toArray ov) no) :: (tw, listOf (List.toArray tv) nt) :: ex2) →
    m' (Str.ofString "one") = some (.ref on) → m' (Str.ofString "two") = some (.ref tw) → m' (Str.ofString "names") = some (.ref na) → m' (Str.ofString "texts") = some (.ref ta) → m' (Str.ofString "others") = some (.ref oa) → m' (Str.ofString "wished") = some (.ref wa) →
    PVs ov ps → RowOk ps → PVs tv qs → RowOk qs → StrsAre nav ns1 → ns1.length ≤ 14 → (∀ y, y ∈ ns1 ↔ y ∈ textsAll ps) → StrsAre tav ys1 → Rising ys1 → ys1.Perm (firsts (textsAll ps)) →
    StrsAre oav ns2 → ns2.length ≤ 14 → (∀ y, y ∈ ns2 ↔ y ∈ textsAll qs) → StrsAre wav ys2 → Rising ys2 → ys2.Perm (firsts (textsAll qs)) →
    (∀ g m', Fr base s₁.heap.objs.size g m' → News base s₁.heap.objs.size g ex2 → TabOk lamQual lamPos (hideAll g [76]) tab2) →
    RowsAll base s₁ { s₁ with heap := h', toks := tk' }
end

theorem tst : PySem.Challenge.rw_nb0058_01.Holds := hd (by
  k_go0
  rename_i w s₀ s₁ mg mb G Y fa o pm cd doc kV ho hcd hgens X0 V T0 B0 TE TW ks hs hlay hL0 hr1 hl2 as1 as2 sc svs as3 hL ra w1 r0 hI hr h63 hc hD h₁ X T B F N h76
  have hsc := lifted
  have hCd : CodeHd (ghostOf s₁.heap [(78, 76)]) 78 76 := codeHd
  have D : Gd w mg mb (ghostOf s₁.heap [(78, 76)]) := ⟨X, T.g, T.b, T.nolimit, T.builtins⟩
  have hb76 : (ghostOf s₁.heap [(78, 76)]).get? 76 = none := (N _ (.head _)).2.2
  clear codeHd lifted X0 V T0 B0 TE TW hs hlay hL0 hr1 hl2 hL ra w1 r0 hr hc hD hT8 hT9 ho hcd G Y
  dsimp only
  generalize hbase : ghostOf s₁.heap [(78, 76)] = base at *
  have hkl : ks.length ≤ 63 := by omega
  clear h63
  show wpAny (model PySem.Challenge.rw_nb0058_01.row.prog w) _ _ _ _ { s₁ with heap := h₁, toks := _ }
  refine wpAny_mono (Q := LawEnd base s₁) (E := fun _ _ => False) ?_ ?_ (fun _ _ e => e.elim)
  · generalize PySem.Challenge.rw_nb0058_01.row.prog = prog at *
    have hscl : ∀ g m', Fr base s₁.heap.objs.size g m' → g.IsList sc svs.toArray := fun g m' F' => hsc.at fun o e => F'.keep _ o e
    have hlI : svs.length = ks.length := hI.length
    refine cut8 (P := RowsAll base s₁) ?_ ?_
    · clear F N
      rintro _ ⟨h₁₈, tk₁₈, m, on, ov, no, ps, tw, tv, nt, qs, na, nav, nn₁, ns1, ta, tav, nt₁, ys1, oa, oav, no₁, ns2, wa, wav, nw₁, ys2, tab2, ex2, F, N₁₈, hmo, hmt, hmn, hmx, hmp, hmw, hov, rok, htv, sok, hns1, hn14, hmem1, htas, hri1, hpm1, hns2, hn24, hmem2, hwas, hri2, hpm2, hex2⟩
      have dep : callerA.depth + 1 + 6 < recursionLimit := by decide
      have uni : callerA.units + 3 + 110 < cLine := by decide
      iterate 15 walk1
      refine ⟨D.X.keeps F.keep, ?_⟩
      refine rowHolds_ (s := { s₁ with heap := h₁₈, toks := _ }) D (B.push F) (by show callerA.depth + 1 + 5 < _; omega) (by show callerA.units + 3 + 100 < _; omega) rfl (N₁₈ _ (.tail _ (.tail _ (.tail _ (.tail _ (.tail _ (.head _))))))).1 hov rok.two rok.five rok.small rok.fine (N₁₈ _ (.tail _ (.tail _ (.tail _ (.tail _ (.head _)))))).1 hns1 hn14 hmem1 (N₁₈ _ (.tail _ (.tail _ (.tail _ (.head _))))).1 htas hri1 hpm1 ?_
      intro h₁₉ tk₁₉ S
      have F₁₉ := soft_fr F S
      have N₁₉ := soft_news N₁₈ S
      clear F N₁₈ S
      show wpAny (model prog w) _ _ _ _ { s₁ with heap := h₁₉, toks := tk₁₉ }
      iterate 15 walk1
      refine ⟨D.X.keeps F₁₉.keep, ?_⟩
      refine rowHolds_ (s := { s₁ with heap := h₁₉, toks := _ }) D (B.push F₁₉) (by show callerA.depth + 1 + 5 < _; omega) (by show callerA.units + 3 + 100 < _; omega) rfl (N₁₉ _ (.tail _ (.tail _ (.tail _ (.tail _ (.tail _ (.tail _ (.head _)))))))).1 htv sok.two sok.five sok.small sok.fine (N₁₉ _ (.tail _ (.tail _ (.head _)))).1 hns2 hn24 hmem2 (N₁₉ _ (.head _)).1 hwas hri2 hpm2 ?_
      intro h₂₀ tk₂₀ S
      have F₂₀ := soft_fr F₁₉ S
      have N₂₀ := soft_news N₁₉ S
      clear F₁₉ N₁₉ S
      show wpAny (model prog w) _ _ _ _ { s₁ with heap := h₂₀, toks := tk₂₀ }
      have fi1 : ∀ x ∈ ys1, PyData.strOk x = true := fun x hx => texts_fine rok.fine x (firsts_mem.mp (hpm1.mem_iff.mp hx))
      have fi2 : ∀ x ∈ ys2, PyData.strOk x = true := fun x hx => texts_fine sok.fine x (firsts_mem.mp (hpm2.mem_iff.mp hx))
      have hq1 : ys1.Perm (firsts ns1) := hpm1.trans (firsts_perm fun y => (hmem1 y).symm)
      have hq2 : ys2.Perm (firsts ns2) := hpm2.trans (firsts_perm fun y => (hmem2 y).symm)
      iterate 10 walk1
      refine eq_texts (s := { s₁ with heap := h₂₀, toks := _ }) ⟨_, (N₂₀ _ (.tail _ (.tail _ (.tail _ (.head _))))).1, rfl, _, rfl⟩ ⟨_, (N₂₀ _ (.head _)).1, rfl, _, rfl⟩ htas hwas fi1 fi2 (by show callerA.units + 3 + 64 < _; omega) ?_
      have hb12 := isPerm_texts hri1 hri2 hq1 hq2
      have hb21 : (firsts ns2).isPerm (firsts ns1) = decide (ys1 = ys2) := by
        rw [isPerm_texts hri2 hri1 hq2 hq1]; exact decide_eq_decide.mpr eq_comm
      generalize decide (ys1 = ys2) = bb at hb12 hb21 ⊢
      iterate 14 walk1
      rename Fr _ _ _ _ => F
      rename News _ _ _ _ => N
      with_reducible rename Heap => h₂₁
      show wpAny (model prog w) _ (call (.ref 57) [.ref na, .ref oa]) _ _ { s₁ with heap := h₂₁, toks := _ }
      refine compare_ (s := { s₁ with heap := h₂₁, toks := _ }) D (by show callerA.depth + 1 + 1 < _; omega) rfl (B.push F) (N _ (.tail _ (.tail _ (.tail _ (.tail _ (.head _)))))).1 hns1 (by omega) (N _ (.tail _ (.tail _ (.head _)))).1 hns2 (by omega) ?_
      intro h₂₂ tk₂₂ S
      rw [hb12]
      have F₂₂ := soft_fr F S
      have N₂₂ := soft_news N S
      clear F N S
      show wpAny (model prog w) _ _ _ _ { s₁ with heap := h₂₂, toks := tk₂₂ }
      iterate 3 walk1
      rw [if_pos (by simp)]
      iterate 11 walk1
      show wpAny (model prog w) _ (call (.ref 57) [.ref oa, .ref na]) _ _ { s₁ with heap := h₂₂, toks := _ }
      refine compare_ (s := { s₁ with heap := h₂₂, toks := _ }) D (by show callerA.depth + 1 + 1 < _; omega) rfl (B.push F₂₂) (N₂₂ _ (.tail _ (.tail _ (.head _)))).1 hns2 (by omega) (N₂₂ _ (.tail _ (.tail _ (.tail _ (.tail _ (.head _)))))).1 hns1 (by omega) ?_
      intro h₂₃ tk₂₃ S
      rw [hb21]
      have F₂₃ := soft_fr F₂₂ S
      have N₂₃ := soft_news N₂₂ S
      clear F₂₂ N₂₂ S
      show wpAny (model prog w) _ _ _ _ { s₁ with heap := h₂₃, toks := tk₂₃ }
      iterate 2 walk1
      refine ⟨h₂₃, _, tab2, _, by simp, rfl, F₂₃, (N₂₃ _ (.tail _ (.head _))).1, hex2 _ _ F₂₃ (fun p hp => N₂₃ p (.tail _ (.tail _ (.tail _ (.tail _ (.tail _ (.tail _ (.tail _ hp))))))))⟩
    · refine cut6 (P := RowsP base s₁) ?_ ?_
      · clear F N
        rintro _ ⟨h₁₂, tk₁₂, m, on, ov, no, ps, tw, tv, nt, qs, F₁₂, N₁₂, hmo, hmt, hov, rok, htv, sok⟩
        have X := D.X
        have h76L : (76 : Addr) ≠ s₁.heap.objs.size := Nat.ne_of_lt h76
        have dep : callerA.depth + 1 + 6 < recursionLimit := by decide
        have uni : callerA.units + 3 + 110 < cLine := by decide
        iterate 10 walk1
        refine ⟨D.X.keeps F₁₂.keep, ?_⟩
        refine ways_ (s := { s₁ with heap := h₁₂, toks := _ }) (D.keeps F₁₂.keep) (by show callerA.depth + 1 + 1 < _; omega) rfl (N₁₂ _ (.head _)).1 hov rok.two rok.five rok.small ?_
        intro na nav nn₁ h₁₃ tk₁₃ hna0 hnao hnav g13
        obtain ⟨ns1, ens1, hn14, hmem1⟩ := ways_texts rok.two rok.five
        rw [ens1] at hnav
        have hns1 := strs_of_pvs hnav
        have F₁₃ := F₁₂.keeps g13
        have N₁₃ := newsAdd F₁₂ N₁₂ g13 hna0 hnao
        clear F₁₂ N₁₂
        show wpAny (model prog w) _ _ _ _ { s₁ with heap := h₁₃, toks := tk₁₃ }
        iterate 7 walk1
        refine ⟨D.X.keeps F₁₃.keep, ?_⟩
        have t13 := (N₁₃ _ (.tail _ (.tail _ (.tail _ (.head _))))).1
        have k13 : TabOk lamQual lamPos (hideAll h₁₃ [76]) (tabObj #[]) := .inl rfl
        have nna := not76 (N₁₃ _ (.head _)).1 t13 k13
        have non := not76 (N₁₃ _ (.tail _ (.head _))).1 t13 k13
        have ntw := not76 (N₁₃ _ (.tail _ (.tail _ (.head _)))).1 t13 k13
        have bh := base_hide F₁₃ hb76
        refine texts_ (s := { s₁ with heap := h₁₃, toks := _ }) (D.keeps bh) (T.keeps bh) (hCd.keeps bh) t13 k13 (by show callerA.depth + 1 + 2 < _; omega) (by show callerA.units + 3 + 10 < _; omega) rfl (hideAll_get _ (N₁₃ _ (.tail _ (.head _))).1 (by simpa using non)) hov rok.two rok.five rok.small ?_
        intro ta tav nt₁ ys1 tab1 h₁₄ tk₁₄ hta0 htao htas hri1 hpm1 gh14 h14t k14
        obtain ⟨F₁₄, N₁₄⟩ := texts_after (news := [(na, listOf (List.toArray nav) nn₁), (on, listOf (List.toArray ov) no), (tw, listOf (List.toArray tv) nt)]) F₁₃ (newsSub N₁₃ (subC (.head _) (subC (.tail _ (.head _)) (subC (.tail _ (.tail _ (.head _))) subN))))
          (ne76C nna (ne76C non (ne76C ntw ne76N))) h76L hb76 gh14 hta0 htao h14t
        obtain ⟨ex, Nex, hex⟩ := tab_extra F₁₄ hb76 k14
        have N₁₄' : News base s₁.heap.objs.size h₁₄ ((ta, listOf (List.toArray tav) nt₁) :: (76, tab1) :: (na, listOf (List.toArray nav) nn₁) :: (on, listOf (List.toArray ov) no) :: (tw, listOf (List.toArray tv) nt) :: ex) := newsC (N₁₄ _ (.head _)) (newsC (N₁₄ _ (.tail _ (.head _))) (newsC (N₁₄ _ (.tail _ (.tail _ (.head _)))) (newsC (N₁₄ _ (.tail _ (.tail _ (.tail _ (.head _))))) (newsC (N₁₄ _ (.tail _ (.tail _ (.tail _ (.tail _ (.head _)))))) Nex))))
        clear F₁₃ N₁₃ bh N₁₄ Nex
        show wpAny (model prog w) _ _ _ _ { s₁ with heap := h₁₄, toks := tk₁₄ }
        iterate 10 walk1
        rename Fr _ _ _ _ => F
        rename News _ _ _ _ => N
        with_reducible rename Heap => h₁₅
        have N₁₅ : News base s₁.heap.objs.size h₁₅ ((ta, listOf (List.toArray tav) nt₁) :: (76, tab1) :: (na, listOf (List.toArray nav) nn₁) :: (on, listOf (List.toArray ov) no) :: (tw, listOf (List.toArray tv) nt) :: ex) := fun p hp => N p (.tail _ hp)
        clear N
        show wpAny (model prog w) _ _ _ _ { s₁ with heap := h₁₅, toks := _ }
        iterate 11 walk1
        refine ⟨D.X.keeps F.keep, ?_⟩
        refine ways_ (s := { s₁ with heap := h₁₅, toks := _ }) (D.keeps F.keep) (by show callerA.depth + 1 + 1 < _; omega) rfl (N₁₅ _ (.tail _ (.tail _ (.tail _ (.tail _ (.head _)))))).1 htv sok.two sok.five sok.small ?_
        intro oa oav no₁ h₁₆ tk₁₆ hoa0 hoao hoav g16
        obtain ⟨ns2, ens2, hn24, hmem2⟩ := ways_texts sok.two sok.five
        rw [ens2] at hoav
        have hns2 := strs_of_pvs hoav
        have F₁₆ := F.keeps g16
        have N₁₆ := newsAdd F N₁₅ g16 hoa0 hoao
        clear F N₁₅
        show wpAny (model prog w) _ _ _ _ { s₁ with heap := h₁₆, toks := tk₁₆ }
        iterate 7 walk1
        refine ⟨D.X.keeps F₁₆.keep, ?_⟩
        have t16 := (N₁₆ _ (.tail _ (.tail _ (.head _)))).1
        have k16 := hex h₁₆ _ F₁₆ (fun p hp => N₁₆ p (.tail _ (.tail _ (.tail _ (.tail _ (.tail _ (.tail _ hp)))))))
        have noa := not76 (N₁₆ _ (.head _)).1 t16 k16
        have nta := not76 (N₁₆ _ (.tail _ (.head _))).1 t16 k16
        have bh := base_hide F₁₆ hb76
        refine texts_ (s := { s₁ with heap := h₁₆, toks := _ }) (D.keeps bh) (T.keeps bh) (hCd.keeps bh) t16 k16 (by show callerA.depth + 1 + 2 < _; omega) (by show callerA.units + 3 + 10 < _; omega) rfl (hideAll_get _ (N₁₆ _ (.tail _ (.tail _ (.tail _ (.tail _ (.tail _ (.head _))))))).1 (by simpa using ntw)) htv sok.two sok.five sok.small ?_
        intro wa wav nw₁ ys2 tab2 h₁₇ tk₁₇ hwa0 hwao hwas hri2 hpm2 gh17 h17t k17
        obtain ⟨F₁₇, N₁₇⟩ := texts_after (news := [(oa, listOf (List.toArray oav) no₁), (ta, listOf (List.toArray tav) nt₁), (na, listOf (List.toArray nav) nn₁), (on, listOf (List.toArray ov) no), (tw, listOf (List.toArray tv) nt)]) F₁₆ (newsSub N₁₆ (subC (.head _) (subC (.tail _ (.head _)) (subC (.tail _ (.tail _ (.tail _ (.head _)))) (subC (.tail _ (.tail _ (.tail _ (.tail _ (.head _))))) (subC (.tail _ (.tail _ (.tail _ (.tail _ (.tail _ (.head _)))))) subN))))))
          (ne76C noa (ne76C nta (ne76C nna (ne76C non (ne76C ntw ne76N))))) h76L hb76 gh17 hwa0 hwao h17t
        obtain ⟨ex2, Nex2, hex2⟩ := tab_extra F₁₇ hb76 k17
        have N₁₇' : News base s₁.heap.objs.size h₁₇ ((wa, listOf (List.toArray wav) nw₁) :: (76, tab2) :: (oa, listOf (List.toArray oav) no₁) :: (ta, listOf (List.toArray tav) nt₁) :: (na, listOf (List.toArray nav) nn₁) :: (on, listOf (List.toArray ov) no) :: (tw, listOf (List.toArray tv) nt) :: ex2) := newsC (N₁₇ _ (.head _)) (newsC (N₁₇ _ (.tail _ (.head _))) (newsC (N₁₇ _ (.tail _ (.tail _ (.head _)))) (newsC (N₁₇ _ (.tail _ (.tail _ (.tail _ (.head _))))) (newsC (N₁₇ _ (.tail _ (.tail _ (.tail _ (.tail _ (.head _)))))) (newsC (N₁₇ _ (.tail _ (.tail _ (.tail _ (.tail _ (.tail _ (.head _))))))) (newsC (N₁₇ _ (.tail _ (.tail _ (.tail _ (.tail _ (.tail _ (.tail _ (.head _)))))))) Nex2))))))
        clear F₁₆ N₁₆ bh N₁₇ Nex2
        show wpAny (model prog w) _ _ _ _ { s₁ with heap := h₁₇, toks := tk₁₇ }
        iterate 10 walk1
        rename Fr _ _ _ _ => F
        rename News _ _ _ _ => N
        with_reducible rename Heap => h₁₈
        have N₁₈ : News base s₁.heap.objs.size h₁₈ ((wa, listOf (List.toArray wav) nw₁) :: (76, tab2) :: (oa, listOf (List.toArray oav) no₁) :: (ta, listOf (List.toArray tav) nt₁) :: (na, listOf (List.toArray nav) nn₁) :: (on, listOf (List.toArray ov) no) :: (tw, listOf (List.toArray tv) nt) :: ex2) := fun p hp => N p (.tail _ hp)
        clear N
        show wpAny (model prog w) _ _ _ _ { s₁ with heap := h₁₈, toks := _ }
        walk1
        exact wpAny_execs_nil ⟨rfl, .mk h₁₈ _ _ on ov no ps tw tv nt qs na nav nn₁ ns1 ta tav nt₁ ys1 oa oav no₁ ns2 wa wav nw₁ ys2 tab2 ex2 F N₁₈ hmo hmt (by with_unfolding_all rfl) (by with_unfolding_all rfl) (by with_unfolding_all rfl) (by with_unfolding_all rfl) hov rok htv sok hns1 hn14 hmem1 htas hri1 hpm1 hns2 hn24 hmem2 hwas hri2 hpm2 hex2⟩
      · skip
        with_reducible refine wpAny_execs_cons (wpAny_Assign_Name ?_ (by with_unfolding_all rfl))
        with_reducible refine sliceUpto ?_ (by intro _ _; with_unfolding_all rfl)
        iterate 2 walk1
        refine ⟨sc, svs, 11, _, rfl, rfl, hscl _ _ F, by omega, ?_⟩
        intro nu h₂ tk₂ hnu0 hnuo g₂
        have F₂ := F.keeps g₂
        have N₂ := newsAdd F N g₂ hnu0 hnuo
        clear F N
        show wpAny (model prog w) _ _ _ _ { s₁ with heap := h₂, toks := _ }
        have hI11 : AllInts (svs.take 11) := fun v hv => allInts_of hI v (List.mem_of_mem_take hv)
        have hl11 : (svs.take 11).length ≤ 11 := by rw [List.length_take]; omega
        generalize svs.take 11 = nv at *
        iterate 3 walk1
        rename Fr _ _ _ _ => F
        rename News _ _ _ _ => N
        with_reducible rename Heap => h₃
        show wpAny (model prog w) _ _ _ _ { s₁ with heap := h₃, toks := _ }
        have hLn : h₃.IsList nu nv.toArray := ⟨_, (N _ (.head _)).1, rfl, _, rfl⟩
        refine wpAny_mono (Q := fun v s' => ∃ k t tk, v = Value.int k t ∧ s' = { s₁ with heap := h₃, toks := tk }) (E := fun _ _ => False) ?_ ?_ (fun _ _ e => e)
        · iterate 3 walk1
          refine wpAny_truthy_list hLn (by rw [List.size_toArray]; omega) ?_
          cases nv with
          | nil =>
            rw [if_neg (by simp)]
            walk1
            exact ⟨_, _, _, rfl, rfl⟩
          | cons v vr =>
            rw [if_pos (by simp)]
            obtain ⟨k, t, rfl⟩ := hI11 v (.head _)
            iterate 3 walk1
            with_reducible refine itemL hLn (by omega) (by omega) (x := .int k t) (by simp) ?_ (by with_unfolding_all rfl)
            exact ⟨_, _, _, rfl, rfl⟩
        · rintro v s' ⟨k, tki, tk₃, rfl, rfl⟩
          iterate 2 walk1
          rename Fr _ _ _ _ => F
          rename News _ _ _ _ => N
          with_reducible rename Heap => h₄
          show wpAny (model prog w) _ _ _ _ { s₁ with heap := h₄, toks := _ }
          have hLn : h₄.IsList nu nv.toArray := ⟨_, (N _ (.head _)).1, rfl, _, rfl⟩
          refine assignComp1 (cl := []) (by with_unfolding_all rfl) (by with_unfolding_all rfl) (by decide) (by with_unfolding_all rfl) (by with_unfolding_all decide) (by with_unfolding_all rfl) (by with_unfolding_all rfl) (by with_unfolding_all rfl) ?_ (by intro _; with_unfolding_all rfl)
          with_reducible refine wpAny_BinOp ?_
          with_reducible refine sliceFrom ?_ (by intro _ _; with_unfolding_all rfl)
          iterate 2 walk1
          refine ⟨nu, nv, 1, _, rfl, rfl, hLn, by omega, ?_⟩
          intro sl h₅ tk₅ hs0 hso g₅
          have F₅ := F.keeps g₅
          have N₅ : News base s₁.heap.objs.size h₅ [(76, tabObj #[])] := fun p hp => ⟨g₅ _ _ (N p (.tail _ hp)).1, (N p (.tail _ hp)).2⟩
          clear F N hLn
          show wpAny (model prog w) _ _ _ _ { s₁ with heap := h₅, toks := _ }
          with_reducible refine tenList ?_
          intro tl h₅' tkt tens htl0 htlo htl' hta gt
          refine addL2 (s := { s₁ with heap := h₅', toks := tkt }) (vs := nv.drop 1) (ws := tens) ⟨_, gt _ _ hso, rfl, _, rfl⟩ ⟨_, htlo, rfl, _, rfl⟩ (by rw [List.length_drop]; omega) ?_
          intro it h₆ hit0 hito g6'
          have g56 : Grows h₅ h₆ := grows_trans gt g6'
          have hits : AllInts (nv.drop 1 ++ tens) := allInts_app (fun v hv => hI11 v (List.mem_of_mem_drop hv)) hta
          have hl1 : 10 ≤ (nv.drop 1 ++ tens).length := by rw [List.length_append]; omega
          have hl2 : (nv.drop 1 ++ tens).length ≤ 30 := by rw [List.length_append, List.length_drop]; omega
          have F₆ := F₅.keeps g56
          have N₆ : News base s₁.heap.objs.size h₆ [(76, tabObj #[])] := fun p hp => ⟨g56 _ _ (N₅ p hp).1, (N₅ p hp).2⟩
          obtain ⟨its, eits⟩ : ∃ its, its = nv.drop 1 ++ tens := ⟨_, rfl⟩
          rw [← eits] at hito hits hl1 hl2
          show wpAny (model prog w) _ (pyIter (.ref it)) _ _ { s₁ with heap := h₆, toks := tkt }
          clear F₅ N₅
          have hLi : h₆.IsList it its.toArray := ⟨_, hito, rfl, _, rfl⟩
          have hne : it ≠ h₆.objs.size := Nat.ne_of_lt (Heap.lt_size hito)
          have hL6 : @LT.lt Nat instLTNat s₁.heap.objs.size h₆.objs.size := F₆.ns.lt
          with_reducible refine wpAny_pyIter_list hLi ?_
          refine ⟨h₆.objs.size, [h₆.objs.size, it], [h₆.objs.size], its.toArray.size, _, _, fun _ i ys _ => PoolIn i ys, _, rfl, Walks.list rfl _ it hne its.toArray, ?_, ?_, ?_, fun _ _ => ⟨[], rfl, .nil, fun p hp => nomatch hp⟩, fun _ _ _ _ _ hj _ => hj, ?_, (F₆.push _).ns, ?_, ?_⟩
          · rw [List.size_toArray, sizeLine_eq]; omega
          · exact ⟨⟨_, Heap.get?_push_size _ rfl, rfl, rfl⟩, hLi.at fun o e => Heap.get?_push_of_some _ e⟩
          · intro b hb
            show _ < (h₆.push _).objs.size
            rw [Heap.size_push]
            rcases List.mem_cons.mp hb with rfl | hb
            · exact Nat.lt_succ_self _
            · rw [List.mem_singleton.mp hb]; exact Nat.lt_succ_of_lt (Heap.lt_size hito)
          · intro C i v ys g tkg m₂ hC hi hv hn hm hold hj
            have kg : ∀ b o, h₆.get? b = some o → g.get? b = some o := fun b o e => hold b o (by have := Heap.lt_size e; simp; exact Nat.ne_of_lt this) (Heap.get?_push_of_some _ e)
            have hab : base.objs.size ≤ C := by
              have h1 : @LE.le Nat instLENat base.objs.size s₁.heap.objs.size := F₆.above
              have h2 : @LT.lt Nat instLTNat (h₆.push { cls := .type "list_iterator", data := .fields #[.ref it, .int 0 0] }).objs.size C := hC
              rw [Heap.size_push] at h2
              show @LE.le Nat instLENat base.objs.size C
              omega
            have Fc : Fr base C g m₂ := ⟨hn, fun b o e => kg b o (F₆.keep b o e), hab⟩
            clear F₆ N₆
            have Nc : News base C g [] := News.nil
            obtain ⟨k', t', rfl⟩ := hits v (List.mem_of_getElem? (i := i) (by simpa using hv))
            unfold TurnC
            with_reducible refine wpAny_tests_nil ?_
            refine ⟨g, tkg, rfl, fun _ _ e => e, ?_⟩
            rw [if_pos rfl]
            show wpAny (model prog w) _ _ _ _ { s₁ with heap := g, toks := tkg }
            iterate 7 walk1
            refine ⟨D.X.keeps Fc.keep, ?_⟩
            refine pieceF_ (D.keeps Fc.keep) (by show callerA.depth + 1 < recursionLimit; decide) ?_
            intro p pv g' tk' hpv hps hpf gg
            refine ⟨g', tk', rfl, gg, ?_⟩
            obtain ⟨qs, hql, hqv, hqok⟩ := hj
            refine ⟨qs ++ [p], by rw [List.length_append, hql]; rfl, paired_append hqv (.cons hpv .nil), fun q hq => ?_⟩
            rcases List.mem_append.mp hq with hq | hq
            · exact hqok q hq
            · rw [List.mem_singleton.mp hq]; exact ⟨hps, hpf⟩
          · intro hm
            have e := List.mem_singleton.mp hm
            exact Nat.ne_of_lt hL6 e
          · intro pool C h₇ tk₇ pv hp0 hpl hj hle hns hk
            obtain ⟨npl, hpo⟩ := hpl
            obtain ⟨qs, hql, hqv, hqok⟩ := hj
            rw [List.size_toArray] at hql
            have kk : ∀ b o, b ≠ s₁.heap.objs.size → h₆.get? b = some o → h₇.get? b = some o := fun b o hb e => hk b o (by have := Heap.lt_size e; simp; exact Nat.ne_of_lt this) hb (Heap.get?_push_of_some _ e)
            have nb : ∀ b o, base.get? b = some o → b ≠ s₁.heap.objs.size := fun b o e => Nat.ne_of_lt (Nat.lt_of_lt_of_le (Heap.lt_size e) F₆.above)
            have F₇ : Fr base s₁.heap.objs.size h₇ _ := ⟨hns, fun b o e => kk b o (nb b o e) (F₆.keep b o e), F₆.above⟩
            have hpn : h₆.get? pool = none := by
              cases e : h₆.get? pool with
              | none => rfl
              | some o => exact absurd (hp0.symm.trans (Heap.get?_push_of_some _ e)) (fun q => nomatch q)
            have N₇ : News base s₁.heap.objs.size h₇ [(pool, listOf (List.toArray pv) npl), (76, tabObj #[])] := by
              intro p hp
              rcases List.mem_cons.mp hp with rfl | hp
              · refine ⟨hpo, ?_, ?_⟩
                · rintro rfl
                  obtain ⟨oL, _, _, ho, _⟩ := F₆.ns
                  rw [hpn] at ho; cases ho
                · cases e : base.get? pool with
                  | none => rfl
                  | some o' => have := F₆.keep _ _ e; rw [hpn] at this; cases this
              · exact ⟨kk _ _ (N₆ p hp).2.1 (N₆ p hp).1, (N₆ p hp).2⟩
            clear F₆ N₆ hLi
            have hpvl : pv.length = qs.length := Paired.length hqv
            show wpAny (model prog w) _ (execs _ _) _ _ { s₁ with heap := h₇, toks := tk₇ }
            with_reducible refine wpAny_execs_cons (wpAny_Assign_Name ?_ (by with_unfolding_all rfl))
            with_reducible refine sliceUpto ?_ (by intro _ _; with_unfolding_all rfl)
            iterate 11 walk1
            have m1 : 0 ≤ (k + 2).fmod 4 := Int.fmod_nonneg_of_pos _ (by decide)
            have m2 : (k + 2).fmod 4 < 4 := Int.fmod_lt_of_pos _ (by decide)
            refine ⟨pool, pv, (2 + (k + 2).fmod 4).toNat, _, rfl, by rw [Int.toNat_of_nonneg (by omega)], ⟨_, (N₇ _ (.head _)).1, rfl, _, rfl⟩, by omega, ?_⟩
            intro on h₈ tk₈ ho0 hoo g₈
            have F₈ := F₇.keeps g₈
            have N₈ := newsAdd F₇ N₇ g₈ ho0 hoo
            clear F₇ N₇
            have hv1 : PVs (pv.take (2 + (k + 2).fmod 4).toNat) (qs.take (2 + (k + 2).fmod 4).toNat) := paired_take hqv _
            have hr1 : RowOk (qs.take (2 + (k + 2).fmod 4).toNat) := RowOk.of (by rw [List.length_take]; omega) (by rw [List.length_take]; omega) fun p hp => hqok p (List.mem_of_mem_take hp)
            obtain ⟨b1, eb1⟩ : ∃ b1, b1 = (2 + (k + 2).fmod 4).toNat := ⟨_, rfl⟩
            rw [← eb1] at hv1 hr1 N₈
            show wpAny (model prog w) _ _ _ _ { s₁ with heap := h₈, toks := tk₈ }
            walk1
            rename Fr _ _ _ _ => F
            rename News _ _ _ _ => N
            with_reducible rename Heap => h₉
            with_reducible refine wpAny_execs_cons (wpAny_Assign_Name ?_ (by with_unfolding_all rfl))
            with_reducible refine sliceRun ?_ (by intro _ _; with_unfolding_all rfl)
            iterate 15 walk1
            have m3 : 0 ≤ (k.fdiv 4 + 3).fmod 4 := Int.fmod_nonneg_of_pos _ (by decide)
            have m4 : (k.fdiv 4 + 3).fmod 4 < 4 := Int.fmod_lt_of_pos _ (by decide)
            refine ⟨pool, pv, 5, (7 + (k.fdiv 4 + 3).fmod 4).toNat, _, _, rfl, rfl, by rw [Int.toNat_of_nonneg (by omega)], ⟨_, (N _ (.tail _ (.head _))).1, rfl, _, rfl⟩, by omega, by omega, by omega, ?_⟩
            intro tw h₁₀ tk₁₀ ht0 hto g₁₀
            have F₁₀ := F.keeps g₁₀
            have N₁₀ := newsAdd F N g₁₀ ht0 hto
            clear F N
            have hv2 : PVs ((pv.drop 5).take ((7 + (k.fdiv 4 + 3).fmod 4).toNat - 5)) ((qs.drop 5).take ((7 + (k.fdiv 4 + 3).fmod 4).toNat - 5)) := paired_take (paired_drop hqv 5) _
            have hr2 : RowOk ((qs.drop 5).take ((7 + (k.fdiv 4 + 3).fmod 4).toNat - 5)) := RowOk.of (by rw [List.length_take, List.length_drop]; omega) (by rw [List.length_take, List.length_drop]; omega) fun p hp => hqok p (List.mem_of_mem_drop (List.mem_of_mem_take hp))
            obtain ⟨b2, eb2⟩ : ∃ b2, b2 = (7 + (k.fdiv 4 + 3).fmod 4).toNat - 5 := ⟨_, rfl⟩
            rw [← eb2] at hv2 hr2 N₁₀
            show wpAny (model prog w) _ _ _ _ { s₁ with heap := h₁₀, toks := tk₁₀ }
            walk1
            rename Fr _ _ _ _ => F
            rename News _ _ _ _ => N
            with_reducible rename Heap => h₁₁
            show wpAny (model prog w) _ (execs _ _) _ _ { s₁ with heap := h₁₁, toks := _ }
            with_reducible refine wpAny_execs_cons ?_
            have hono := (N _ (.tail _ (.head _))).1
            refine wpAny_mono (Q := fun f s' => f = .next ∧ RowsP base s₁ s') (E := fun _ _ => False) ?_ ?_ (fun _ _ e => e)
            · iterate 12 walk1
              by_cases hc2 : (k.fdiv 16).fmod 4 = 2
              · rw [if_pos (by rw [hc2]; rfl)]
                with_reducible refine wpAny_execs_cons ?_
                refine assignComp1 (cl := []) (by with_unfolding_all rfl) (by with_unfolding_all rfl) (by decide) (by with_unfolding_all rfl) (by with_unfolding_all decide) (by with_unfolding_all rfl) (by with_unfolding_all rfl) (by with_unfolding_all rfl) ?_ (by intro _; with_unfolding_all rfl)
                walk1
                have hLo : h₁₁.IsList on (List.toArray (pv.take b1)) := ⟨_, hono, rfl, _, rfl⟩
                have hne' : on ≠ h₁₁.objs.size := Nat.ne_of_lt (Heap.lt_size hono)
                have hL11 : @LT.lt Nat instLTNat s₁.heap.objs.size h₁₁.objs.size := F.ns.lt
                have hlo : (pv.take b1).length = (qs.take b1).length := Paired.length hv1
                have hr15 := hr1.five
                with_reducible refine wpAny_pyIter_list hLo ?_
                refine ⟨h₁₁.objs.size, [h₁₁.objs.size, on], [h₁₁.objs.size], (List.toArray (pv.take b1)).size, _, _, fun _ i ys _ => PoolIn i ys, _, rfl, Walks.list rfl _ on hne' (List.toArray (pv.take b1)), ?_, ?_, ?_, fun _ _ => ⟨[], rfl, .nil, fun p hp => nomatch hp⟩, fun _ _ _ _ _ hj _ => hj, ?_, (F.push _).ns, ?_, ?_⟩
                · rw [List.size_toArray, sizeLine_eq]; omega
                · exact ⟨⟨_, Heap.get?_push_size _ rfl, rfl, rfl⟩, hLo.at fun o e => Heap.get?_push_of_some _ e⟩
                · intro b hb
                  show _ < (h₁₁.push _).objs.size
                  rw [Heap.size_push]
                  rcases List.mem_cons.mp hb with rfl | hb
                  · exact Nat.lt_succ_self _
                  · rw [List.mem_singleton.mp hb]; exact Nat.lt_succ_of_lt (Heap.lt_size hono)
                · intro C i v ys g tkg m₂ hC hi hv hn hm hold hj
                  obtain ⟨p, hpp, hpv⟩ := paired_getL hv1 (i := i) (a := v) (by simpa using hv)
                  have hpk : PcOk p := ⟨hr1.small p (List.mem_of_getElem? hpp), hr1.fine p (List.mem_of_getElem? hpp)⟩
                  have Fc := fr0 hn
                  clear F N
                  unfold TurnC
                  with_reducible refine wpAny_tests_nil ?_
                  refine ⟨g, tkg, rfl, fun _ _ e => e, ?_⟩
                  rw [if_pos rfl]
                  show wpAny (model prog w) _ _ _ _ { s₁ with heap := g, toks := tkg }
                  obtain ⟨rs, hrl, hrv, hrok⟩ := hj
                  cases p with
                  | none =>
                    obtain rfl := hpv
                    iterate 8 walk1
                    refine ⟨g, _, rfl, fun _ _ e => e, rs ++ [some cS], by rw [List.length_append, hrl]; rfl, paired_append hrv (.cons ⟨_, rfl⟩ .nil), fun q hq => ?_⟩
                    rcases List.mem_append.mp hq with hq | hq
                    · exact hrok q hq
                    · rw [List.mem_singleton.mp hq]; exact pcOk_c
                  | some x =>
                    obtain ⟨tx, rfl⟩ := hpv
                    iterate 8 walk1
                    refine ⟨g, _, rfl, fun _ _ e => e, rs ++ [some x], by rw [List.length_append, hrl]; rfl, paired_append hrv (.cons ⟨_, rfl⟩ .nil), fun q hq => ?_⟩
                    rcases List.mem_append.mp hq with hq | hq
                    · exact hrok q hq
                    · rw [List.mem_singleton.mp hq]; exact hpk
                · intro hm
                  exact Nat.ne_of_lt hL11 (List.mem_singleton.mp hm)
                · intro t2 C h₁₂ tk₁₂ yv hp0' hpl' hj' hle' hns' hk'
                  obtain ⟨n2, hpo'⟩ := hpl'
                  obtain ⟨rs, hrl, hrv, hrok⟩ := hj'
                  rw [List.size_toArray] at hrl
                  obtain ⟨F', N'⟩ := comp_after F N hns' hp0' hpo' hk'
                  refine wpAny_execs_nil ⟨rfl, .mk h₁₂ tk₁₂ _ on (pv.take b1) 0 (qs.take b1) t2 yv n2 rs F' (newsSub N' (subC (.tail _ (.tail _ (.head _))) (subC (.head _) (subC (.tail _ (.tail _ (.tail _ (.tail _ (.head _))))) subN)))) rfl rfl hv1 hr1 hrv (RowOk.of (by have := hr1.two; omega) (by omega) hrok)⟩
              · rw [if_neg (by simpa using hc2)]
                iterate 14 walk1
                by_cases hc3 : (k.fdiv 16).fmod 4 = 3
                · rw [if_pos (by rw [hc3]; rfl)]
                  iterate 9 walk1
                  have hlo : (pv.take b1).length = (qs.take b1).length := Paired.length hv1
                  have hr15 := hr1.five
                  refine call_list_seq (s := { s₁ with heap := h₁₁, toks := _ }) (hsz := by rw [List.size_toArray, sizeLine_eq]; omega) on (.inl rfl) hono rfl rfl fun h₁₂ ck hk hkD => ?_
                  have F₁₂ := F.keeps hk
                  have N₁₂ := newsAdd F N hk (Heap.get?_none_of_le (Nat.le_refl _)) hkD
                  clear F N
                  show wpAny (model prog w) _ _ _ _ { s₁ with heap := h₁₂, toks := _ }
                  walk1
                  rename Fr _ _ _ _ => F
                  rename News _ _ _ _ => N
                  refine wpAny_execs_nil (wpAny_execs_nil ⟨rfl, .mk _ _ _ on (pv.take b1) 0 (qs.take b1) _ (pv.take b1) ck (qs.take b1) F (newsSub N (subC (.tail _ (.tail _ (.head _))) (subC (.head _) (subC (.tail _ (.tail _ (.tail _ (.tail _ (.head _))))) subN)))) rfl rfl hv1 hr1 hv1 hr1⟩)
                · rw [if_neg (by simpa using hc3)]
                  refine wpAny_execs_nil (wpAny_execs_nil ⟨rfl, .mk h₁₁ _ _ on (pv.take b1) 0 (qs.take b1) tw ((pv.drop 5).take b2) 0 ((qs.drop 5).take b2) F (newsSub N (subC (.tail _ (.head _)) (subC (.head _) (subC (.tail _ (.tail _ (.tail _ (.head _)))) subN)))) rfl rfl hv1 hr1 hv2 hr2⟩)
            · clear F N hono
              rintro f s' ⟨rfl, hp⟩
              exact wpAny_execs_nil ⟨rfl, hp⟩
  · rintro f s' ⟨h', tk', tab', m', rfl, rfl, F', h76', htab'⟩
    refine ⟨goodW_bool F' hgens ?_ ?_, ?_⟩
    · intro cls
      first | rfl | exact raisesW_false (by wrow_none_raised) cls
    · first | rfl | kernel_rfl
    · refine ⟨?_, True.intro⟩
      rcases htab' with rfl | ⟨c', rfl, _⟩
      · exact ⟨_, h76'⟩
      · exact ⟨_, h76'⟩)
end Mine


theorem PySem.Challenge.cw_nb0058_01_holds : PySem.Challenge.rw_nb0058_01.Holds :=
  Mine.tst
