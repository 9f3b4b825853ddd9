import PyProof.Rows.All
import Wide.All
import OpenK.AllK
import Wide.FinOn
import KE.KWords
import Lean
import PySem.Challenge.RW_ci0009_01
set_option Elab.async false
set_option maxRecDepth 100000
set_option maxHeartbeats 0
section PartHd
open PySem PySem.W PyProof.Rows
namespace Mine
open_top hd for PySem.Challenge.rw_ci0009_01
end Mine
end PartHd
section PartC0
open PySem PySem.W PyProof.Rows PySem.Calls PyProof.Rows.LCg
namespace Mine
/-- the walk stops here -/
def Hold (P : Prop) : Prop := P
theorem hold {P : Prop} (h : Hold P) : P := h

/-- a source whose iterator stands alone -/
def SrcOk (xv : Value) (n : Nat) (P : Nat → Value → Prop) : Prop :=
  ∀ (prog : Program) (w : World) (A : Around) (s : Shared) (Q E : Value → Shared → Prop),
    (∀ (o : Obj) (St : Nat → Heap → Prop), (∀ A' : Around, A'.handled = none → Walks prog w A' s.heap.objs.size [s.heap.objs.size] [s.heap.objs.size] n P St) → (∀ i h, St i h → ∃ o, h.get? s.heap.objs.size = some o) →
      St 0 (s.heap.push o) → Q (.ref s.heap.objs.size) { s with heap := s.heap.push o }) → wpAny (model prog w) A (pyIter xv) Q E s
theorem src_str (x : Str) (t : Tok) : SrcOk (.str x t) x.cps.size (SignAt x) := by
  intro prog w A s Q E hQ
  cases ha : x.cps.all (· < 128)
  · exact wpAny_pyIter_wide ha (hQ _ (fun i h => h.IsStrIter s.heap.objs.size "str_iterator" x t i) (fun A' hA => Walks.strWide hA _ x t) (fun _ _ st => let ⟨o, e, _⟩ := st; ⟨o, e⟩) ⟨_, Heap.get?_push_size _ rfl, rfl, rfl⟩)
  · exact wpAny_pyIter_ascii ha (hQ _ (fun i h => h.IsStrIter s.heap.objs.size "str_ascii_iterator" x t i) (fun A' hA => Walks.strAscii hA _ x t) (fun _ _ st => let ⟨o, e, _⟩ := st; ⟨o, e⟩) ⟨_, Heap.get?_push_size _ rfl, rfl, rfl⟩)
theorem src_bytes (b : Array UInt8) (t : Tok) : SrcOk (.bytes b t) b.size (fun i v => ∃ c u, b[i]? = some c ∧ v = .int (c.toNat : Int) u) := by
  intro prog w A s Q E hQ
  exact KBw.pyIter_bytes (hQ _ (fun i h => KBw.IsBytesIter h s.heap.objs.size b t i) (fun A' hA => KBw.walks hA _ b t) (fun _ _ st => let ⟨o, e, _⟩ := st; ⟨o, e⟩) ⟨_, Heap.get?_push_size _ rfl, rfl, rfl⟩)

section
variable {prog : Program} {w : World} {A : Around} {E : Value → Shared → Prop} {s : Shared} {h₀ : Heap} {L : Addr} {m : Str → Option Value} {env : Env}

def SrcS (prog : Program) (w : World) (A : Around) (h₀ : Heap) (L : Addr) (m : Str → Option Value) (env : Env) (elt : Expr) (x : Str) (scope : Scope) (cl : List (Str × Addr)) (Fin : Shared → List Value → List (Addr × Obj) → Prop) (xv : Value) (s₁ : Shared) : Prop :=
  ∃ n P news, SrcOk xv n P ∧ A.handled = none ∧ Fr h₀ L s₁.heap m ∧ News h₀ L s₁.heap news ∧ n ≤ sizeLine ∧
    ∀ s₂ : Shared, (∃ h, s₂ = { s₁ with heap := h }) → CompRest prog w A h₀ L m env elt x scope cl s₂ (fun _ => True) P (Fin s₂) n 0 [] news
def SrcST (prog : Program) (w : World) (A : Around) (h₀ : Heap) (L : Addr) (m : Str → Option Value) (env : Env) (ct elt : Expr) (x : Str) (scope : Scope) (cl : List (Str × Addr)) (Fin : Shared → List Value → List (Addr × Obj) → Prop) (xv : Value) (s₁ : Shared) : Prop :=
  ∃ n P news, SrcOk xv n P ∧ A.handled = none ∧ Fr h₀ L s₁.heap m ∧ News h₀ L s₁.heap news ∧ n ≤ sizeLine ∧
    ∀ s₂ : Shared, (∃ h, s₂ = { s₁ with heap := h }) → LCt.CompRestT prog w A h₀ L m env ct elt x scope cl s₂ (fun _ => True) P (Fin s₂) n 0 [] news

theorem st_alone {I : Addr} {n : Nat} {P : Nat → Value → Prop} {St : Nat → Heap → Prop} (W : Walks prog w A I [I] [I] n P St) (i : Nat) (h h' : Heap) (o : Obj) (nw : List (Addr × Obj)) (st : St i h) (e : h.get? I = some o) (e' : h'.get? I = some o)
    (_ : ∀ b o, h₀.get? b = some o → h'.get? b = some o) (_ : News h₀ L h' nw) (_ : True) : St i h' :=
  W.frame i h h' st fun b hb o' q => by
    rw [List.mem_singleton.mp hb] at q ⊢
    rw [e] at q; cases q; exact e'

/-- the made list's cell D and the names' cell C, when the turns are done -/
structure Stands (h₀ : Heap) (L : Addr) (m : Str → Option Value) (C D : Addr) (ys : List Value) (nw : List (Addr × Obj)) (h : Heap) : Prop where
  F : Fr h₀ L h m
  N : News h₀ L h ((D, lst ys) :: nw)
  off : Off1 D nw
  old : h₀.get? C = none
  low : C ≠ L
  apart : ∀ p ∈ (D, lst ys) :: nw, p.1 ≠ C
theorem Stands.let_go {C D : Addr} {ys : List Value} {nw : List (Addr × Obj)} {h h' : Heap} (x : Stands h₀ L m C D ys nw h) (hs : Heap.SameBut C h h') : Fr h₀ L h' m ∧ News h₀ L h' ((D, lst ys) :: nw) :=
  ⟨x.F.change hs x.low x.old, fun p hp => ⟨(hs.2 p.1 (x.apart p hp)).trans (x.N p hp).1, (x.N p hp).2⟩⟩
theorem Stands.stored {C D : Addr} {ys : List Value} {nw : List (Addr × Obj)} {h h' : Heap} {m' : Str → Option Value} (x : Stands h₀ L m C D ys nw h) (hs : Heap.SameBut L h h') (hn : h'.Ns L m') : Stands h₀ L m' C D ys nw h' :=
  ⟨⟨hn, fun b o e => (hs.2 b fun q => by subst q; have := e.symm.trans (Heap.get?_none_of_le x.F.above); cases this).trans (x.F.keep b o e), x.F.above⟩,
    fun p hp => ⟨(hs.2 p.1 (x.N p hp).2.1).trans (x.N p hp).1, (x.N p hp).2⟩, x.off, x.old, x.low, x.apart⟩

/-- the first half: the iterator is made, the turns are done, K takes the rest -/
theorem source_S {elt iter : Expr} {x : Str} {px : Pos} {scope : Scope} {cl : List (Str × Addr)} {pos : Pos} {Fin : Shared → List Value → List (Addr × Obj) → Prop} {RR : Value → Addr → Result → Shared → Prop} {xv : Value}
    (src : SrcS prog w A h₀ L m env elt x scope cl Fin xv s) (h1 : ∀ y ∈ scope.names, y.2 ≠ .cell) (h2 : scope.kind = .function) (h3 : scope.names.lookup x = some .local)
    (K : ∀ g D C h tk mc ys nw, Stands h₀ L m C D ys nw h → h.Ns C mc → Fin { s with heap := g } ys nw → RR (.ref D) C (.ok .next) { s with heap := h, toks := tk }) :
    wpAny (model prog w) A (pyIter xv) (fun it s₂ => wpAny (model prog w) A (newList []) (fun acc s₃ => wpAny (model prog w) A (newFunctionEnv scope env.globals cl [] env.qual none .none (some env)) (fun cenv s₄ =>
      codeAny (model prog w) A (.compStart (.ListComp elt [⟨.Name x px, iter, [], 0⟩] scope pos) 0 it acc { cenv with scope := relabel scope env }) (RR acc cenv.locals) s₄) E s₃) E s₂) E s := by
  obtain ⟨n, P, nw₀, mk, hh, F, N, hsz, R⟩ := src
  refine mk prog w A s _ _ fun o St W hIo hst => ?_
  have up : ∀ b o', s.heap.get? b = some o' → (s.heap.push o).get? b = some o' := fun b o' e => Heap.get?_push_of_some _ e
  exact block_U (W A hh) hsz hIo (st_alone (W A hh)) h1 h2 h3 hst (fun b hb => by rw [List.mem_singleton.mp hb, Heap.size_push]; exact Nat.lt_succ_self _) (F.keeps up) (N.grown up) (fun e => absurd (e ▸ F.ns.lt) (Nat.lt_irrefl _)) (next_is_new F)
    (News.apart N) trivial (R _ ⟨_, rfl⟩) fun D C h tk mc ys nw F' N' o1 hn c1 _ c2 _ c3 c4 fin => K _ D C h tk mc ys nw ⟨F', N', o1, c1, c2, List.forall_mem_cons.mpr ⟨Ne.symm c3, c4⟩⟩ hn fin
/-- the same where a test stands behind the clause -/
theorem source_ST {ct elt iter : Expr} {x : Str} {px : Pos} {scope : Scope} {cl : List (Str × Addr)} {pos : Pos} {Fin : Shared → List Value → List (Addr × Obj) → Prop} {RR : Value → Addr → Result → Shared → Prop} {xv : Value}
    (src : SrcST prog w A h₀ L m env ct elt x scope cl Fin xv s) (h1 : ∀ y ∈ scope.names, y.2 ≠ .cell) (h2 : scope.kind = .function) (h3 : scope.names.lookup x = some .local)
    (K : ∀ g D C h tk mc ys nw, Stands h₀ L m C D ys nw h → h.Ns C mc → Fin { s with heap := g } ys nw → RR (.ref D) C (.ok .next) { s with heap := h, toks := tk }) :
    wpAny (model prog w) A (pyIter xv) (fun it s₂ => wpAny (model prog w) A (newList []) (fun acc s₃ => wpAny (model prog w) A (newFunctionEnv scope env.globals cl [] env.qual none .none (some env)) (fun cenv s₄ =>
      codeAny (model prog w) A (.compStart (.ListComp elt [⟨.Name x px, iter, [ct], 0⟩] scope pos) 0 it acc { cenv with scope := relabel scope env }) (RR acc cenv.locals) s₄) E s₃) E s₂) E s := by
  obtain ⟨n, P, nw₀, mk, hh, F, N, hsz, R⟩ := src
  refine mk prog w A s _ _ fun o St W hIo hst => ?_
  have up : ∀ b o', s.heap.get? b = some o' → (s.heap.push o).get? b = some o' := fun b o' e => Heap.get?_push_of_some _ e
  exact LCt.block_T (W A hh) hsz hIo (st_alone (W A hh)) h1 h2 h3 hst (fun b hb => by rw [List.mem_singleton.mp hb, Heap.size_push]; exact Nat.lt_succ_self _) (F.keeps up) (N.grown up) (fun e => absurd (e ▸ F.ns.lt) (Nat.lt_irrefl _)) (next_is_new F)
    (News.apart N) trivial (R _ ⟨_, rfl⟩) fun D C h tk mc ys nw F' N' o1 hn c1 _ c2 _ c3 c4 fin => K _ D C h tk mc ys nw ⟨F', N', o1, c1, c2, List.forall_mem_cons.mpr ⟨Ne.symm c3, c4⟩⟩ hn fin

theorem ListComp_S {elt iter : Expr} {x : Str} {px : Pos} {scope : Scope} {cl : List (Str × Addr)} {pos : Pos} {Q : Value → Shared → Prop} (F₀ : Fr h₀ L s.heap m)
    (hclos : closureFor scope env = pure cl) (h1 : ∀ y ∈ scope.names, y.2 ≠ .cell) (h2 : scope.kind = .function) (h4 : ∀ y ∈ scope.names, y.2 = .local → scope.names.lookup y.1 = some .local) (h3 : scope.names.lookup x = some .local)
    (h : wpAny (model prog w) A (eval iter env) (SrcS prog w A h₀ L m env elt x scope cl (fun s₂ => FinE h₀ L m s₂ Q)) E s) (hs : ∀ x, foldedSetIterable iter env x = pure x := by intro _; rfl) :
    wpAny (model prog w) A (eval (.ListComp elt [⟨.Name x px, iter, [], 0⟩] scope pos) env) Q E s :=
  eval_ListComp .. ▸ wpAny_comprehension_free (use := none) rfl hs hclos h2 h4 (wpAny_mono h (fun _ _ src => source_S src h1 h2 h3
    fun _ D _ _ tk mc _ _ x hn fin => ⟨mc, hn, fun h'' hs'' => fin D h'' tk (x.let_go hs'').1 (x.let_go hs'').2 x.off⟩) fun _ _ e => e)

theorem ListComp_ST {ct elt iter : Expr} {x : Str} {px : Pos} {scope : Scope} {cl : List (Str × Addr)} {pos : Pos} {Q : Value → Shared → Prop} (F₀ : Fr h₀ L s.heap m)
    (hclos : closureFor scope env = pure cl) (h1 : ∀ y ∈ scope.names, y.2 ≠ .cell) (h2 : scope.kind = .function) (h4 : ∀ y ∈ scope.names, y.2 = .local → scope.names.lookup y.1 = some .local) (h3 : scope.names.lookup x = some .local)
    (h : wpAny (model prog w) A (eval iter env) (SrcST prog w A h₀ L m env ct elt x scope cl (fun s₂ => FinE h₀ L m s₂ Q)) E s) (hs : ∀ x, foldedSetIterable iter env x = pure x := by intro _; rfl) :
    wpAny (model prog w) A (eval (.ListComp elt [⟨.Name x px, iter, [ct], 0⟩] scope pos) env) Q E s :=
  eval_ListComp .. ▸ wpAny_comprehension_free (use := none) rfl hs hclos h2 h4 (wpAny_mono h (fun _ _ src => source_ST src h1 h2 h3
    fun _ D _ _ tk mc _ _ x hn fin => ⟨mc, hn, fun h'' hs'' => fin D h'' tk (x.let_go hs'').1 (x.let_go hs'').2 x.off⟩) fun _ _ e => e)

theorem Assign_ListComp_S {elt iter : Expr} {x y : Str} {px py : Pos} {scope : Scope} {cl : List (Str × Addr)} {pos spos : Pos} {Q : Flow → Shared → Prop} (F₀ : Fr h₀ L s.heap m) (hLe : env.locals = L)
    (hsw : swapsWith (.ListComp elt [⟨.Name x px, iter, [], 0⟩] scope pos) (some (.Name y py)) spos.line env = pure true)
    (hclos : closureFor scope env = pure cl) (h1 : ∀ y ∈ scope.names, y.2 ≠ .cell) (h2 : scope.kind = .function) (h4 : ∀ y ∈ scope.names, y.2 = .local → scope.names.lookup y.1 = some .local) (h3 : scope.names.lookup x = some .local)
    (hy : env.kindOf y = some .local) (hp : (env.scope.kind == .class || (env.scope.kind == .module && env.locals != env.globals)) = false)
    (h : wpAny (model prog w) A (eval iter env) (SrcS prog w A h₀ L m env elt x scope cl (fun s₂ => FinA h₀ L m s₂ y Q)) E s) (hs : ∀ x, foldedSetIterable iter env x = pure x := by intro _; rfl) :
    wpAny (model prog w) A (exec (.Assign [.Name y py] (.ListComp elt [⟨.Name x px, iter, [], 0⟩] scope pos) spos) env) Q E s := by
  cases hLe
  rw [exec_Assign_Name_used _ _ _ _ hsw]
  refine wpAny_bind (wpAny_standAt (wpAny_bind (wpAny_bind (wpAny_mono (Q := fun _ s' => Q .next s') (wpAny_comprehension_free (use := some (assign (.Name y py) env)) rfl hs hclos h2 h4 (wpAny_mono h (fun _ _ src => source_S src h1 h2 h3
    fun _ D _ _ tk mc _ _ x hn fin => wpAny_assign_Name (wpAny_storeName_local hy x.F.ns (fun g hg hsg => ?_) hp)) fun _ _ e => e)) (fun _ _ q => wpAny_pure (wpAny_pure q)) fun _ _ e => e))))
  have z := x.stored hsg hg
  exact ⟨mc, hn.sameBut hsg x.low, fun h'' hs'' => fin D h'' _ (z.let_go hs'').1 (z.let_go hs'').2 z.off⟩

/-- the element's end: nothing new is kept, the element is told -/
def ElIs (news : List (Addr × Obj)) (R : Value → Prop) (y : Value) (news' : List (Addr × Obj)) : Prop := news' = news ∧ R y

variable {elt ct : Expr} {x : Str} {scope : Scope} {cl : List (Str × Addr)} {P : Nat → Value → Prop} {news : List (Addr × Obj)}
theorem comp_turns {Fin : List Value → List (Addr × Obj) → Prop} {S : List (Addr × Obj) → Prop} {n : Nat} (R : Nat → Value → Prop)
    (turn : ∀ i v I oI C oC D m₂ ys h tk (E' : Value → Shared → Prop), i < n → P i v → NsObj oC m₂ → m₂ x = some v → Fr h₀ L h m → News h₀ L h ((I, oI) :: (C, oC) :: (D, lst ys) :: news) → Off3 I C D news → ((@Ne Nat I C) ∧ (@Ne Nat I D) ∧ (@Ne Nat C D)) →
      wpAny (model prog w) A (eval elt (compEnvC scope cl C env)) (CompEnd h₀ L m { s with heap := h, toks := tk } I oI C oC D (lst ys) S (ElIs news (R i))) E' { s with heap := h, toks := tk })
    (fin : ∀ ys : List Value, ys.length = n → (∀ i y, ys[i]? = some y → R i y) → Fin ys news) : CompRest prog w A h₀ L m env elt x scope cl s S P Fin n 0 [] news := by
  have key : ∀ (j i : Nat) (ys : List Value), i + j = n → ys.length = i → (∀ i y, ys[i]? = some y → R i y) → CompRest prog w A h₀ L m env elt x scope cl s S P Fin j i ys news := by
    intro j
    induction j with
    | zero => intro i ys hi hl hy; exact CompRest.zero (fin ys (by omega) hy)
    | succ j ih =>
      intro i ys hi hl hy
      refine CompRest.succ ?_
      intro v I oI C oC D m₂ h tk E' hv hC hx F N off ne
      refine wpAny_mono (turn i v I oI C oC D m₂ ys h tk E' (by omega) hv hC hx F N off ne) (fun y s₂ hq => ?_) fun _ _ e => e
      obtain ⟨h', tk', nw, e, F', N', off', hS, hn, hR⟩ := hq
      subst hn
      refine ⟨h', tk', _, e, F', N', off', hS, ih (i + 1) _ (by omega) (by simp [hl]) ?_⟩
      intro a b hab
      rw [List.getElem?_append] at hab
      split at hab
      · exact hy a b hab
      · rename_i hge
        have : a - ys.length = 0 := by
          cases hq : a - ys.length with
          | zero => rfl
          | succ k => rw [hq] at hab; simp at hab
        rw [this] at hab
        simp at hab
        subst hab
        have : a = i := by omega
        rw [this]; exact hR
  exact key n 0 [] (by omega) rfl (by intro i y h; simp at h)

theorem compEnd_el {I C D : Addr} {s₁ : Shared} {oI oC oD : Obj} {R : Value → Prop} {y : Value} {h' : Heap} {tk : Nat} {all : List (Addr × Obj)}
    (F : Fr h₀ L h' m) (N : News h₀ L h' all) (sub : ∀ p ∈ (I, oI) :: (C, oC) :: (D, oD) :: news, p ∈ all) (off : Off3 I C D news) (hR : Hold (R y)) : CompEnd h₀ L m s₁ I oI C oC D oD (fun _ => True) (ElIs news R) y { s₁ with heap := h', toks := tk } :=
  ⟨h', tk, news, rfl, F, fun p hp => N p (sub p hp), off, trivial, rfl, hR⟩
theorem compEnd_no {I C D : Addr} {s₁ : Shared} {oI oC oD : Obj} {y : Value} {h' : Heap} {tk : Nat} {all : List (Addr × Obj)}
    (F : Fr h₀ L h' m) (N : News h₀ L h' all) (sub : ∀ p ∈ (I, oI) :: (C, oC) :: (D, oD) :: news, p ∈ all) (off : Off3 I C D news) : CompEnd h₀ L m s₁ I oI C oC D oD (fun _ => True) (fun _ news' => news' = news) y { s₁ with heap := h', toks := tk } :=
  ⟨h', tk, news, rfl, F, fun p hp => N p (sub p hp), off, trivial, rfl⟩

/-- item by item -/
inductive RelL {α β : Type} (R : α → β → Prop) : List α → List β → Prop
  | nil : RelL R [] []
  | cons {a : α} {b : β} {l : List α} {r : List β} : R a b → RelL R l r → RelL R (a :: l) (b :: r)
theorem RelL.snoc {α β : Type} {R : α → β → Prop} : ∀ {l : List α} {r : List β} {a : α} {b : β}, RelL R l r → R a b → RelL R (l ++ [a]) (r ++ [b])
  | _, _, _, _, .nil, h => .cons h .nil
  | _, _, _, _, .cons g t, h => .cons g (RelL.snoc t h)
theorem RelL.length {α β : Type} {R : α → β → Prop} : ∀ {l : List α} {r : List β}, RelL R l r → l.length = r.length
  | _, _, .nil => rfl
  | _, _, .cons _ t => congrArg (· + 1) (RelL.length t)

/-- a turn with a test: the test is told by b, the element where it holds by R -/
theorem comp_turnsT {Fin : List Value → List (Addr × Obj) → Prop} {S : List (Addr × Obj) → Prop} {n : Nat} (b : Nat → Bool) (R : Nat → Value → Prop)
    (turn : ∀ i v I oI C oC D m₂ ys h tk (E' : Value → Shared → Prop), i < n → P i v → NsObj oC m₂ → m₂ x = some v → Fr h₀ L h m → News h₀ L h ((I, oI) :: (C, oC) :: (D, lst ys) :: news) → Off3 I C D news → ((@Ne Nat I C) ∧ (@Ne Nat I D) ∧ (@Ne Nat C D)) →
      wpAny (model prog w) A (isTrue ct (compEnvC scope cl C env) (eval ct (compEnvC scope cl C env))) (fun ok s' => ok = b i ∧ if ok = true then
        wpAny (model prog w) A (eval elt (compEnvC scope cl C env)) (CompEnd h₀ L m { s with heap := h, toks := tk } I oI C oC D (lst ys) S (ElIs news (R i))) E' s'
        else CompEnd h₀ L m { s with heap := h, toks := tk } I oI C oC D (lst ys) S (fun _ news' => news' = news) Value.none s') E' { s with heap := h, toks := tk })
    (fin : ∀ ys : List Value, RelL R ((List.range n).filter b) ys → Fin ys news) : LCt.CompRestT prog w A h₀ L m env ct elt x scope cl s S P Fin n 0 [] news := by
  have key : ∀ (j i : Nat) (ys : List Value), i + j = n → RelL R ((List.range i).filter b) ys → LCt.CompRestT prog w A h₀ L m env ct elt x scope cl s S P Fin j i ys news := by
    intro j
    induction j with
    | zero => intro i ys hi hy; exact LCt.CompRestT.zero (fin ys (by have : i = n := by omega
                                                                     subst this; exact hy))
    | succ j ih =>
      intro i ys hi hy
      refine LCt.CompRestT.succ ?_
      intro v I oI C oC D m₂ h tk E' hv hC hx F N off ne
      refine wpAny_mono (turn i v I oI C oC D m₂ ys h tk E' (by omega) hv hC hx F N off ne) (fun ok s₂ hq => ?_) fun _ _ e => e
      obtain ⟨hb, hq⟩ := hq
      cases ok with
      | true =>
        simp only [if_true] at hq ⊢
        refine wpAny_mono hq (fun y s₃ hq => ?_) fun _ _ e => e
        obtain ⟨h', tk', nw, e, F', N', off', hS, hn, hR⟩ := hq
        subst hn
        refine ⟨h', tk', _, e, F', N', off', hS, ih (i + 1) _ (by omega) ?_⟩
        rw [List.range_succ, List.filter_append]
        simp only [List.filter_cons, ← hb, if_true, List.filter_nil]
        exact RelL.snoc hy hR
      | false =>
        simp only [Bool.false_eq_true, if_false] at hq ⊢
        obtain ⟨h', tk', nw, e, F', N', off', hS, hn⟩ := hq
        subst hn
        refine ⟨h', tk', _, e, F', N', off', hS, ih (i + 1) _ (by omega) ?_⟩
        rw [List.range_succ, List.filter_append]
        simp only [List.filter_cons, ← hb, Bool.false_eq_true, if_false, List.filter_nil, List.append_nil]
        exact hy
  exact key n 0 [] (by omega) .nil
end

abbrev S (l : List Nat) : Str := ⟨l.toArray⟩
theorem strsOf {α : Type} {f : α → Str} : ∀ {l : List α} {ys : List Value}, ys.length = l.length → (∀ (i : Nat) (y : Value), ys[i]? = some y → ∀ c : α, l[i]? = some c → ∃ t : Tok, y = Value.str (f c) t) → StrsAre ys (l.map f)
  | [], [], _, _ => .nil
  | c :: l, y :: ys, hl, h => by
    obtain ⟨t, rfl⟩ := h 0 y rfl c rfl
    exact .cons _ t (strsOf (by simpa using hl) fun i y hy c hc => h (i + 1) y (by simpa using hy) c (by simpa using hc))
theorem join_empty : ∀ (l : List (List Nat)), Str.join (Str.ofString "") (l.map S) = S l.flatten
  | [] => rfl
  | [a] => by simp [Str.join]
  | a :: b :: r => by
    have h := join_empty (b :: r)
    rw [List.map_cons, List.map_cons, join_cons_cons, ← List.map_cons, h]
    apply Str.ext'
    simp [Str.cps_append, Str.ofString]
    rfl

section
variable {prog : Program} {w : World} {A : Around} {E : Value → Shared → Prop} {s : Shared} {h₀ : Heap} {L : Addr} {m : Str → Option Value} {env : Env} {nx : List (Addr × Obj)}
def WhEnd {σ : Type} (meas : σ → Nat) (Inv : σ → (Str → Option Value) → List (Addr × Obj) → Prop) (h₀ : Heap) (L : Addr) (s : Shared) (a : σ) (fl : Flow) (s₃ : Shared) : Prop :=
  match fl with
  | .next | .cont => ∃ a' m' nx' h' tk', s₃ = { s with heap := h', toks := tk' } ∧ meas a' < meas a ∧ Inv a' m' nx' ∧ Fr h₀ L h' m' ∧ News h₀ L h' nx'
  | _ => False
theorem whEnd {σ : Type} {meas : σ → Nat} {Inv : σ → (Str → Option Value) → List (Addr × Obj) → Prop} {a a' : σ} {h' : Heap} {tk' : Nat} {m' : Str → Option Value} {nx' all : List (Addr × Obj)}
    (F : Fr h₀ L h' m') (N : News h₀ L h' all) (hs : ∀ p ∈ nx', p ∈ all) (hm : meas a' < meas a) (hI : Inv a' m' nx') : WhEnd meas Inv h₀ L s a .next { s with heap := h', toks := tk' } :=
  ⟨a', m', nx', h', tk', rfl, hm, hI, F, fun p hp => N p (hs p hp)⟩
theorem while_inv {σ : Type} (meas : σ → Nat) (Inv : σ → (Str → Option Value) → List (Addr × Obj) → Prop) (a₀ : σ) {test : Expr} {body : List Stmt} {pos : Pos} {Q : Flow → Shared → Prop}
    (F : Fr h₀ L s.heap m) (N : News h₀ L s.heap nx) (htok : 0 < s.toks) (hI : Inv a₀ m nx)
    (turn : ∀ a m nx h tk, 0 < tk → Inv a m nx → Fr h₀ L h m → News h₀ L h nx →
      wpAny (model prog w) A (isTrue test env (eval test env)) (fun b s₂ => if b = true then wpAny (model prog w) A (execs body env) (WhEnd meas Inv h₀ L s a) (fun _ _ => False) s₂ else Q .next s₂) (fun _ _ => False) { s with heap := h, toks := tk }) :
    wpAny (model prog w) A (exec (.While test body [] pos) env) Q E s := by
  refine wpAny_While (codeAny_whileLoop (fun n s' => ∃ a m nx h tk, s' = { s with heap := h, toks := tk } ∧ 0 < tk ∧ n = meas a ∧ Inv a m nx ∧ Fr h₀ L h m ∧ News h₀ L h nx) ?_ (meas a₀) ⟨a₀, m, nx, s.heap, s.toks, rfl, htok, rfl, hI, F, N⟩)
  rintro n s' ⟨a, m, nx, h, tk, rfl, hpos, rfl, hI, F, N⟩
  refine wpAny_with_toks (n := 1) hpos (wpAny_mono (turn a m nx h tk hpos hI F N) (fun b s₂ hb _ => ?_) fun _ _ x => x.elim)
  rename_i htk2
  cases b with
  | false =>
    simp only [Bool.false_eq_true, if_false] at hb ⊢
    exact wpAny_execs_nil hb
  | true =>
    simp only [if_true] at hb ⊢
    refine wpAny_with_toks (n := 1) htk2 (wpAny_mono hb (fun fl s₃ hw htk3 => ?_) fun _ _ x => x.elim)
    cases fl with
    | next => obtain ⟨a', m', nx', h', tk', rfl, hm, hI', F', N'⟩ := hw; exact ⟨meas a', hm, a', m', nx', h', tk', rfl, htk3, rfl, hI', F', N'⟩
    | cont => obtain ⟨a', m', nx', h', tk', rfl, hm, hI', F', N'⟩ := hw; exact ⟨meas a', hm, a', m', nx', h', tk', rfl, htk3, rfl, hI', F', N'⟩
    | brk => exact hw.elim
    | ret v => exact hw.elim
theorem fr_known1 {h : Heap} {x0 : Str} {v0 : Value} (F : Fr h₀ L h m) (e0 : m x0 = some v0) : Fr h₀ L h (fun y => if y = x0 then some v0 else m y) := by
  have : (fun y => if y = x0 then some v0 else m y) = m := by
    funext y
    by_cases h0 : y = x0 <;> simp_all
  rw [this]; exact F
theorem fr_known2 {h : Heap} {x0 x1 : Str} {v0 v1 : Value} (F : Fr h₀ L h m) (e0 : m x0 = some v0) (e1 : m x1 = some v1) : Fr h₀ L h (fun y => if y = x0 then some v0 else if y = x1 then some v1 else m y) := by
  have : (fun y => if y = x0 then some v0 else if y = x1 then some v1 else m y) = m := by
    funext y
    by_cases h0 : y = x0 <;> by_cases h1 : y = x1 <;> simp_all
  rw [this]; exact F
theorem fr_known3 {h : Heap} {x0 x1 x2 : Str} {v0 v1 v2 : Value} (F : Fr h₀ L h m) (e0 : m x0 = some v0) (e1 : m x1 = some v1) (e2 : m x2 = some v2) : Fr h₀ L h (fun y => if y = x0 then some v0 else if y = x1 then some v1 else if y = x2 then some v2 else m y) := by
  have : (fun y => if y = x0 then some v0 else if y = x1 then some v1 else if y = x2 then some v2 else m y) = m := by
    funext y
    by_cases h0 : y = x0 <;> by_cases h1 : y = x1 <;> by_cases h2 : y = x2 <;> simp_all
  rw [this]; exact F
theorem fr_known4 {h : Heap} {x0 x1 x2 x3 : Str} {v0 v1 v2 v3 : Value} (F : Fr h₀ L h m) (e0 : m x0 = some v0) (e1 : m x1 = some v1) (e2 : m x2 = some v2) (e3 : m x3 = some v3) : Fr h₀ L h (fun y => if y = x0 then some v0 else if y = x1 then some v1 else if y = x2 then some v2 else if y = x3 then some v3 else m y) := by
  have : (fun y => if y = x0 then some v0 else if y = x1 then some v1 else if y = x2 then some v2 else if y = x3 then some v3 else m y) = m := by
    funext y
    by_cases h0 : y = x0 <;> by_cases h1 : y = x1 <;> by_cases h2 : y = x2 <;> by_cases h3 : y = x3 <;> simp_all
  rw [this]; exact F
theorem fr_known5 {h : Heap} {x0 x1 x2 x3 x4 : Str} {v0 v1 v2 v3 v4 : Value} (F : Fr h₀ L h m) (e0 : m x0 = some v0) (e1 : m x1 = some v1) (e2 : m x2 = some v2) (e3 : m x3 = some v3) (e4 : m x4 = some v4) : Fr h₀ L h (fun y => if y = x0 then some v0 else if y = x1 then some v1 else if y = x2 then some v2 else if y = x3 then some v3 else if y = x4 then some v4 else m y) := by
  have : (fun y => if y = x0 then some v0 else if y = x1 then some v1 else if y = x2 then some v2 else if y = x3 then some v3 else if y = x4 then some v4 else m y) = m := by
    funext y
    by_cases h0 : y = x0 <;> by_cases h1 : y = x1 <;> by_cases h2 : y = x2 <;> by_cases h3 : y = x3 <;> by_cases h4 : y = x4 <;> simp_all
  rw [this]; exact F
theorem fr_known6 {h : Heap} {x0 x1 x2 x3 x4 x5 : Str} {v0 v1 v2 v3 v4 v5 : Value} (F : Fr h₀ L h m) (e0 : m x0 = some v0) (e1 : m x1 = some v1) (e2 : m x2 = some v2) (e3 : m x3 = some v3) (e4 : m x4 = some v4) (e5 : m x5 = some v5) : Fr h₀ L h (fun y => if y = x0 then some v0 else if y = x1 then some v1 else if y = x2 then some v2 else if y = x3 then some v3 else if y = x4 then some v4 else if y = x5 then some v5 else m y) := by
  have : (fun y => if y = x0 then some v0 else if y = x1 then some v1 else if y = x2 then some v2 else if y = x3 then some v3 else if y = x4 then some v4 else if y = x5 then some v5 else m y) = m := by
    funext y
    by_cases h0 : y = x0 <;> by_cases h1 : y = x1 <;> by_cases h2 : y = x2 <;> by_cases h3 : y = x3 <;> by_cases h4 : y = x4 <;> by_cases h5 : y = x5 <;> simp_all
  rw [this]; exact F
end

section
variable {prog : Program} {w : World} {A : Around} {E : Value → Shared → Prop} {s : Shared} {h₀ : Heap} {m : Str → Option Value} {env : Env} {nx : List (Addr × Obj)}
def OffI (I : Addr) : List (Addr × Obj) → Prop
  | [] => True
  | p :: r => (@Ne Nat p.1 I) ∧ OffI I r
theorem OffI.mem {I : Addr} : ∀ {l : List (Addr × Obj)}, OffI I l → ∀ p ∈ l, p.1 ≠ I
  | [], _, _, h => nomatch h
  | _ :: _, x, p, h => by
    rcases List.mem_cons.mp h with rfl | h
    · exact x.1
    · exact OffI.mem x.2 p h
theorem OffI.of {I : Addr} : ∀ {l : List (Addr × Obj)}, (∀ p ∈ l, p.1 ≠ I) → OffI I l
  | [], _ => trivial
  | _ :: _, h => ⟨h _ List.mem_cons_self, OffI.of fun p hp => h p (List.mem_cons_of_mem _ hp)⟩
def ForEnd (Inv : (Str → Option Value) → List (Addr × Obj) → Prop) (h₀ : Heap) (L : Addr) (s : Shared) (I : Addr) (oI : Obj) (fl : Flow) (s₃ : Shared) : Prop :=
  match fl with
  | .next | .cont => ∃ m' nx' h' tk', s₃ = { s with heap := h', toks := tk' } ∧ Inv m' nx' ∧ Fr h₀ L h' m' ∧ News h₀ L h' ((I, oI) :: nx') ∧ OffI I nx'
  | _ => False
theorem forEnd {Inv : (Str → Option Value) → List (Addr × Obj) → Prop} {L I : Addr} {oI : Obj} {h' : Heap} {tk' : Nat} {m' : Str → Option Value} {nx' all : List (Addr × Obj)}
    (F : Fr h₀ L h' m') (N : News h₀ L h' all) (hs : ∀ p ∈ (I, oI) :: nx', p ∈ all) (off : OffI I nx') (hI : Inv m' nx') : ForEnd Inv h₀ L s I oI .next { s with heap := h', toks := tk' } :=
  ⟨m', nx', h', tk', rfl, hI, F, fun p hp => N p (hs p hp), off⟩
theorem for_inv {n : Nat} {P : Nat → Value → Prop} (Inv : Nat → (Str → Option Value) → List (Addr × Obj) → Prop) {x : Str} {px pos : Pos} {iter : Expr} {body : List Stmt} {Q : Flow → Shared → Prop}
    (_F : Fr h₀ env.locals s.heap m) (hh : A.handled = none) (hx : env.kindOf x = some .local) (hp : (env.scope.kind == .class || (env.scope.kind == .module && env.locals != env.globals)) = false)
    (hit : wpAny (model prog w) A (eval iter env) (fun xv s₁ => Hold (SrcOk xv n P ∧ ∃ m nx, Fr h₀ env.locals s₁.heap m ∧ News h₀ env.locals s₁.heap nx ∧ Inv 0 m nx ∧
      (∀ i v m nx I oI h tk, i < n → P i v → Inv i m nx → Fr h₀ env.locals h (fun y => if y = x then some v else m y) → News h₀ env.locals h ((I, oI) :: nx) → OffI I nx →
        wpAny (model prog w) A (execs body env) (ForEnd (Inv (i + 1)) h₀ env.locals s₁ I oI) (fun _ _ => False) { s₁ with heap := h, toks := tk }) ∧
      (∀ m nx h tk, Inv n m nx → Fr h₀ env.locals h m → News h₀ env.locals h nx → Q .next { s₁ with heap := h, toks := tk }))) E s)
    (hs : ∀ x, foldedSetIterable iter env x = pure x := by intro _; rfl) :
    wpAny (model prog w) A (exec (.For (.Name x px) iter body [] pos) env) Q E s := by
  refine wpAny_For (wpAny_mono hit (fun xv s₁ h₁ => ?_) fun _ _ e => e) hs
  obtain ⟨src, m, nx, F, N, hI, turn, done⟩ := h₁
  refine src prog w A s₁ _ _ fun o St W hIo hst => ?_
  have W' := W A hh
  have hIL : s₁.heap.objs.size ≠ env.locals := Ne.symm (Nat.ne_of_lt F.ns.lt)
  have hI₀ : h₀.get? s₁.heap.objs.size = none := next_is_new F
  have hL₀ : h₀.get? env.locals = none := Heap.get?_none_of_le F.above
  refine codeAny_forLoop_any (fun k s' => ∃ h' tk i m' nx', s' = { s₁ with heap := h', toks := tk } ∧ i ≤ n ∧ k = n + 1 - i ∧ St i h' ∧ Fr h₀ env.locals h' m' ∧ News h₀ env.locals h' nx' ∧ OffI s₁.heap.objs.size nx' ∧ Inv i m' nx') ?_ (n + 1)
    ⟨_, s₁.toks, 0, m, nx, rfl, Nat.zero_le _, rfl, hst, F.keeps fun _ _ e => Heap.get?_push_of_some _ e, N.grown fun _ _ e => Heap.get?_push_of_some _ e, OffI.of fun p hp => Nat.ne_of_lt (Heap.lt_size (N p hp).1), hI⟩
  rintro k s' ⟨h', tk, i, m', nx', rfl, hi, rfl, hst', F', N', off', hI'⟩
  by_cases hlt : i < n
  · refine W'.item i _ _ _ hlt hst' fun v h₂ tk₂ hPv hst₂ hk₂ => ?_
    refine wpAny_of_eq (a := ()) rfl ?_
    have N₂ : News h₀ env.locals h₂ nx' := news_but N' hk₂ off'.mem
    have F₂ : Fr h₀ env.locals h₂ m' := fr_but F' hk₂ (Ne.symm hIL) hI₀
    refine wpAny_assign_Name (wpAny_storeName_local hx F₂.ns (fun h₃ hn₃ hs₃ => ?_) hp)
    have F₃ : Fr h₀ env.locals h₃ (fun y => if y = x then some v else m' y) := F₂.set hn₃ hs₃
    have hst₃ : St (i + 1) h₃ := W'.frame _ _ _ hst₂ fun b hb o e => hs₃.extBut b o (by rw [List.mem_singleton.mp hb]; exact hIL) e
    obtain ⟨oI, heI⟩ := hIo _ _ hst₃
    have N₃ : News h₀ env.locals h₃ ((s₁.heap.objs.size, oI) :: nx') := fun p hp => by
      rcases List.mem_cons.mp hp with rfl | hp
      · exact ⟨heI, hIL, hI₀⟩
      · exact ⟨hs₃.extBut _ _ (N₂ p hp).2.1 (N₂ p hp).1, (N₂ p hp).2⟩
    refine wpAny_mono (turn i v m' nx' _ oI h₃ _ hlt hPv hI' F₃ N₃ off') (fun fl s₃ hw => ?_) fun _ _ e => e.elim
    have fin : ∀ fl', (∃ m' nx' h' tk', s₃ = { s₁ with heap := h', toks := tk' } ∧ Inv (i + 1) m' nx' ∧ Fr h₀ env.locals h' m' ∧ News h₀ env.locals h' ((s₁.heap.objs.size, oI) :: nx') ∧ OffI s₁.heap.objs.size nx') → fl' = fl →
        ∃ k, k < n + 1 - i ∧ ∃ h' tk i m' nx', s₃ = { s₁ with heap := h', toks := tk } ∧ i ≤ n ∧ k = n + 1 - i ∧ St i h' ∧ Fr h₀ env.locals h' m' ∧ News h₀ env.locals h' nx' ∧ OffI s₁.heap.objs.size nx' ∧ Inv i m' nx' := by
      rintro fl' ⟨m₄, nx₄, h₄, tk₄, rfl, hI₄, F₄, N₄, off₄⟩ -
      refine ⟨n + 1 - (i + 1), by omega, h₄, tk₄, i + 1, m₄, nx₄, rfl, hlt, rfl, ?_, F₄, fun p hp => N₄ p (List.mem_cons_of_mem _ hp), off₄, hI₄⟩
      refine W'.frame _ _ _ hst₃ fun b hb o e => ?_
      rw [List.mem_singleton.mp hb] at e ⊢
      rw [heI] at e; cases e
      exact (N₄ _ List.mem_cons_self).1
    cases fl with
    | next => exact fin _ hw rfl
    | cont => exact fin _ hw rfl
    | brk => exact hw.elim
    | ret v => exact hw.elim
  · obtain rfl : i = n := Nat.le_antisymm hi (Nat.not_lt.mp hlt)
    refine W'.done _ _ _ hst' fun h₂ tk₂ hk₂ => ?_
    exact wpAny_execs_nil (done m' nx' h₂ tk₂ hI' (fr_but F' hk₂ (Ne.symm hIL) hI₀) (news_but N' hk₂ off'.mem))
end
end Mine
end PartC0
section PartB0
open PySem PySem.W PyProof.Rows PySem.Calls
namespace Mine
noncomputable abbrev LO : List Str := looseW hd.view_39 [Str.ofString "_NAMED", Str.ofString "quote", Str.ofString "escape", Str.ofString "_charref_re"]


/-- a state made from s by heap and tokens alone, what stood standing, the value told by P -/
def LeaveP (s : Shared) (P : Value → Prop) (v : Value) (s' : Shared) : Prop :=
  ∃ h' tk', s' = { s with heap := h', toks := tk' } ∧ (∀ b o, s.heap.get? b = some o → h'.get? b = some o) ∧ P v
theorem leaveP {s : Shared} {P : Value → Prop} {v : Value} {L : Addr} {h' : Heap} {tk' : Nat} {m : Str → Option Value} (F : Fr s.heap L h' m) (hp : P v) : LeaveP s P v { s with heap := h', toks := tk' } :=
  ⟨h', tk', rfl, F.keep, hp⟩

/-- the contract of a def -/
def Con (w : World) (b : Bool) (d u : Nat) (f : Addr) (vs : List Value) (kw : List (Str × Value)) (P : Value → Prop) : Prop :=
  ∀ (mean : ExcName → Option Value) (mg mb : Str → Option Value) (dp un : Nat) (gd : Option (List Code)) (cn : Str) (cs : Scope) (a : Addr) (ccd : Value) (cl : List (Str × Addr)) (outer : List Env) (A₀ : Around) (base h₀ : Heap) (L : Addr) (m : Str → Option Value) (s : Shared) (Q E : Value → Shared → Prop),
    Below A₀ base outer h₀ → Fr h₀ L s.heap m → (hd.heap_39 w.params).In h₀ → Top hd.view_39 LO mean mg mb h₀ → cs.kind = .function → dp + d < recursionLimit → un + u < cLine → (b = true → 0 < s.toks) →
    (∀ v h' tk', P v → (∀ b o, s.heap.get? b = some o → h'.get? b = some o) → s.toks ≤ tk' → Q v { s with heap := h', toks := tk' }) →
    wpAny (model PySem.Challenge.rw_ci0009_01.row.prog w) (ktrTop dp un gd cn cs L a ccd cl outer) (call (.ref f) vs kw) Q E s

section
variable {w : World} {A A₀ : Around} {s : Shared} {K : Frag} {L : Addr} {h₀ base : Heap} {m mg mb : Str → Option Value} {p : Program} {loose : List Str} {mean : ExcName → Option Value} {prog : Program}
theorem enterS {env : Env} {outer : List Env} {Q E : Value → Shared → Prop} {P : Value → Prop} {name qual : Str} {params : Arguments} {body : List Stmt} {scope : Scope} {dV kV doc pm cdv ct oc : Value} {an od : Option Addr} {osl : Array (Option Value)} {f : Addr} {vs : List Value} {kw : List (Str × Value)} {binds : List (Str × Value)}
    (B : Below A₀ base outer h₀) (F : Fr h₀ L s.heap m) (X₀ : K.In h₀) (T : Top p loose mean mg mb h₀) (hA : A.frames = some (env :: outer)) (hf : env.frame = some L) (hke : env.scope.kind = .function)
    (ho : K.lookup f = some ⟨oc, od, .func (fnOf name qual params body scope dV kV doc pm an cdv ct), osl⟩) (hcd : codeIn K cdv qual = true) (hroom : A.depth < recursionLimit)
    (hbind : BindsTo s (fnOf name qual params body scope dV kV doc pm an cdv ct) ⟨vs, kw⟩ binds) (hloc : ∀ y ∈ binds, scope.names.lookup y.1 = some .local)
    (hret : ∀ v h' tk', P v → (∀ b o, s.heap.get? b = some o → h'.get? b = some o) → s.toks ≤ tk' → Q v { s with heap := h', toks := tk' })
    (h : ∀ L' h₁, Fr s.heap L' h₁ (fun y => binds.reverse.lookup y) → News s.heap L' h₁ [] → Below A base (env :: outer) s.heap → K.In s.heap → Top p loose mean mg mb s.heap →
      wpAny (model prog w) (A.deeper (envOf qual scope L' f cdv)) (execs body (envOf qual scope L' f cdv))
        (fun fl s' => LeaveP s P (match fl with | .ret v => v | _ => .none) s') (fun _ _ => False)
        { s with heap := h₁, toks := s.toks + binds.length })
    (hco : scope.isCoroutine = false) (hgen : scope.isGenerator = false) (hk : scope.kind = .function)
    (hcell : ∀ x ∈ scope.names, x.2 ≠ .cell) : wpAny (model prog w) A (call (.ref f) vs kw) Q E s := by
  have keep := F.keep
  refine wpAny_with_toks (n := s.toks) (Nat.le_refl _) ?_
  refine wpAny_call (codeAny_call_def (fd := fnOf name qual params body scope dV kV doc pm an cdv ct) (body := body) (binds := binds) hroom ((X₀.keeps F.keep) _ _ ho) rfl (T.nolimit.keeps F.keep) (codeRec_of (X₀.keeps F.keep) hcd) rfl hbind hcell hloc (fun h₁ hns hk₁ => ?_) hco hgen hk)
  have B' : Below A base (env :: outer) s.heap := by
    have B₁ := pushX B F hf hke
    exact ⟨hA, B₁.stays, B₁.frames⟩
  refine wpAny_mono (h s.heap.objs.size h₁ ⟨hns, hk₁, Nat.le_refl _⟩ News.nil B' (X₀.keeps F.keep) (T.keeps F.keep)) (fun fl s' hl => ?_) fun _ _ y => y.elim
  obtain ⟨h', tk', rfl, hk', hp⟩ := hl
  exact fun hpos => hret _ _ _ hp hk' hpos

theorem enterSC {env : Env} {outer : List Env} {Q E : Value → Shared → Prop} {P : Value → Prop} {name qual : Str} {params : Arguments} {body : List Stmt} {scope : Scope} {dV kV doc pm cdv ct oc : Value} {an od : Option Addr} {osl : Array (Option Value)} {f : Addr} {vs : List Value} {kw : List (Str × Value)} {binds : List (Str × Value)}
    (B : Below A₀ base outer h₀) (F : Fr h₀ L s.heap m) (X₀ : K.In h₀) (T : Top p loose mean mg mb h₀) (hA : A.frames = some (env :: outer)) (hf : env.frame = some L) (hke : env.scope.kind = .function)
    (ho : K.lookup f = some ⟨oc, od, .func (fnOf name qual params body scope dV kV doc pm an cdv ct), osl⟩) (hcd : codeIn K cdv qual = true) (hroom : A.depth < recursionLimit)
    (hbind : BindsTo s (fnOf name qual params body scope dV kV doc pm an cdv ct) ⟨vs, kw⟩ binds) (hkind : (binds.all fun y => scope.names.lookup y.1 == some .local || scope.names.lookup y.1 == some .cell) = true)
    (hnd : ((cellsFrom 0 scope.names []).map (·.1)).Nodup)
    (hret : ∀ v h' tk', P v → (∀ b o, s.heap.get? b = some o → h'.get? b = some o) → s.toks ≤ tk' → Q v { s with heap := h', toks := tk' })
    (h : ∀ L' h₁ tk cells, s.toks ≤ tk → Fr s.heap L' h₁ (bindL (envOfC qual scope L' f cdv).kindOf binds fun _ => none) → News s.heap L' h₁ (cells ++ []) →
      CellsAre (bindC (envOfC qual scope L' f cdv).kindOf binds fun _ => none) (cellsFrom (L' + 1) scope.names []) cells → Below A base (env :: outer) s.heap → K.In s.heap → Top p loose mean mg mb s.heap →
      wpAny (model prog w) (A.deeper (envOfC qual scope L' f cdv)) (execs body (envOfC qual scope L' f cdv))
        (fun fl s' => LeaveP s P (match fl with | .ret v => v | _ => .none) s') (fun _ _ => False)
        { s with heap := h₁, toks := tk })
    (hco : scope.isCoroutine = false) (hgen : scope.isGenerator = false) (hk : scope.kind = .function) : wpAny (model prog w) A (call (.ref f) vs kw) Q E s := by
  have B' : Below A base (env :: outer) s.heap := by
    have B₁ := pushX B F hf hke
    exact ⟨hA, B₁.stays, B₁.frames⟩
  refine wpAny_with_toks (n := s.toks) (Nat.le_refl _) ?_
  refine wpAny_call (codeAny_call_function hroom ((X₀.keeps F.keep) _ _ ho) rfl hco hgen rfl (codeRec_of (X₀.keeps F.keep) hcd) (hbind _ _ _ _ (wpAny_with_toks (n := s.toks) (Nat.le_refl _) ?_)))
  refine wpAny_newFunctionEnv_cells hk (kindsX hkind _) fun env' he s' x => ?_
  subst he
  intro htk
  refine ⟨(T.nolimit.keeps F.keep).keeps x.toInCall.keep, codeAny_func ?_⟩
  obtain ⟨h₁, tk, rfl, _⟩ := x.done
  have hk₁ := x.toInCall.keep
  obtain ⟨cells, NC, Y⟩ := Cl.news (h₀ := s.heap) (Nat.le_refl _) fun n c hm => ⟨x.cell n c (lookup_of_mem_nodup (cellsFrom_names scope.names 0 (s.heap.objs.size + 1) [] [] rfl ▸ hnd) hm), x.above n c hm⟩
  refine wpAny_mono (h s.heap.objs.size h₁ tk cells htk ⟨x.toInCall.ns, hk₁, Nat.le_refl _⟩ (by rw [List.append_nil]; exact NC) Y B' (X₀.keeps F.keep) (T.keeps F.keep)) (fun fl s' hl => ?_) fun _ _ y => y.elim
  obtain ⟨h', tk', rfl, hk', hp⟩ := hl
  exact fun hpos => hret _ _ _ hp hk' hpos

theorem execs_consP {M : Model} {env : Env} {st : Stmt} {rest : List Stmt} {Q : Flow → Shared → Prop} {E : Value → Shared → Prop} (hn : 0 < s.toks)
    (h : ∀ tk, 0 < tk → wpAny M A (exec st env) (fun fl s' => 0 < s'.toks → (match fl with | .next => wpAny M A (execs rest env) Q E s' | f => Q f s')) E { s with toks := tk }) :
    wpAny M A (execs (st :: rest) env) Q E s :=
  wpAny_execs_cons (wpAny_with_toks (n := 1) hn (wpAny_mono (h s.toks hn) (fun _ _ x => x) fun _ _ x _ => x))

theorem replaceP {x y z : Str} {t u v : Tok} {Q E : Value → Shared → Prop} (a b : Nat) (hab : a + (a + 1) * b ≤ 16777216) (hu : @LT.lt Nat _ 0 u) (hv : @LT.lt Nat _ 0 v) (huv : @Ne Nat u v) (hyz : (y == z) = false) (hx : x.length ≤ a) (hz : z.length ≤ b)
    (hq : ∀ t' k, (Txt.replace x y z).length ≤ a + (a + 1) * b → Q (.str (Txt.replace x y z) t') { s with toks := k }) : wpAny (model prog w) A (call (.builtin "str.replace") [.str x t, .str y u, .str z v]) Q E s := by
  have h1 : (x.length + 1) * z.length ≤ (x.length + 1) * b := Nat.mul_le_mul_left _ hz
  have h2 : (x.length + 1) * b ≤ (a + 1) * b := Nat.mul_le_mul_right _ (by omega)
  have hb : x.length + (x.length + 1) * z.length ≤ 16777216 := by omega
  have hl : Builtin.Str.tooLong (x.length + (Builtin.Str.occurrences x y 0 x.length (x.length + 1)).length * z.length) = false := by
    have h1 := StrLaws.occ_length_le x y 0 x.length (x.length + 1)
    have h2 : (Builtin.Str.occurrences x y 0 x.length (x.length + 1)).length * z.length ≤ (x.length + 1) * z.length := Nat.mul_le_mul_right _ h1
    unfold Builtin.Str.tooLong sizeLine
    exact decide_eq_false (by omega)
  refine call_gives F.slot_str_replace (typeIs_str _ _ _) F.entry_str_replace (F.args_str_replace_3 _ _ _)
    (gives_str_replace x y z t u v fun _ => ⟨by rw [Bool.or_eq_false_iff]; exact ⟨beq_eq_false_iff_ne.mpr (Nat.ne_of_gt hu), beq_eq_false_iff_ne.mpr (Nat.ne_of_gt hv)⟩, beq_eq_false_iff_ne.mpr huv, hyz, hl⟩) ?_
  have hlen : (Txt.replace x y z).length ≤ a + (a + 1) * b := by
    unfold Txt.replace
    split
    · omega
    · have q1 := StrLaws.occ_length_le x y 0 x.length (x.length + 1)
      have hy : (Builtin.Str.glued y (Builtin.Str.partsBetween x (Builtin.Str.occurrences x y 0 x.length (x.length + 1)) y.length)).length = x.length := by rw [StrLaws.glued_between_self]
      rw [size_glued, length_partsBetween, Nat.add_sub_cancel] at hy
      rw [size_glued, length_partsBetween, Nat.add_sub_cancel]
      have q2 : (Builtin.Str.occurrences x y 0 x.length (x.length + 1)).length * z.length ≤ (x.length + 1) * z.length := Nat.mul_le_mul_right _ q1
      omega
  have hq' := fun t' k => hq t' k hlen
  unfold Txt.replace at hq'
  cases hc : ((Builtin.Str.occurrences x y 0 x.length (x.length + 1)).isEmpty || (y.length == 0 && z.length == 0))
  · rw [hc] at hq'
    simp only [Bool.false_eq_true, if_false] at hq' ⊢
    exact ⟨fits_replaced y hb, hq' _ _⟩
  · rw [hc] at hq'
    simp only [if_true] at hq' ⊢
    exact hq' t s.toks
end
section
variable {w : World} {base h₀ : Heap} {L a : Addr} {m mg mb : Str → Option Value} {mean : ExcName → Option Value} {b : Bool} {d u dp un : Nat} {f : Addr} {vs : List Value} {kw : List (Str × Value)} {P : Value → Prop} {gd : Option (List Code)} {cn : Str} {cs : Scope} {ccd : Value} {cl : List (Str × Addr)} {outer : List Env} {A₀ : Around} {s : Shared} {Q E : Value → Shared → Prop} {news : List (Addr × Obj)}
theorem con_use (C : Con w b d u f vs kw P) (B : Below A₀ base outer h₀) (F : Fr h₀ L s.heap m) (X : (hd.heap_39 w.params).In h₀) (N : News h₀ L s.heap news) (T : Top hd.view_39 LO mean mg mb h₀) (hk : cs.kind = .function) (hd : dp + d < recursionLimit) (hu : un + u < cLine) (ht : b = true → 0 < s.toks)
    (h : ∀ v h' tk', P v → Fr h₀ L h' m → News h₀ L h' news → s.toks ≤ tk' → Q v { s with heap := h', toks := tk' }) :
    wpAny (model PySem.Challenge.rw_ci0009_01.row.prog w) (ktrTop dp un gd cn cs L a ccd cl outer) (call (.ref f) vs kw) Q E s :=
  C mean mg mb dp un gd cn cs a ccd cl outer A₀ base h₀ L m s Q E B F X T hk hd hu ht fun v h' tk' hp hk' htk => h v h' tk' hp (F.keeps hk') (N.grown hk') htk
end
end Mine
end PartB0
section PartP0
open PySem PySem.W PyProof.Rows PySem.Calls
namespace Mine
/-- one sign escaped -/
def escOne (q : Bool) (c : Nat) : List Nat :=
  if c = 38 then [38, 97, 109, 112, 59] else if c = 60 then [38, 108, 116, 59] else if c = 62 then [38, 103, 116, 59] else if c = 34 ∧ q = true then [38, 113, 117, 111, 116, 59] else [c]
def escL (q : Bool) (l : List Nat) : List Nat := l.flatMap (escOne q)

theorem str_eq1 (c d : Nat) : ((⟨#[c]⟩ : Str) == ⟨#[d]⟩) = decide (c = d) := by
  by_cases h : c = d
  · subst h; simp
  · have : ¬ (⟨#[c]⟩ : Str) = ⟨#[d]⟩ := by intro e; injection e with e; injection e with e; injection e with e _; exact h e
    simp [h, this]
theorem ofs1 (c : Nat) (x : String) (h : Str.ofString x = ⟨#[c]⟩) : Str.ofString x = ⟨#[c]⟩ := h
theorem same_str (a b : Str) : Spec.same (.str a) (.str b) = (a == b) := rfl
theorem sum_len_le {α : Type} (f : α → Str) (B : Nat) : ∀ (l : List α), (∀ c ∈ l, (f c).length ≤ B) → ((l.map f).map (·.length)).sum + (l.map f).length ≤ (B + 1) * l.length
  | [], _ => by simp
  | c :: l, h => by
    have h1 := sum_len_le f B l fun c hc => h c (List.mem_cons_of_mem _ hc)
    have h2 := h c List.mem_cons_self
    simp only [List.map_cons, List.sum_cons, List.length_cons, Nat.mul_add, Nat.mul_one] at *
    omega
theorem flat_inv {v : Value} {D : PyData} {x : Str} (h : PyProof.V.Flat v D) (e : D = .str x) : ∃ t : Tok, v = .str x t := by subst e; exact h.str_inv
theorem escOne_len (q : Bool) (c : Nat) : (S (escOne q c)).length ≤ 6 := by
  unfold escOne
  (repeat' split) <;> simp [Str.length]
theorem flatMap_len {α β : Type} (f : α → List β) (B : Nat) : ∀ (l : List α), (∀ c ∈ l, (f c).length ≤ B) → (l.flatMap f).length ≤ B * l.length
  | [], _ => by simp
  | c :: l, h => by
    have h1 := flatMap_len f B l fun c hc => h c (List.mem_cons_of_mem _ hc)
    have h2 := h c List.mem_cons_self
    simp only [List.flatMap_cons, List.length_append, List.length_cons, Nat.mul_add, Nat.mul_one] at *
    omega
theorem join_map {α : Type} (f : α → List Nat) (l : List α) : Str.join (Str.ofString "") (l.map fun c => S (f c)) = S (l.flatMap f) := by
  rw [show (l.map fun c => S (f c)) = (l.map f).map S from by rw [List.map_map]; rfl, join_empty, List.flatMap_def]
theorem tjoin_map {α : Type} (f : α → List Nat) (l : List α) : Txt.join (Str.ofString "") (l.map fun c => S (f c)) = S (l.flatMap f) := by
  rw [show Txt.join (Str.ofString "") (l.map fun c => S (f c)) = Str.join (Str.ofString "") (l.map fun c => S (f c)) from StrLaws.glued_eq_join _ _, join_map]
theorem lenS (l : List Nat) : (S l).length = l.length := by simp [Str.length]
theorem S_append (a b : List Nat) : (S a ++ S b : Str) = S (a ++ b) := by apply Str.ext'; simp [Str.cps_append]
theorem getL {α : Type} {l : List α} {i : Nat} {c c' : α} (h : l.toArray[i]? = some c) (h' : l[i]? = some c') : c = c' := by simpa [h'] using h.symm
theorem occ_one {x : Str} {c : Nat} {b : Bool} (h : (Builtin.Str.occurrences x ⟨#[c]⟩ 0 x.length 1).isEmpty = b) : x.cps.toList.contains c = !b := by
  have := StrLaws.found_one x c
  rw [h] at this
  rw [this]
  simp
end Mine
end PartP0
section PartP1
open PySem PySem.W PyProof.Rows PySem.Calls
namespace Mine
/-! the plain functions: texts as lists of numbers -/
def digd (c : Nat) : Bool := 48 ≤ c && c ≤ 57
def hexd (c : Nat) : Bool := digd c || (97 ≤ c && c ≤ 102) || (65 ≤ c && c ≤ 70)
def hval (c : Nat) : Nat := if c ≤ 57 then c - 48 else if c ≤ 70 then c - 55 else c - 87
def natOf (b : Nat) (l : List Nat) : Nat := l.foldl (fun a d => a * b + hval d) 0
def hexU (n : Nat) : Nat := if n < 10 then 48 + n else 55 + n
def pct (b : UInt8) : List Nat := [37, hexU (b.toNat / 16), hexU (b.toNat % 16)]
def alnumA (c : Nat) : Bool := digd c || (65 ≤ c && c ≤ 90) || (97 ≤ c && c ≤ 122)
def safeL : List Nat := [65, 66, 67, 68, 69, 70, 71, 72, 73, 74, 75, 76, 77, 78, 79, 80, 81, 82, 83, 84, 85, 86, 87, 88, 89, 90, 97, 98, 99, 100, 101, 102, 103, 104, 105, 106, 107, 108, 109, 110, 111, 112, 113, 114, 115, 116, 117, 118, 119, 120, 121, 122, 48, 49, 50, 51, 52, 53, 54, 55, 56, 57, 95, 46, 45, 126]
def quoOne (z : List Nat) (c : Nat) : List Nat := if (safeL ++ z).contains c then [c] else (Str.utf8Of c).flatMap pct
def quoL (z l : List Nat) : List Nat := l.flatMap (quoOne z)
def codOne (z : List Nat) (c : Nat) : List Nat := if (c < 128 && alnumA c) || ([95, 46, 45, 126] ++ z).contains c then [c] else (Str.utf8Of c).flatMap pct
def codL (z l : List Nat) : List Nat := l.flatMap (codOne z)

def octL : List Nat → List UInt8
  | [] => []
  | c :: h :: k :: r => if c == 37 && hexd h && hexd k then (natOf 16 [h, k]).toUInt8 :: octL r else Str.utf8Of c ++ octL (h :: k :: r)
  | c :: r => Str.utf8Of c ++ octL r

def decFrom (b : Array UInt8) : (fuel p : Nat) → List Nat
  | 0, _ => []
  | fuel + 1, p => if p ≥ b.size then [] else
    match Builtin.Bytes.utf8At b p with
    | (.char c, next) => c :: decFrom b fuel next
    | (.bad _ stop _, _) => 0xFFFD :: decFrom b fuel stop
def decS (l : List UInt8) : List Nat := decFrom l.toArray l.length 0

def namedL (l : List Nat) : Option Nat :=
  if l = [97, 109, 112] then some 38 else if l = [108, 116] then some 60 else if l = [103, 116] then some 62 else if l = [113, 117, 111, 116] then some 34
  else if l = [99, 111, 112, 121] then some 169 else if l = [110, 98, 115, 112] then some 160 else none
def numOk (n : Nat) : Bool :=
  if n < 160 then n == 9 || n == 10 || n == 12 || (31 < n && n < 127)
  else !((55295 < n && n < 57344) || (64975 < n && n < 65008) || n > 1114111 || n % 65536 > 65533)
def numL (b : Nat) (ok : Nat → Bool) (most : Nat) (f : List Nat) : Option Nat :=
  if f.isEmpty || !f.all ok || f.length > most then none else if numOk (natOf b f) then some (natOf b f) else none
def signL : List Nat → Option Nat
  | 35 :: r => (match r with
    | x :: h => if x == 120 || x == 88 then numL 16 hexd 1000000 h else numL 10 digd 7 (x :: h)
    | [] => none)
  | l => namedL l

/-- what stands between an & and the next ; (nothing where there is none) -/
def nameAt : List Nat → List Nat
  | c :: r => if c == 38 && r.contains 59 then r.takeWhile (· != 59) else []
  | [] => []
def readN : Nat → List Nat → List Nat
  | 0, _ => []
  | _ + 1, [] => []
  | n + 1, c :: r => match signL (nameAt (c :: r)) with
    | some d => d :: readN n (r.drop ((nameAt (c :: r)).length + 1))
    | none => c :: readN n r
def readL (l : List Nat) : List Nat := readN l.length l

/-! the regular expression's own reading: behind an &, how many signs it takes -/
def otherd (c : Nat) : Bool := !(c == 9 || c == 10 || c == 12 || c == 32 || c == 60 || c == 38 || c == 35 || c == 59)
def runOf (ok : Nat → Bool) (most : Nat) (l : List Nat) : Nat := min most (l.takeWhile ok).length
def takenBy (ok : Nat → Bool) (most : Nat) (l : List Nat) : Option Nat :=
  if 1 ≤ runOf ok most l ∧ l[runOf ok most l]? = some 59 then some (runOf ok most l + 1) else none
def matL : List Nat → Option Nat
  | 35 :: r => (match takenBy digd 7 r with
    | some k => some (k + 1)
    | none => (match r with
      | x :: h => if x == 120 || x == 88 then (takenBy hexd 4294967295 h).map (· + 2) else none
      | [] => none))
  | l => takenBy otherd 32 l
/-- what stands for the name that was taken (its ; at its end) -/
def replL (nm : List Nat) : List Nat := match signL nm.dropLast with
  | some d => [d]
  | none => 38 :: nm
def unN : Nat → List Nat → List Nat
  | 0, _ => []
  | _ + 1, [] => []
  | n + 1, c :: r => if c == 38 then (match matL r with
      | some k => replL (r.take k) ++ unN n (r.drop k)
      | none => c :: unN n r) else c :: unN n r
def unL (l : List Nat) : List Nat := unN l.length l

def co (s : String) : List Nat := s.toList.map Char.toNat
end Mine
end PartP1
section PartM0
open PySem PySem.W PyProof.Rows PySem.Calls PySem.Builtin
namespace Mine
theorem enc_eq (c : Nat) (t u : Tok) : «str.encode» ⟨[.str ⟨#[c]⟩ t, .str (Str.ofString "utf-8") u], []⟩ = ((_codecs.encodeNarrow "str.encode" _codecs.utf8Codec none (.str ⟨#[c]⟩ t) ⟨#[c]⟩ >>= fun b => mkBytes b) >>= fun v => ret v) := by kernel_rfl
theorem narrow_eq (c : Nat) (v : Value) (hc : Str.isSurrogate c = false) : _codecs.encodeNarrow "str.encode" _codecs.utf8Codec none v ⟨#[c]⟩ = pure (Str.utf8Of c).toArray := by
  have h1 : _codecs.utf8Codec.bad c = false := hc
  unfold _codecs.encodeNarrow
  simp [h1, sizeLine, Str.length]
  rfl
theorem gives_enc (c : Nat) (t u : Tok) (hc : Str.isSurrogate c = false) : Gives («str.encode» ⟨[.str ⟨#[c]⟩ t, .str (Str.ofString "utf-8") u], []⟩) (.bytes (Str.utf8Of c).toArray) := by
  rw [enc_eq, narrow_eq c _ hc]
  exact .of_eq rfl
theorem utf8Of_len (c : Nat) : 1 ≤ (Str.utf8Of c).length ∧ (Str.utf8Of c).length ≤ 4 := by
  unfold Str.utf8Of
  (repeat' split) <;> simp
section
variable {prog : Program} {w : World} {A : Around} {E : Value → Shared → Prop} {s : Shared}
theorem call_enc {c : Nat} {t u : Tok} {Q : Value → Shared → Prop} (hc : Str.isSurrogate c = false) (hq : ∀ t' k, Q (.bytes (Str.utf8Of c).toArray t') { s with toks := k }) :
    wpAny (model prog w) A (call (.builtin "str.encode") [.str ⟨#[c]⟩ t, .str (Str.ofString "utf-8") u]) Q E s :=
  call_gives F.slot_str_encode (typeIs_str _ _ _) F.entry_str_encode (F.args_str_encode_2 _ _) (gives_enc c t u hc) ⟨by rw [sizeLine_eq]; have := utf8Of_len c; simp; omega, hq _ _⟩
theorem meth_enc {M : Model} {x : Str} {t : Tok} {pl : Sem Bool} {Q : Value × List Value → Shared → Prop} (h : Q (.builtin "str.encode", [.str x t]) s) : wpAny M A (getMethod (.str x t) "encode" pl) Q E s := by
  with_reducible exact GM.of (.str x t) (typeIs_str _ _ _) F.slot_str_encode F.type_str_encode GM.noRef h
end
theorem pcts_len (c : Nat) : ((Str.utf8Of c).flatMap pct).length ≤ 12 := Nat.le_trans (flatMap_len _ 3 _ fun b _ => by simp [pct]) (by have := utf8Of_len c; omega)
theorem quoOne_len (z : List Nat) (c : Nat) : (S (quoOne z c)).length ≤ 12 := by
  rw [lenS]; unfold quoOne
  split
  · simp
  · exact pcts_len c
theorem codOne_len (z : List Nat) (c : Nat) : (S (codOne z c)).length ≤ 12 := by
  rw [lenS]; unfold codOne
  split
  · simp
  · exact pcts_len c
theorem codL_take {z l : List Nat} {i c : Nat} (h : l[i]? = some c) : codL z (l.take (i + 1)) = codL z (l.take i) ++ codOne z c := by
  rw [List.take_add_one, h]; simp [codL]
theorem strs_snoc {l : List Value} {xs : List (List Nat)} {y : List Nat} {t : Tok} (h : StrsAre l (xs.map S)) : StrsAre (l ++ [.str (S y) t]) ((xs ++ [y]).map S) := by
  rw [List.map_append]; exact kct_snoc h
theorem strs_app : ∀ {l l' : List Value} {xs xs' : List Str}, StrsAre l xs → StrsAre l' xs' → StrsAre (l ++ l') (xs ++ xs')
  | _, _, _, _, .nil, h => h
  | _, _, _, _, .cons y t r, h => .cons y t (strs_app r h)
theorem sum_map_S : ∀ xs : List (List Nat), ((xs.map S).map (·.length)).sum = xs.flatten.length
  | [] => rfl
  | x :: xs => by simp only [List.map_cons, List.sum_cons, sum_map_S xs, List.flatten_cons, List.length_append, lenS]
theorem codL_len (z l : List Nat) : (codL z l).length ≤ 12 * l.length := flatMap_len _ 12 _ fun c _ => by have := codOne_len z c; rw [lenS] at this; exact this
theorem quoL_len (z l : List Nat) : (quoL z l).length ≤ 12 * l.length := flatMap_len _ 12 _ fun c _ => by have := quoOne_len z c; rw [lenS] at this; exact this
theorem alnum_ok : ∀ c : Nat, c < 128 → Txt.isalnum ⟨#[c]⟩ = alnumA c := by decide +kernel
theorem ascii_ok (c : Nat) : Txt.isascii ⟨#[c]⟩ = decide (c < 128) := by simp [Txt.isascii]
theorem dig_ok : ∀ k : Nat, k < 256 → (Str.ofString "%" ++ Txt.item (Str.ofString "0123456789ABCDEF") (Int.fdiv (k : Int) 16) ++ Txt.item (Str.ofString "0123456789ABCDEF") (Int.fmod (k : Int) 16) : Str) = S [37, hexU (k / 16), hexU (k % 16)] := by decide +kernel
theorem cod_yes1 {z : List Nat} {c : Nat} (h1 : Txt.isascii ⟨#[c]⟩ = true) (h2 : Txt.isalnum ⟨#[c]⟩ = true) : codOne z c = [c] := by
  rw [ascii_ok, decide_eq_true_eq] at h1
  rw [alnum_ok c h1] at h2
  unfold codOne
  rw [if_pos (by simp [h1, h2])]
theorem cod_in {z : List Nat} {c : Nat} {b : Bool} (h : (Builtin.Str.occurrences (Str.ofString "_.-~" ++ S z) ⟨#[c]⟩ 0 (Str.ofString "_.-~" ++ S z).length 1).isEmpty = b) : ([95, 46, 45, 126] ++ z).contains c = !b := by
  rw [show (Str.ofString "_.-~" : Str) = S [95, 46, 45, 126] from by decide +kernel, S_append] at h
  have := occ_one h
  simpa using this
theorem cod_yes2 {z : List Nat} {c : Nat} (h : (Builtin.Str.occurrences (Str.ofString "_.-~" ++ S z) ⟨#[c]⟩ 0 (Str.ofString "_.-~" ++ S z).length 1).isEmpty = false) : codOne z c = [c] := by
  unfold codOne
  rw [if_pos (by rw [cod_in h]; simp)]
theorem cod_no1 {z : List Nat} {c : Nat} (h1 : Txt.isascii ⟨#[c]⟩ = true) (h2 : Txt.isalnum ⟨#[c]⟩ = false) (h : (Builtin.Str.occurrences (Str.ofString "_.-~" ++ S z) ⟨#[c]⟩ 0 (Str.ofString "_.-~" ++ S z).length 1).isEmpty = true) : codOne z c = (Str.utf8Of c).flatMap pct := by
  rw [ascii_ok, decide_eq_true_eq] at h1
  rw [alnum_ok c h1] at h2
  unfold codOne
  rw [if_neg (by rw [cod_in h]; simp [h2])]
theorem cod_no2 {z : List Nat} {c : Nat} (h1 : Txt.isascii ⟨#[c]⟩ = false) (h : (Builtin.Str.occurrences (Str.ofString "_.-~" ++ S z) ⟨#[c]⟩ 0 (Str.ofString "_.-~" ++ S z).length 1).isEmpty = true) : codOne z c = (Str.utf8Of c).flatMap pct := by
  rw [ascii_ok, decide_eq_false_iff_not] at h1
  unfold codOne
  rw [if_neg (by rw [cod_in h]; simp [h1])]
section
variable {prog : Program} {w : World} {A : Around} {E : Value → Shared → Prop} {s : Shared} {h₀ : Heap} {L : Addr} {m : Str → Option Value} {news : List (Addr × Obj)}
theorem addK {l b : Addr} {its its2 : Array Value} {Q : Value → Shared → Prop} (F : Fr h₀ L s.heap m) (N : News h₀ L s.heap news) (hl : s.heap.IsList l its) (hb : s.heap.IsList b its2)
    (h : ∀ D h', Fr h₀ L h' m → News h₀ L h' ((D, W.listOf (its.toList ++ its2.toList).toArray 0) :: news) → (∀ p ∈ news, p.1 < D) → Q (.ref D) { s with heap := h' }) (hsz : its.size + its2.size ≤ sizeLine) :
    wpAny (model prog w) A (binaryOp .Add (.ref l) (.ref b)) Q E s :=
  add_arrays F N hl hb (fun h' F' N' => h _ h' F' N' fun p hp => Heap.lt_size (N p hp).1) hsz
end
end Mine
end PartM0
section PartM1
open PySem PySem.W PyProof.Rows PySem.Calls PySem.Builtin PySem.Builtin.Str PySem.Builtin.Int PySem.Builtin.Float
namespace Mine
def fmtDs (k : Nat) : List Nat := (Nat.toDigits 16 (Int.ofNat k).natAbs).map fun c => (if ((88 : Nat) == 88) = true then c.toUpper else c).toNat
def fmtT (k : Nat) : Str :=
  let ds := if (fmtDs k).isEmpty = true then [] else List.replicate ((2 : Int).toNat - (fmtDs k).length) 48 ++ fmtDs k
  ⟨(List.replicate 0 48 ++ [] ++ [] ++ List.replicate (((2 : Int) - (0 + 0 + 0) - ds.length).toNat) 48 ++ ds ++ [] ++ List.replicate 0 48).toArray⟩
theorem fmt_eq (k : Nat) (t u : Tok) : «int.__format__» ⟨[.int (Int.ofNat k) t, .str (Str.ofString "02X") u], []⟩ = (typeNameOf (.str (Str.ofString "02X") u) >>= fun _ => typeNameOfCut 200 (.int (Int.ofNat k) t) >>= fun _ => retStr (fmtT k)) := by kernel_rfl
theorem fmt_text : ∀ k : Nat, k < 256 → fmtT k = S [hexU (k / 16), hexU (k % 16)] := by decide +kernel
theorem meets_02X (k : Nat) (hk : k < 256) (t : Tok) : ∀ u, Meets («int.__format__» ⟨[.int (Int.ofNat k) t, .str (Str.ofString "02X") u], []⟩) (fun _ R s => ∀ t' k', R (.ok (.ret (.str (S [hexU (k / 16), hexU (k % 16)]) t'))) { s with toks := k' }) := by
  intro u
  apply KPc.meets_of
  intro prog w A E s Q h
  rw [fmt_eq, fmt_text k hk]
  refine wpAny_bind (wpAny_typeNameOf (T := "str") (typeIs_str _ _ _) (by decide) fun _ => ?_)
  refine wpAny_bind (wpAny_typeNameOfCut_int ?_)
  exact KXf.ret_text rfl (by rw [sizeLine_eq]; simp [Str.length]) h
section
variable {prog : Program} {w : World} {A : Around} {E : Value → Shared → Prop} {s : Shared}
theorem field_02X {k : Nat} {t : Tok} {spec : Str} {Q : Value → Shared → Prop} (hs : spec = Str.ofString "02X") (hk : k < 256) (h : ∀ t' k', Q (.str (S [hexU (k / 16), hexU (k % 16)]) t') { s with toks := k' }) : wpAny (model prog w) A (formatField (.int (k : Int) t) spec) Q E s :=
  KXf.field_int hs (by decide +kernel) (by decide +kernel) (meets_02X k hk t) h
end
end Mine
end PartM1
section PartM2
open PySem PySem.W PyProof.Rows PySem.Calls PySem.Builtin
namespace Mine
theorem wp_textB {M : Model} {A : Around} {E : Value → Shared → Prop} {s : Shared} {Q : Value → Shared → Prop} {v : Value} {text : List Nat} {n : Int} {b : Nat}
    (hs : (text.takeWhile (· != 0)).length ≤ 640) (hr : (int_private% "readNumeral") 0 b (text.takeWhile (· != 0)) = (int_private% "Numeral.value") n)
    (ha : ((text.takeWhile (· != 0)).length == text.length) = true) (h : Q (.int n s.toks) { s with toks := s.toks + 1 }) :
    wpAny M A ((int_private% "intFromText") v text b) Q E s := by
  cases s
  iterate 2
    repeat' (first | exact h | refine wpAny_ite_true (decide_eq_true (by exact hs)) ?_ | refine wpAny_ite_true (decide_eq_true (by exact ha)) ?_ | wp_step)
    all_goals try rw [hr]
def numText (x : Str) : List Nat := if x.cps.all (· < 128) then x.cps.toList else Unicode.numberText x.cps.toList
theorem int_eq16 (x : Str) (u v : Tok) : «int.__new__» ⟨[.type "int", .str x u, .int 16 v], []⟩ = ((int_private% "intFromText") (.str x u) (numText x) 16 >>= fun r => ret r) := by kernel_rfl
theorem int_eq10 (x : Str) (u v : Tok) : «int.__new__» ⟨[.type "int", .str x u, .int 10 v], []⟩ = ((int_private% "intFromText") (.str x u) (numText x) 10 >>= fun r => ret r) := by kernel_rfl
theorem int_eq1 (x : Str) (u : Tok) : «int.__new__» ⟨[.type "int", .str x u], []⟩ = ((int_private% "intFromText") (.str x u) (numText x) 10 >>= fun r => ret r) := by kernel_rfl
theorem dropWhile_none {p : Nat → Bool} : ∀ {l : List Nat}, (∀ c ∈ l, p c = false) → l.dropWhile p = l
  | [], _ => rfl
  | c :: l, h => by rw [List.dropWhile_cons, h c List.mem_cons_self]; rfl
theorem hexd_cases {c : Nat} (h : hexd c = true) : (48 ≤ c ∧ c ≤ 57) ∨ (97 ≤ c ∧ c ≤ 102) ∨ (65 ≤ c ∧ c ≤ 70) := by
  simp [hexd, digd] at h; omega
theorem digitValue_hex {c : Nat} (h : hexd c = true) : (int_private% "digitValue?") c = some (hval c) ∧ hval c < 16 := by
  rcases hexd_cases h with h | h | h
  · have e : hval c = c - 48 := by unfold hval; simp [h.2]
    refine ⟨?_, by omega⟩
    show (if (decide (48 ≤ c) && decide (c ≤ 57)) = true then some (c - 48) else _) = _
    rw [if_pos (by simp [h]), e]
  · have e : hval c = c - 87 := by unfold hval; rw [if_neg (by omega), if_neg (by omega)]
    refine ⟨?_, by omega⟩
    show (if (decide (48 ≤ c) && decide (c ≤ 57)) = true then _ else if (decide (97 ≤ c) && decide (c ≤ 122)) = true then some (c - 87) else _) = _
    rw [if_neg (by simp; omega), if_pos (by simp; omega), e]
  · have e : hval c = c - 55 := by unfold hval; rw [if_neg (by omega), if_pos (by omega)]
    refine ⟨?_, by omega⟩
    show (if (decide (48 ≤ c) && decide (c ≤ 57)) = true then _ else if (decide (97 ≤ c) && decide (c ≤ 122)) = true then _ else if (decide (65 ≤ c) && decide (c ≤ 90)) = true then some (c - 55) else none) = _
    rw [if_neg (by simp; omega), if_neg (by simp; omega), if_pos (by simp; omega), e]
def stepD (b : Nat) (a : Array Nat × Bool) (c : Nat) : Option (Array Nat × Bool) :=
  if c == 95 then (if a.2 then some (a.1, false) else none)
    else match (int_private% "digitValue?") c with
      | some d => if d < b then some (a.1.push d, true) else none
      | none => none
theorem fold_digits {b : Nat} : ∀ (l : List Nat) (a : Array Nat) (f : Bool), (∀ c ∈ l, c ≠ 95 ∧ ∃ d, (int_private% "digitValue?") c = some d ∧ d = hval c ∧ d < b) →
    l.foldlM (stepD b) (a, f) = some ((a.toList ++ l.map hval).toArray, f || !l.isEmpty)
  | [], a, f, _ => by simp
  | c :: l, a, f, h => by
    obtain ⟨h1, d, h2, rfl, h3⟩ := h c List.mem_cons_self
    have e : stepD b (a, f) c = some (a.push (hval c), true) := by
      unfold stepD
      rw [if_neg (by simpa using h1), h2]
      simp [h3]
    rw [List.foldlM_cons, e]
    simp only [Option.bind_eq_bind, Option.bind_some]
    rw [fold_digits l _ _ fun c hc => h c (List.mem_cons_of_mem _ hc)]
    simp
theorem digits_some {b : Nat} {l : List Nat} (hne : l ≠ []) (h : ∀ c ∈ l, c ≠ 95 ∧ ∃ d, (int_private% "digitValue?") c = some d ∧ d = hval c ∧ d < b) :
    (int_private% "numeralDigits?") b l = some (l.map hval).toArray := by
  show (l.foldlM (stepD b) (#[], false) >>= fun r => if r.2 = true then some r.1 else none) = _
  rw [fold_digits l _ _ h]
  cases l with
  | nil => exact absurd rfl hne
  | cons c l => simp
theorem foldl_natOf (b : Nat) : ∀ (l : List Nat) (a : Nat), (l.map hval).foldl (fun acc d => acc * b + d) a = l.foldl (fun a d => a * b + hval d) a
  | [], _ => rfl
  | c :: l, a => by simp only [List.map_cons, List.foldl_cons]; exact foldl_natOf b l _
theorem read_ok {b : Nat} {l : List Nat} (hb : b = 16 ∨ b = 10) (hne : l ≠ []) (hd : ∀ c ∈ l, hexd c = true) (h : ∀ c ∈ l, hval c < b) (hl : l.length ≤ 640) :
    (int_private% "readNumeral") 0 b l = (int_private% "Numeral.value") (natOf b l : Int) := by
  have nb : ∀ c ∈ l, (int_private% "isBlank") c = false := fun c hc => by
    rcases hexd_cases (hd c hc) with h | h | h <;> (show (c == 32 || (decide (9 ≤ c) && decide (c ≤ 13))) = false) <;> simp <;> omega
  have e1 : l.dropWhile (int_private% "isBlank") = l := dropWhile_none nb
  have e2 : (l.reverse.dropWhile (int_private% "isBlank")).reverse = l := by
    rw [dropWhile_none fun c hc => nb c (by simpa using hc)]; simp
  have ds := digits_some (b := b) hne fun c hc => by
    have q := digitValue_hex (hd c hc)
    refine ⟨?_, _, q.1, rfl, h c hc⟩
    rcases hexd_cases (hd c hc) with h | h | h <;> omega
  have hsg : NumText.sign l = (false, l) := by
    cases l with
    | nil => exact absurd rfl hne
    | cons c r =>
      have := hexd_cases (hd c List.mem_cons_self)
      unfold NumText.sign
      split
      · rename_i q; injection q with q _; omega
      · rename_i q; injection q with q _; omega
      · rfl
  have hbs : NumText.based b l = (b, false, l) := by
    unfold NumText.based
    have hb0 : (b == 0) = false := by rcases hb with rfl | rfl <;> rfl
    split
    · rename_i p hp
      have : (b == p) = false := by
        unfold NumText.prefix? at hp
        split at hp
        · rename_i c r
          have hc := hexd_cases (hd c (by simp))
          rw [if_neg (by simp; omega)] at hp
          rw [beq_eq_false_iff_ne]
          rcases hb with rfl | rfl <;> (repeat' split at hp) <;> simp at hp <;> omega
        · cases hp
      rw [hb0, this]; rfl
    · rw [hb0]; rfl
  have r := NumText.readNumeral_eq 0 b l
  rw [show l.dropWhile NumText.blank = l from e1, hsg, hbs] at r
  dsimp only at r
  rw [show (l.reverse.dropWhile NumText.blank).reverse = l from e2, ← NumText.digits_eq, ds] at r
  rw [r]
  unfold NumText.judge
  dsimp only
  rw [if_neg (by simp), if_neg (by simp; omega), if_neg (by simp)]
  simp only [Bool.false_eq_true, if_false]
  show (int_private% "Numeral.value") (((l.map hval).toArray.foldl (fun acc d => acc * b + d) 0 : Nat) : Int) = _
  rw [List.foldl_toArray', foldl_natOf]
  all_goals rfl
theorem numText_S {l : List Nat} (hd : ∀ c ∈ l, hexd c = true) : numText (S l) = l := by
  unfold numText
  rw [if_pos]
  rw [Array.all_eq_true_iff_forall_mem]
  intro c hc
  have := hexd_cases (hd c (by simpa using hc))
  simp; omega
theorem takeWhile_all {p : Nat → Bool} : ∀ {l : List Nat}, (∀ c ∈ l, p c = true) → l.takeWhile p = l
  | [], _ => rfl
  | c :: l, h => by rw [List.takeWhile_cons, h c List.mem_cons_self]; simp [takeWhile_all fun c hc => h c (List.mem_cons_of_mem _ hc)]
theorem seen_S {l : List Nat} (hd : ∀ c ∈ l, hexd c = true) : l.takeWhile (· != 0) = l :=
  takeWhile_all fun c hc => by have := hexd_cases (hd c hc); simp; omega
theorem gives_int16 {l : List Nat} {u v : Tok} (hne : l ≠ []) (hd : ∀ c ∈ l, hexd c = true) (hl : l.length ≤ 640) : Gives («int.__new__» ⟨[.type "int", .str (S l) u, .int 16 v], []⟩) (.int (natOf 16 l : Int)) := by
  rw [int_eq16, numText_S hd]
  refine .of_wp fun M A E s Q h => wpAny_bind (wp_textB (n := (natOf 16 l : Int)) ?_ ?_ ?_ (wpAny_pure ⟨_, rfl, h⟩))
  · rw [seen_S hd]; exact hl
  · rw [seen_S hd]; exact read_ok (.inl rfl) hne hd (fun c hc => (digitValue_hex (hd c hc)).2) hl
  · rw [seen_S hd]; simp
theorem hexd_of_digd {c : Nat} (h : digd c = true) : hexd c = true := by simp [hexd, h]
theorem hval_digd {c : Nat} (h : digd c = true) : hval c < 10 := by
  simp [digd] at h; unfold hval; rw [if_pos (by omega)]; omega
theorem gives_int10 {l : List Nat} {u v : Tok} (hne : l ≠ []) (hd : ∀ c ∈ l, digd c = true) (hl : l.length ≤ 640) : Gives («int.__new__» ⟨[.type "int", .str (S l) u, .int 10 v], []⟩) (.int (natOf 10 l : Int)) := by
  have hd' : ∀ c ∈ l, hexd c = true := fun c hc => hexd_of_digd (hd c hc)
  rw [int_eq10, numText_S hd']
  refine .of_wp fun M A E s Q h => wpAny_bind (wp_textB (n := (natOf 10 l : Int)) ?_ ?_ ?_ (wpAny_pure ⟨_, rfl, h⟩))
  · rw [seen_S hd']; exact hl
  · rw [seen_S hd']; exact read_ok (.inr rfl) hne hd' (fun c hc => hval_digd (hd c hc)) hl
  · rw [seen_S hd']; simp
theorem gives_int1 {l : List Nat} {u : Tok} (hne : l ≠ []) (hd : ∀ c ∈ l, digd c = true) (hl : l.length ≤ 640) : Gives («int.__new__» ⟨[.type "int", .str (S l) u], []⟩) (.int (natOf 10 l : Int)) := by
  have hd' : ∀ c ∈ l, hexd c = true := fun c hc => hexd_of_digd (hd c hc)
  rw [int_eq1, numText_S hd']
  refine .of_wp fun M A E s Q h => wpAny_bind (wp_textB (n := (natOf 10 l : Int)) ?_ ?_ ?_ (wpAny_pure ⟨_, rfl, h⟩))
  · rw [seen_S hd']; exact hl
  · rw [seen_S hd']; exact read_ok (.inr rfl) hne hd' (fun c hc => hval_digd (hd c hc)) hl
  · rw [seen_S hd']; simp
theorem typeCall_int_2 (a b : Value) : checkTypeCall "int" ⟨[a, b], []⟩ = pure () := by kernel_rfl
theorem newCall_int_2 (a b : Value) : checkBuiltinCall "int.__new__" ⟨[.type "int", a, b], []⟩ = pure () := by kernel_rfl
section
variable {prog : Program} {w : World} {A : Around} {E : Value → Shared → Prop} {s : Shared} {Q : Value → Shared → Prop} {l : List Nat} {t u : Tok}
theorem call_int_2 {x y : Value} {S : PySem.Spec} {Q : Value → Shared → Prop} (g : Meets (Builtin.«int.__new__» ⟨[.type "int", x, y], []⟩) S) (h : S A.in1 (wants (fun obj s₁ => s₁.TypeIs obj "int" ∧ Q obj s₁) E) s) :
    wpAny (model prog w) A (call (.type "int") [x, y]) Q E s :=
  callType_new F.called_int F.newNe_int (typeCall_int_2 x y) (newCall_int_2 x y) (fun obj => F.args_object_init_3 obj x y) F.entry_int_new g h
theorem call_int10 (hne : l ≠ []) (hd : ∀ c ∈ l, digd c = true) (hl : l.length ≤ 640) (h : Q (.int (natOf 10 l : Int) s.toks) { s with toks := s.toks + 1 }) : wpAny (model prog w) A (call (.type "int") [.str (S l) t, .int 10 u]) Q E s :=
  call_int_2 (gives_int10 hne hd hl).meets (show (Made.int (natOf 10 l : Int)).post _ s from ⟨rfl, h⟩)
theorem call_int1 (hne : l ≠ []) (hd : ∀ c ∈ l, digd c = true) (hl : l.length ≤ 640) (h : Q (.int (natOf 10 l : Int) s.toks) { s with toks := s.toks + 1 }) : wpAny (model prog w) A (call (.type "int") [.str (S l) t]) Q E s :=
  call_int_1 (gives_int1 hne hd hl).meets (show (Made.int (natOf 10 l : Int)).post _ s from ⟨rfl, h⟩)
theorem call_int16 (hne : l ≠ []) (hd : ∀ c ∈ l, hexd c = true) (hl : l.length ≤ 640) (h : Q (.int (natOf 16 l : Int) s.toks) { s with toks := s.toks + 1 }) : wpAny (model prog w) A (call (.type "int") [.str (S l) t, .int 16 u]) Q E s :=
  call_int_2 (gives_int16 hne hd hl).meets (show (Made.int (natOf 16 l : Int)).post _ s from ⟨rfl, h⟩)
end
end Mine
end PartM2
section PartM3
open PySem PySem.W PyProof.Rows PySem.Calls PySem.Builtin
namespace Mine
theorem hint_bytes (b : Array UInt8) (t : Tok) : Builtin.List.listLengthHint (.bytes b t) = pure false := by kernel_rfl
section
variable {prog : Program} {w : World} {A : Around} {E : Value → Shared → Prop} {s : Shared} {h₀ : Heap} {L : Addr} {m : Str → Option Value} {news : List (Addr × Obj)}
theorem ext_loop {R : Result → Shared → Prop} {b : Array UInt8} {t : Tok} {I D : Addr} (hh : A.handled = none) (hID : I ≠ D) (res : Value) : ∀ (k i : Nat) (s : Shared) (acc : Array Value) (c : Nat), b.size - i = k → i ≤ b.size → KBw.IsBytesIter s.heap I b t i →
    s.heap.get? D = some (W.listOf acc c) → acc.size + k ≤ 16777216 →
    (∀ (h' : Heap) (tk' : Nat) (vs : List Value) (c' : Nat), (∀ q o, q ≠ D → q ≠ I → s.heap.get? q = some o → h'.get? q = some o) → h'.get? D = some (W.listOf (acc ++ vs.toArray) c') → IntsAre vs ((KBw.bInts b).drop i) → R (.ok (.ret res)) { s with heap := h', toks := tk' }) →
    codeAny (model prog w) A (.builtin "list.extend.loop" ⟨[.ref D, .ref I, res], []⟩) R s := by
  intro k
  induction k with
  | zero =>
    intro i s acc c hk hi hst hS hsz hR
    refine codeAny_builtin F.entry_extend_loop ?_
    rw [Around.under_plainId F.plain_extend_loop _]
    show wpAny _ A.in1 (pyNext (.ref I) >>= _) _ _ s
    refine wpAny_bind (KBw.next_end (A := A.in1) hh hst (by simp; omega) fun h' hx => ?_)
    refine wpAny_pure ?_
    have := hR h' s.toks [] c (fun q o hq hq' e => hx q o hq' e) (by rw [hx D _ (Ne.symm hID) hS]; simp) (by
      have : (KBw.bInts b).drop i = [] := List.drop_eq_nil_of_le (by rw [KBw.ints_length]; omega)
      rw [this]; exact .nil)
    exact this
  | succ k ih =>
    intro i s acc c hk hi hst hS hsz hR
    have hlt : i < b.size := by omega
    have hb : b[i]? = some b[i] := by simp [hlt]
    refine codeAny_builtin F.entry_extend_loop ?_
    rw [Around.under_plainId F.plain_extend_loop _]
    show wpAny _ A.in1 (pyNext (.ref I) >>= _) _ _ s
    refine wpAny_bind (KBw.next_item (A := A.in1) hst hb fun h' hst' hsb => ?_)
    have hS' : h'.get? D = some (W.listOf acc c) := (hsb.2 D (Ne.symm hID)).trans hS
    show wpAny _ A.in1 (updateSeq D (·.push _) >>= _) _ _ _
    refine wpAny_bind (wpAny_updateSeq hS' rfl ?_ (by rw [sizeLine_eq]; omega) (by rw [sizeLine_eq, Array.size_push]; omega))
    have hD₂ : (h'.update D (Obj.mapSeq (·.push (.int (b[i].toNat : Int) s.toks)))).get? D = some (W.listOf (acc.push (.int (b[i].toNat : Int) s.toks)) (c + 1)) := by
      rw [Heap.get?_update_self _ hS' (by rw [mapSeq_push]; rfl), mapSeq_push]
    have hI₂ : KBw.IsBytesIter (h'.update D (Obj.mapSeq (·.push (.int (b[i].toNat : Int) s.toks)))) I b t (i + 1) := by
      obtain ⟨o, ho, r⟩ := hst'
      exact ⟨o, (Heap.get?_update_other _ _ (Ne.symm hID)).trans ho, r⟩
    refine wpAny_pure ⟨plainId_quiet F.plain_extend_loop _, ih (i + 1) _ (acc.push (.int (b[i].toNat : Int) s.toks)) (c + 1) (by omega) hlt hI₂ hD₂ (by rw [Array.size_push]; omega) fun h₃ tk₃ vs c' hk₃ hD₃ hv => ?_⟩
    refine hR h₃ tk₃ (.int (b[i].toNat : Int) s.toks :: vs) c' (fun q o hq hq' e => hk₃ q o hq hq' ?_) ?_ ?_
    · exact (Heap.get?_update_other _ _ (Ne.symm hq)).trans (hsb.extBut q o hq' e)
    · rw [hD₃]; simp [W.listOf]
    · have hd : (KBw.bInts b).drop i = (b[i].toNat : Int) :: (KBw.bInts b).drop (i + 1) := by
        have := KBw.ints_get hb
        rw [List.drop_eq_getElem_cons (by rw [KBw.ints_length]; exact hlt)]
        congr 1
        rw [List.getElem?_eq_getElem (by rw [KBw.ints_length]; exact hlt)] at this
        exact Option.some.inj this
      rw [hd]; exact .cons _ _ hv
theorem call_ext {b : Array UInt8} {t : Tok} {D : Addr} {acc : Array Value} {c : Nat} {g : Obj → List (Addr × Obj)} {Q : Value → Shared → Prop} (F : Fr h₀ L s.heap m) (N : News h₀ L s.heap news) (U : UpdF D (W.listOf acc c) news g) (hh : A.handled = none) (hsz : acc.size + b.size ≤ 16777216)
    (h : ∀ h' tk' (vs : List Value) c', IntsAre vs (KBw.bInts b) → Fr h₀ L h' m → News h₀ L h' (g (W.listOf (acc ++ vs.toArray) c')) → Q .none { s with heap := h', toks := tk' }) :
    wpAny (model prog w) A (call (.builtin "list.extend") [.ref D, .bytes b t]) Q E s := by
  obtain ⟨pre, post, rfl, hg, h1, h2⟩ := U.split
  have z := N (D, W.listOf acc c) (List.mem_append_right _ (.head _))
  refine wpAny_call (codeAny_call_builtin PySem.F.slot_list_extend.plain PySem.F.entry_list_extend (PySem.F.slot_list_extend.check _ _ _ _ _ _ _ _ ⟨_, z.1, rfl⟩ (PySem.F.args_list_extend_2 _ _) ?_))
  show wpAny _ _ (Builtin.List.listExtendWith (.ref D) (.bytes b t) .none) _ _ s
  unfold Builtin.List.listExtendWith
  refine wpAny_bind (wpAny_typeOf (typeIs_bytes s b t) ?_)
  rw [if_neg (show ¬ (Builtin.List.listSameRef (.ref D) (.bytes b t) || Value.type "bytes" == Value.type "list" || Value.type "bytes" == Value.type "tuple") = true from by simp [Builtin.List.listSameRef])]
  refine wpAny_bind (KBw.pyIter_bytes ?_)
  rw [hint_bytes]
  refine wpAny_bind (wpAny_holding (wpAny_pure ?_))
  rw [if_neg (by decide +kernel)]
  have hlt : D < s.heap.objs.size := Heap.lt_size z.1
  refine wpAny_pure ⟨plainId_quiet PySem.F.plain_extend_loop _, ext_loop hh (Nat.ne_of_gt hlt) .none b.size 0 _ acc c (by simp) (Nat.zero_le _) ⟨_, Heap.get?_push_size _ rfl, rfl, rfl⟩ (Heap.get?_push_of_some _ z.1) hsz fun h' tk' vs c' hk hD hv => ?_⟩
  have up : ∀ q o, q ≠ D → s.heap.get? q = some o → h'.get? q = some o := fun q o hq e => hk q o hq (Nat.ne_of_lt (Heap.lt_size e)) (Heap.get?_push_of_some _ e)
  refine h h' tk' vs c' hv ⟨?_, fun q o e => up q o (fun e' => ?_) (F.keep q o e), F.above⟩ ?_
  · exact F.ns.at' fun o e => up L o (Ne.symm z.2.1) e
  · have e'' : h₀.get? D = some o := e' ▸ e
    rw [z.2.2] at e''; cases e''
  · rw [hg]
    intro p hp
    rcases List.mem_append.mp hp with hp | hp
    · have y := N p (List.mem_append_left _ hp); exact ⟨up _ _ (h1 p hp) y.1, y.2⟩
    · rcases List.mem_cons.mp hp with rfl | hp
      · exact ⟨hD, z.2⟩
      · have y := N p (List.mem_append_right _ (List.mem_cons_of_mem _ hp)); exact ⟨up _ _ (h2 p hp) y.1, y.2⟩
end
end Mine
end PartM3
section PartM4
open PySem PySem.W PyProof.Rows PySem.Calls PySem.Builtin
namespace Mine
section
variable {prog : Program} {w : World} {A : Around} {E : Value → Shared → Prop} {s : Shared} {h₀ : Heap} {L : Addr} {m : Str → Option Value} {news : List (Addr × Obj)}
theorem wp_ext {R : Result → Shared → Prop} {b : Array UInt8} {t : Tok} {D : Addr} (hh : A.handled = none) (acc : Array Value) (c : Nat) (hS : s.heap.get? D = some (W.listOf acc c)) (hsz : acc.size + b.size ≤ 16777216)
    (hR : ∀ (h' : Heap) (tk' : Nat) (vs : List Value) (c' : Nat), (∀ q o, q ≠ D → s.heap.get? q = some o → h'.get? q = some o) → h'.get? D = some (W.listOf (acc ++ vs.toArray) c') → IntsAre vs (KBw.bInts b) → R (.ok (.ret .none)) { s with heap := h', toks := tk' }) :
    wpAny (model prog w) A.in1 (Builtin.List.listExtendWith (.ref D) (.bytes b t) .none)
      (fun fin s' => match fin with | .done f => R (.ok f) s' | .again c' => c'.quiet = true ∧ codeAny (model prog w) A c' R s') (fun e s' => R (.error e) s') s := by
  unfold Builtin.List.listExtendWith
  refine wpAny_bind (wpAny_typeOf (typeIs_bytes s b t) ?_)
  rw [if_neg (show ¬ (Builtin.List.listSameRef (.ref D) (.bytes b t) || Value.type "bytes" == Value.type "list" || Value.type "bytes" == Value.type "tuple") = true from by simp [Builtin.List.listSameRef])]
  refine wpAny_bind (KBw.pyIter_bytes ?_)
  rw [hint_bytes]
  refine wpAny_bind (wpAny_holding (wpAny_pure ?_))
  rw [if_neg (by decide +kernel)]
  have hlt : D < s.heap.objs.size := Heap.lt_size hS
  refine wpAny_pure ⟨plainId_quiet PySem.F.plain_extend_loop _, ext_loop hh (Nat.ne_of_gt hlt) .none b.size 0 _ acc c (by simp) (Nat.zero_le _) ⟨_, Heap.get?_push_size _ rfl, rfl, rfl⟩ (Heap.get?_push_of_some _ hS) hsz fun h' tk' vs c' hk hD hv => ?_⟩
  exact hR h' tk' vs c' (fun q o hq e => hk q o hq (Nat.ne_of_lt (Heap.lt_size e)) (Heap.get?_push_of_some _ e)) hD hv
theorem call_list_bytes {b : Array UInt8} {t : Tok} {Q : Value → Shared → Prop} (hh : A.handled = none) (hsz : b.size ≤ 16777216) (F : Fr h₀ L s.heap m) (N : News h₀ L s.heap news)
    (h : ∀ D h' tk' vs c, Fr h₀ L h' m → News h₀ L h' ((D, W.listOf vs c) :: news) → IntsAre vs.toList (KBw.bInts b) → (∀ p ∈ news, p.1 < D) → Q (.ref D) { s with heap := h', toks := tk' }) :
    wpAny (model prog w) A (call (.type "list") [.bytes b t]) Q E s := by
  refine callType_codes (Q₁ := fun obj s₁ => obj = .ref s.heap.objs.size ∧ s₁ = { s with heap := s.heap.push { cls := .type "list", data := .seq #[] } }) PySem.F.called_list (PySem.F.typeCall_list_1 _) PySem.F.entry_list_init
    (code_list_new _ ⟨rfl, rfl⟩) fun obj s₁ h₁ => ?_
  obtain ⟨rfl, rfl⟩ := h₁
  have hS : (s.heap.push { cls := .type "list", data := .seq #[] }).get? s.heap.objs.size = some { cls := .type "list", data := .seq #[] } := Heap.get?_push_size _ rfl
  refine ⟨⟨_, hS, rfl⟩, PySem.F.args_list_init_2 _ _, ?_⟩
  show wpAny _ A.in1.in1 (do let old ← Builtin.List.listItems (.ref s.heap.objs.size); Builtin.List.listUpdate (.ref s.heap.objs.size) (fun _ => #[]); letGo old.toList.reverse; Builtin.List.listExtendWith (.ref s.heap.objs.size) (.bytes b t) .none) _ _ _
  refine wpAny_bind ?_
  unfold Builtin.List.listItems
  refine wpAny_bind (wpAny_seqItems hS rfl (wpAny_pure ?_))
  show wpAny _ A.in1.in1 (updateSeq s.heap.objs.size (fun _ => #[]) >>= fun _ => letGo (#[] : Array Value).toList.reverse >>= fun _ => Builtin.List.listExtendWith (.ref s.heap.objs.size) (.bytes b t) .none) _ _ _
  refine wpAny_bind (wpAny_updateSeq hS rfl ?_)
  have hS₂ : Heap.get? _ _ = some (W.listOf #[] 0) := Heap.get?_update_self (Obj.mapSeq (fun _ => (#[] : Array Value))) hS rfl
  have oth : ∀ b o, b ≠ s.heap.objs.size → (s.heap.push { cls := .type "list", data := .seq #[] }).get? b = some o → ((s.heap.push { cls := .type "list", data := .seq #[] }).update s.heap.objs.size (Obj.mapSeq (fun _ => (#[] : Array Value)))).get? b = some o :=
    fun b o hb e => (Heap.get?_update_other _ _ (Ne.symm hb)).trans e
  refine wpAny_bind (wpAny_letGo ?_)
  refine wp_ext (A := A.in1) hh #[] _ hS₂ (by simpa using hsz) fun h' tk' vs c' hk hD hv => ?_
  have up : ∀ q o, s.heap.get? q = some o → h'.get? q = some o := fun q o e => hk q o (Nat.ne_of_lt (Heap.lt_size e)) (oth q o (Nat.ne_of_lt (Heap.lt_size e)) (Heap.get?_push_of_some _ e))
  refine ⟨rfl, h _ h' tk' vs.toArray c' (F.keeps up) ?_ (by simpa using hv) fun p hp => Heap.lt_size (N p hp).1⟩
  intro p hp
  rcases List.mem_cons.mp hp with rfl | hp
  · exact ⟨by simpa using hD, Ne.symm (Nat.ne_of_lt F.ns.lt), next_is_new F⟩
  · have y := N p hp
    exact ⟨up _ _ y.1, y.2⟩
end
end Mine
end PartM4
section PartM5
open PySem PySem.W PyProof.Rows PySem.Calls PySem.Builtin
namespace Mine
theorem mro_ude : mroOf (.type "UnicodeDecodeError") = pure [.type "UnicodeDecodeError", .type "UnicodeError", .type "ValueError", .type "Exception", .type "BaseException", .type "object"] := by rw [mroOf_type]; kernel_rfl
theorem lookup_ude_new : typeLookup (.type "UnicodeDecodeError") "__new__" = pure (some (.builtin "UnicodeDecodeError.__new__")) := by rw [typeLookup_type, builtinLookup_eq_fast]; kernel_rfl
theorem slot_ude_init : Slot "UnicodeDecodeError" "__init__" "UnicodeDecodeError.__init__" := .of (owner := "UnicodeDecodeError") (n := "__init__") (by rw [typeLookup_type, builtinLookup_eq_fast]; kernel_rfl) (by decide +kernel) (by decide +kernel) (by decide +kernel)
    (by first | exact .inl (by decide +kernel) | exact .inr (by decide +kernel)) (by rw [isSubtype_type]; kernel_rfl)
theorem sub_ude : isSubtype (.type "UnicodeDecodeError") (.type "UnicodeDecodeError") = pure true := by rw [isSubtype_type]; kernel_rfl
theorem called_ude : TypeCalled "UnicodeDecodeError" "UnicodeDecodeError.__new__" "UnicodeDecodeError.__init__" :=
  ⟨by decide +kernel, by decide +kernel, ⟨_, _, mro_ude⟩, madeBy_type mro_ude lookup_ude_new (by decide +kernel), by decide +kernel, sub_ude, slot_ude_init⟩
theorem typeCall_ude (a b c d e : Value) : checkTypeCall "UnicodeDecodeError" ⟨[a, b, c, d, e], []⟩ = pure () := by kernel_rfl
theorem newCall_ude (a b c d e : Value) : checkBuiltinCall "UnicodeDecodeError.__new__" ⟨[.type "UnicodeDecodeError", a, b, c, d, e], []⟩ = pure () := by kernel_rfl
theorem made_ude : Bind.madeHere "BaseException.__new__" (.type "UnicodeDecodeError") = pure () := by kernel_rfl
theorem entry_ude_new : entryFor table "UnicodeDecodeError.__new__" = some Builtin.«BaseException.__new__» := entryFor_alias (id' := "BaseException.__new__") (by rw [fastTable_eq_tree]; kernel_rfl) (by first | rfl | decide +kernel) (by decide +kernel) (by rw [fastTable_eq_tree]; kernel_rfl)
theorem entry_ude_init : entryFor table "UnicodeDecodeError.__init__" = some Builtin.«UnicodeDecodeError.__init__» := entryFor_of_tree (by kernel_rfl)
theorem args_ude_init (o a b c d e : Value) : argsOk "UnicodeDecodeError.__init__" ⟨[o, a, b, c, d, e], []⟩ := by unfold argsOk; kernel_rfl
theorem plain_ude_new : plainId "UnicodeDecodeError.__new__" = true := by decide +kernel
theorem notAttr_ude : isSubtype (.type "UnicodeDecodeError") (.type "AttributeError") = pure false := by rw [isSubtype_type]; kernel_rfl
theorem notName_ude : isSubtype (.type "UnicodeDecodeError") (.type "NameError") = pure false := by rw [isSubtype_type]; kernel_rfl
theorem notEnc_ude : isSubtype (.type "UnicodeDecodeError") (.type "UnicodeEncodeError") = pure false := by rw [isSubtype_type]; kernel_rfl

/-- the error's object: at its birth, and once it is begun -/
def ude0 (tup : Value) : Obj := { cls := .type "UnicodeDecodeError", data := .fields #[tup, .none, .none, .none, .bool false, .none] }
def ude (tup enc obj : Value) (st sp : Int) (rs : Value) : Obj := { cls := .type "UnicodeDecodeError", data := .fields #[tup, .none, .none, .none, .bool false, .none, enc, obj, rawInt st, rawInt sp, rs] }
open UnicodeEncodeError
section
variable {M : Model} {A : Around} {E : Value → Shared → Prop} {s : Shared} {a : Addr} {tup enc obj rs : Value} {st sp : Int}
theorem wp_members0 {Q : Members → Shared → Prop} (ho : s.heap.get? a = some (ude0 tup)) (h : Q {} s) : wpAny M A (members (.ref a)) Q E s := by
  unfold members
  exact wpAny_bind (wpAny_fieldsOf ho rfl (wpAny_pure h))
theorem wp_members {Q : Members → Shared → Prop} (ho : s.heap.get? a = some (ude tup enc obj st sp rs)) (h : Q ⟨enc, obj, st, sp, rs⟩ s) : wpAny M A (members (.ref a)) Q E s := by
  unfold members
  exact wpAny_bind (wpAny_fieldsOf ho rfl (wpAny_pure h))
theorem wp_setMembers0 {m : Members} {Q : Unit → Shared → Prop} (ho : s.heap.get? a = some (ude0 tup)) (h : ∀ h', h'.get? a = some (ude tup m.encoding m.object m.start m.stop m.reason) → (∀ b o, b ≠ a → s.heap.get? b = some o → h'.get? b = some o) → Q () { s with heap := h' }) : wpAny M A (setMembers (.ref a) m) Q E s := by
  unfold setMembers
  refine wpAny_updateFields ho rfl (h _ (Heap.get?_update_self _ ho rfl) fun b o hb e => (Heap.get?_update_other _ _ (Ne.symm hb)).trans e) (by rw [sizeLine_eq]; simp)
theorem wp_setMembers {m : Members} {Q : Unit → Shared → Prop} (ho : s.heap.get? a = some (ude tup enc obj st sp rs)) (h : ∀ h', h'.get? a = some (ude tup m.encoding m.object m.start m.stop m.reason) → (∀ b o, b ≠ a → s.heap.get? b = some o → h'.get? b = some o) → Q () { s with heap := h' }) : wpAny M A (setMembers (.ref a) m) Q E s := by
  unfold setMembers
  refine wpAny_updateFields ho rfl (h _ (Heap.get?_update_self _ ho rfl) fun b o hb e => (Heap.get?_update_other _ _ (Ne.symm hb)).trans e) (by rw [sizeLine_eq]; simp)
end
section
variable {prog : Program} {w : World} {A : Around} {E : Value → Shared → Prop} {s : Shared} {R : Result → Shared → Prop}
theorem ude_new_facts : ExcNewFacts "UnicodeDecodeError" "UnicodeDecodeError.__new__" :=
  ⟨by decide +kernel, by decide +kernel, entry_ude_new, sub_ude, notAttr_ude, notName_ude, made_ude⟩
theorem size_arg {M : Model} {id : String} {i : Nat} {t : Tok} {Q : Int → Shared → Prop} (hi : i ≤ 16777216) (h : Q (i : Int) s) : wpAny M A (sizeArgument id (.int (i : Int) t)) Q E s := by
  unfold sizeArgument
  refine wpAny_bind (wpAny_of_eq (rfl : asIndex (.int (i : Int) t) = pure (i : Int)) ?_)
  rw [if_neg (by simp; omega)]
  exact wpAny_pure h
theorem wp_ude_init {M : Model} {e : Addr} {tup : Value} {enc rs : Str} {b : Array UInt8} {t1 t2 t3 t4 t5 : Tok} {i j : Nat} {Q : Fin → Shared → Prop} (ho : s.heap.get? e = some (ude0 tup)) (hi : i ≤ 16777216) (hj : j ≤ 16777216)
    (h : ∀ h' tup' tk', h'.get? e = some (ude tup' (.str enc t1) (.bytes b t2) i j (.str rs t5)) → (∀ q o, q ≠ e → s.heap.get? q = some o → h'.get? q = some o) → Q (.done (.ret .none)) { s with heap := h', toks := tk' }) :
    wpAny M A (Builtin.«UnicodeDecodeError.__init__» ⟨[.ref e, .str enc t1, .bytes b t2, .int (i : Int) t3, .int (j : Int) t4, .str rs t5], []⟩) Q E s := by
  unfold Builtin.«UnicodeDecodeError.__init__»
  refine wpAny_bind ?_
  unfold beginInit
  refine wpAny_bind (wpAny_field (i := 0) ho rfl rfl ?_)
  refine wpAny_bind (wpAny_newTuple ?_ (by rw [sizeLine_eq]; simp))
  refine wpAny_bind (wpAny_setField (i := 0) (Heap.get?_push_of_some _ ho) rfl (Nat.zero_lt_succ _) ?_)
  have ho1 : ((s.heap.push { cls := .type "tuple", data := .seq [Value.str enc t1, .bytes b t2, .int (i : Int) t3, .int (j : Int) t4, .str rs t5].toArray }).update e (Obj.mapFields (·.setIfInBounds 0 (.ref s.heap.objs.size)))).get? e = some (ude0 (.ref s.heap.objs.size)) := Heap.get?_update_self _ (Heap.get?_push_of_some _ ho) rfl
  have up1 : ∀ q o, q ≠ e → s.heap.get? q = some o → ((s.heap.push { cls := .type "tuple", data := .seq [Value.str enc t1, .bytes b t2, .int (i : Int) t3, .int (j : Int) t4, .str rs t5].toArray }).update e (Obj.mapFields (·.setIfInBounds 0 (.ref s.heap.objs.size)))).get? q = some o := fun q o hq e => (Heap.get?_update_other _ _ (Ne.symm hq)).trans (Heap.get?_push_of_some _ e)
  refine wpAny_bind (wpAny_letGo ?_)
  dsimp only
  refine wpAny_bind (wp_members0 ho1 ?_)
  refine wpAny_bind (wp_setMembers0 ho1 fun h2 ho2 up2 => ?_)
  refine wpAny_bind (wpAny_letGo ?_)
  refine wpAny_bind (wp_members ho2 ?_)
  refine wpAny_bind (wp_setMembers ho2 fun h3 ho3 up3 => ?_)
  refine wpAny_bind (wpAny_letGo ?_)
  refine wpAny_bind (wp_members ho3 ?_)
  refine wpAny_bind (wp_setMembers ho3 fun h4 ho4 up4 => ?_)
  refine wpAny_bind (wpAny_letGo ?_)
  refine wpAny_pure ?_
  dsimp only
  refine wpAny_bind ?_
  unfold strArgument
  refine wpAny_bind (wpAny_of_eq (rfl : asStr? (.str enc t1) = pure (some enc)) ?_)
  refine wpAny_pure ?_
  refine wpAny_bind ?_
  unfold initRange
  refine wpAny_bind (size_arg hi ?_)
  refine wpAny_bind (wp_members ho4 ?_)
  refine wpAny_bind (wp_setMembers ho4 fun h5 ho5 up5 => ?_)
  refine wpAny_bind (size_arg hj ?_)
  refine wpAny_bind (wp_members ho5 ?_)
  refine wp_setMembers ho5 fun h6 ho6 up6 => ?_
  refine wpAny_bind ?_
  refine wpAny_bind (wpAny_of_eq (rfl : asStr? (.str rs t5) = pure (some rs)) ?_)
  refine wpAny_pure ?_
  refine wpAny_bind (wpAny_of_eq (rfl : UnicodeDecodeError.bytesOf? (.bytes b t2) = pure (some b)) ?_)
  refine wpAny_bind (wpAny_pure ?_)
  refine wpAny_bind (wpAny_pure ?_)
  refine wpAny_bind (wp_members ho6 ?_)
  refine wpAny_bind (wp_setMembers ho6 fun h7 ho7 up7 => ?_)
  refine wpAny_pure ?_
  exact h h7 _ s.toks ho7 fun q o hq e => up7 q o hq (up6 q o hq (up5 q o hq (up4 q o hq (up3 q o hq (up2 q o hq (up1 q o hq e))))))

theorem call_ude {enc rs : Str} {b : Array UInt8} {t1 t2 t3 t4 t5 : Tok} {i j : Nat} {Q : Value → Shared → Prop} (hi : i ≤ 16777216) (hj : j ≤ 16777216)
    (h : ∀ e h' tup' tk', s.heap.objs.size ≤ e → h'.get? e = some (ude tup' (.str enc t1) (.bytes b t2) i j (.str rs t5)) → (∀ q o, s.heap.get? q = some o → h'.get? q = some o) → Q (.ref e) { s with heap := h', toks := tk' }) :
    wpAny (model prog w) A (call (.type "UnicodeDecodeError") [.str enc t1, .bytes b t2, .int (i : Int) t3, .int (j : Int) t4, .str rs t5]) Q E s := by
  refine callType_codes (Q₁ := fun obj s₁ => ∃ e h' tup, obj = .ref e ∧ s₁ = { s with heap := h' } ∧ s.heap.objs.size ≤ e ∧ h'.get? e = some (ude0 tup) ∧ (∀ q o, s.heap.get? q = some o → h'.get? q = some o)) called_ude (typeCall_ude _ _ _ _ _) entry_ude_init ?_ fun obj s₁ h₁ => ?_
  · refine codeAny_of_tree ?_
    show wpAny _ A.in1.in1 (do checkBuiltinCall "UnicodeDecodeError.__new__" ⟨[.type "UnicodeDecodeError", .str enc t1, .bytes b t2, .int (i : Int) t3, .int (j : Int) t4, .str rs t5], []⟩; again (.builtin "UnicodeDecodeError.__new__" ⟨[.type "UnicodeDecodeError", .str enc t1, .bytes b t2, .int (i : Int) t3, .int (j : Int) t4, .str rs t5], []⟩)) _ _ s
    refine wpAny_bind (wpAny_of_eq (newCall_ude _ _ _ _ _) (wpAny_pure ⟨plainId_quiet plain_ude_new _, codeAny_exc_new ude_new_facts ?_ (by rw [sizeLine_eq]; simp)⟩))
    exact ⟨_, _, _, rfl, rfl, Nat.le_succ _, Heap.get?_push_at (Heap.size_push _ _).symm rfl, fun q o e => Heap.get?_push_of_some _ (Heap.get?_push_of_some _ e)⟩
  · obtain ⟨e, h', tup, rfl, rfl, hle, ho, hk⟩ := h₁
    refine ⟨⟨_, ho, rfl⟩, args_ude_init _ _ _ _ _ _, wp_ude_init ho hi hj fun h2 tup' tk' ho2 hk2 => ?_⟩
    exact ⟨rfl, h e h2 tup' tk' hle ho2 fun q o e' => hk2 q o (Nat.ne_of_lt (Nat.lt_of_lt_of_le (Heap.lt_size e') hle)) (hk q o e')⟩
end
end Mine
end PartM5
section PartM6
open PySem PySem.W PyProof.Rows PySem.Calls PySem.Builtin
namespace Mine
open UnicodeEncodeError
def HV : Value := .builtin "_codecs.lookup_error.replace_errors"
theorem kind_rep : builtinKind "_codecs.lookup_error.replace_errors" = none := by decide +kernel
theorem plain_rep : plainId "_codecs.lookup_error.replace_errors" = true := by decide +kernel
theorem entry_rep : entryFor table "_codecs.lookup_error.replace_errors" = some Builtin.«_codecs.lookup_error.replace_errors» := entryFor_of_tree (by kernel_rfl)
theorem args_rep (e : Value) : argsOk "_codecs.lookup_error.replace_errors" ⟨[e], []⟩ := by unfold argsOk; kernel_rfl
theorem notTr_ude : isSubtype (.type "UnicodeDecodeError") (.type "UnicodeTranslateError") = pure false := by rw [isSubtype_type]; kernel_rfl
section
variable {prog : Program} {w : World} {A : Around} {E : Value → Shared → Prop} {s : Shared}
theorem meets_rep (e : Addr) : Meets («_codecs.lookup_error.replace_errors» ⟨[.ref e], []⟩) (fun _ R s => ∃ tup enc b t i j rs, s.heap.get? e = some (ude tup enc (.bytes b t) i (j : Nat) rs) ∧ 1 ≤ j ∧ j ≤ b.size ∧
    ∀ h' tk' T t1 t2, h'.get? T = some { cls := .type "tuple", data := .seq #[.str ⟨#[0xFFFD]⟩ t1, .int (j : Int) t2] } → (∀ q o, s.heap.get? q = some o → h'.get? q = some o) → R (.ok (.ret (.ref T))) { s with heap := h', toks := tk' }) := by
  refine .of_wp fun prog w A R s hS => ?_
  obtain ⟨tup, enc, b, t, i, j, rs, ho, h1, h2, h⟩ := hS
  have hT : s.TypeIs (.ref e) "UnicodeDecodeError" := ⟨_, ho, rfl⟩
  unfold Builtin.«_codecs.lookup_error.replace_errors»
  refine wpAny_bind (wpAny_of_eq (rfl : oneArg "replace_errors" ⟨[.ref e], []⟩ = pure (.ref e)) ?_)
  refine wpAny_bind ?_
  unfold _codecs.seen
  refine wpAny_bind (wpAny_isInstance hT notEnc_ude ?_)
  refine wpAny_bind (wpAny_isInstance hT sub_ude ?_)
  refine wpAny_bind (wpAny_isInstance hT notTr_ude ?_)
  dsimp only
  rw [if_neg (by decide), if_pos rfl]
  refine wpAny_bind (wpAny_pure ?_)
  rw [if_neg (by decide)]
  refine wpAny_bind (wp_members ho ?_)
  rw [if_neg (by simp [isUnset])]
  refine wpAny_bind (wpAny_pure ?_)
  have hne : (b.map (·.toNat)).isEmpty = false := by simp; intro e; subst e; simp at h2; omega
  rw [if_neg (by rw [hne]; simp)]
  refine wpAny_pure ?_
  dsimp only
  rw [if_pos (by decide)]
  unfold _codecs.answer
  have hj : min (max (j : Int) 1) ((b.map (·.toNat)).size : Int) = (j : Int) := by simp; omega
  rw [hj]
  refine wpAny_bind (wpAny_mkStr ?_ (by rw [sizeLine_eq]; decide))
  refine wpAny_bind (wpAny_mkInt ?_)
  refine wpAny_bind (wpAny_newTuple ?_ (by rw [sizeLine_eq]; simp))
  refine wpAny_pure ?_
  refine ⟨_, rfl, h _ _ s.heap.objs.size _ _ (Heap.get?_push_size _ rfl) fun q o e => Heap.get?_push_of_some _ e⟩
end
end Mine
end PartM6
section PartM7
open PySem PySem.W PyProof.Rows PySem.Calls PySem.Builtin
namespace Mine
open UnicodeEncodeError
/-- where the decoder's error stands -/
def FS (base h : Heap) (b : Array UInt8) (st : _codecs.Faults) : Prop :=
  st = {} ∨ ∃ e tup enc t i j rs, st = { handler := some HV, exc := some (.ref e) } ∧ h.get? e = some (ude tup enc (.bytes b t) i j rs) ∧ base.get? e = none
theorem sub_tuple : isSubtype (.type "tuple") (.type "tuple") = pure true := by rw [isSubtype_type]; kernel_rfl
section
variable {prog : Program} {w : World} {A : Around} {E : Value → Shared → Prop} {s : Shared} {base : Heap} {b : Array UInt8} {st : _codecs.Faults}
theorem wp_fault {id : String} {start stop : Nat} {reason : String} {Q : _codecs.Faults × Array Nat × Nat → Shared → Prop} (hst : FS base s.heap b st) (keep : ∀ q o, base.get? q = some o → s.heap.get? q = some o) (h1 : start < stop) (h2 : stop ≤ b.size) (h3 : b.size ≤ 16777216) (hr : (Str.ofString reason).length ≤ 1000)
    (h : ∀ st' h' tk', FS base h' b st' → (∀ q o, base.get? q = some o → h'.get? q = some o) → Q (st', #[0xFFFD], stop) { s with heap := h', toks := tk' }) :
    wpAny (model prog w) A (_codecs.decodeFault id st (some (Str.ofString "replace")) _codecs.utf8Decoder.own _codecs.utf8Decoder.name b start stop reason) Q E s := by
  rcases hst with rfl | ⟨e, tup, enc, t, i, j, rs, rfl, ho, hb⟩
  · unfold _codecs.decodeFault
    refine wpAny_bind (wpAny_of_eq (a := HV) (by kernel_rfl) ?_)
    refine wpAny_bind (wpAny_holding ?_)
    show wpAny _ _ (mkStr (Str.ofString "utf-8") >>= _) _ _ _
    refine wpAny_bind (wpAny_mkStr ?_ (by rw [sizeLine_eq]; decide))
    refine wpAny_bind (wpAny_mkBytes ?_ (by rw [sizeLine_eq]; exact h3))
    refine wpAny_bind (wpAny_mkInt ?_)
    refine wpAny_bind (wpAny_mkInt ?_)
    refine wpAny_bind (wpAny_mkStr ?_ (by rw [sizeLine_eq]; omega))
    refine call_ude (by omega) (by omega) fun e h' tup' tk' hle ho hk => ?_
    refine wpAny_bind ?_
    show wpAny _ _ (members (.ref e) >>= _) _ _ _
    refine wpAny_bind (wp_members ho ?_)
    refine wpAny_bind (wpAny_holding ?_)
    refine call_function_meets kind_rep plain_rep entry_rep (args_rep _) (meets_rep e) ⟨_, _, _, _, _, stop, _, ho, by omega, h2, fun h2' tk2 T t1 t2 hT hk2 => ?_⟩
    refine wpAny_bind (wp_members (hk2 _ _ ho) ?_)
    refine wpAny_ite_false (decide_eq_false (show ¬ (!((_ : Tok) == (_ : Tok) && b == b)) = true from by simp)) ?_
    refine wpAny_pure ?_
    refine wpAny_holding ?_
    refine wpAny_bind ?_
    refine wpAny_bind (wpAny_isInstance (T := "tuple") (show Shared.TypeIs _ (.ref T) _ from ⟨_, hT, rfl⟩) sub_tuple ?_)
    refine wpAny_ite_false rfl ?_
    refine wpAny_bind (wpAny_seqItems hT rfl ?_)
    refine wpAny_pure ?_
    dsimp only
    refine wpAny_bind (wpAny_of_eq (rfl : asStr? (.str ⟨#[0xFFFD]⟩ t1) = pure (some ⟨#[0xFFFD]⟩)) ?_)
    dsimp only
    refine wpAny_bind ?_
    refine wpAny_bind (wpAny_of_eq (rfl : asIndex (.int (stop : Int) t2) = pure (stop : Int)) ?_)
    refine wpAny_ite_false (by simp; omega) ?_
    refine wpAny_pure ?_
    refine wpAny_bind ?_
    have e1 : (if (stop : Int) < 0 then (stop : Int) + b.size else stop) = (stop : Int) := if_neg (by omega)
    refine wpAny_ite_false (by rw [e1]; simp; omega) ?_
    refine wpAny_ite_false (by rw [e1]; simp; omega) ?_
    refine wpAny_pure ?_
    rw [e1]
    refine wpAny_pure ?_
    have := h { handler := some HV, exc := some (.ref e) } h2' tk2 (.inr ⟨_, _, _, _, _, _, _, rfl, hk2 _ _ ho, ?_⟩) fun q o e => hk2 q o (hk q o (keep q o e))
    · rw [Int.toNat_natCast]; exact this
    · cases hq : base.get? e with
      | none => rfl
      | some o => exact absurd (Heap.lt_size (keep e o hq)) (Nat.not_lt.mpr hle)
  · unfold _codecs.decodeFault
    refine wpAny_bind (wpAny_of_eq (a := HV) rfl ?_)
    refine wpAny_bind (wpAny_holding ?_)
    show wpAny _ _ (members (.ref e) >>= _) _ _ _
    refine wpAny_bind (wp_members ho ?_)
    refine wpAny_bind (wpAny_mkStr ?_ (by rw [sizeLine_eq]; omega))
    refine wpAny_bind (wp_setMembers ho fun h' ho hk => ?_)
    refine wpAny_pure ?_
    refine wpAny_bind ?_
    show wpAny _ _ (members (.ref e) >>= _) _ _ _
    refine wpAny_bind (wp_members ho ?_)
    refine wpAny_bind (wpAny_holding ?_)
    refine call_function_meets kind_rep plain_rep entry_rep (args_rep _) (meets_rep e) ⟨_, _, _, _, _, stop, _, ho, by omega, h2, fun h2' tk2 T t1 t2 hT hk2 => ?_⟩
    refine wpAny_bind (wp_members (hk2 _ _ ho) ?_)
    refine wpAny_ite_false (decide_eq_false (show ¬ (!((_ : Tok) == (_ : Tok) && b == b)) = true from by simp)) ?_
    refine wpAny_pure ?_
    refine wpAny_holding ?_
    refine wpAny_bind ?_
    refine wpAny_bind (wpAny_isInstance (T := "tuple") (show Shared.TypeIs _ (.ref T) _ from ⟨_, hT, rfl⟩) sub_tuple ?_)
    refine wpAny_ite_false rfl ?_
    refine wpAny_bind (wpAny_seqItems hT rfl ?_)
    refine wpAny_pure ?_
    dsimp only
    refine wpAny_bind (wpAny_of_eq (rfl : asStr? (.str ⟨#[0xFFFD]⟩ t1) = pure (some ⟨#[0xFFFD]⟩)) ?_)
    dsimp only
    refine wpAny_bind ?_
    refine wpAny_bind (wpAny_of_eq (rfl : asIndex (.int (stop : Int) t2) = pure (stop : Int)) ?_)
    refine wpAny_ite_false (by simp; omega) ?_
    refine wpAny_pure ?_
    refine wpAny_bind ?_
    have e1 : (if (stop : Int) < 0 then (stop : Int) + b.size else stop) = (stop : Int) := if_neg (by omega)
    refine wpAny_ite_false (by rw [e1]; simp; omega) ?_
    refine wpAny_ite_false (by rw [e1]; simp; omega) ?_
    refine wpAny_pure ?_
    rw [e1]
    refine wpAny_pure ?_
    have := h { handler := some HV, exc := some (.ref e) } h2' tk2 (.inr ⟨_, _, _, _, _, _, _, rfl, hk2 _ _ ho, hb⟩) fun q o e' => hk2 q o (hk q o (fun e2 => by rw [e2, hb] at e'; cases e') (keep q o e'))
    rw [Int.toNat_natCast]; exact this
end
end Mine
end PartM7
section PartM8
open PySem PySem.W PyProof.Rows PySem.Calls PySem.Builtin
namespace Mine
def GoodE (b : Array UInt8) (p : Nat) : Except (Nat × String) Nat → Prop
  | .ok _ => True
  | .error (stop, reason) => p < stop ∧ stop ≤ b.size ∧ (Str.ofString reason).length ≤ 1000
theorem good_fold {b : Array UInt8} {p : Nat} (hp : p < b.size) (f : Except (Nat × String) Nat → Nat → Except (Nat × String) Nat) (hf : ∀ a k, 1 ≤ k → GoodE b p a → GoodE b p (f a k)) :
    ∀ (ks : List Nat) (a : Except (Nat × String) Nat), (∀ k ∈ ks, 1 ≤ k) → GoodE b p a → GoodE b p (ks.foldl f a)
  | [], _, _, h => h
  | k :: ks, a, hk, h => good_fold hp f hf ks _ (fun k hk' => hk k (List.mem_cons_of_mem _ hk')) (hf a k (hk k List.mem_cons_self) h)
theorem good_fold' {b : Array UInt8} {p : Nat} (hp : p < b.size) {f : Except (Nat × String) Nat → Nat → Except (Nat × String) Nat} {ks : List Nat} {a r : Except (Nat × String) Nat} (he : ks.foldl f a = r) (hf : ∀ a k, 1 ≤ k → GoodE b p a → GoodE b p (f a k)) (hk : ∀ k ∈ ks, 1 ≤ k) (ha : GoodE b p a) : GoodE b p r :=
  he ▸ good_fold hp f hf ks a hk ha
theorem utf8At_bad {b : Array UInt8} {p x stop n : Nat} {reason : String} (hp : p < b.size) (h : Bytes.utf8At b p = (.bad x stop reason, n)) : p < stop ∧ stop ≤ b.size ∧ (Str.ofString reason).length ≤ 1000 := by
  unfold Bytes.utf8At at h
  generalize (b.getD p 0).toNat = c at h
  dsimp only at h
  split at h
  · cases h
  · split at h
    · cases h
      exact ⟨by omega, by omega, by decide +kernel⟩
    · rename_i more lo hi _
      split at h
      · cases h
      · rename_i stop' reason' he
        cases h
        refine good_fold' hp he ?_ (by simp) trivial
        intro a k hk ha
        cases a with
        | error e => exact ha
        | ok v =>
          dsimp only [Except.bind]
          split
          · exact ⟨hp, Nat.le_refl _, by decide +kernel⟩
          · rename_i y hy
            have := (Array.getElem?_eq_some_iff.mp hy).1
            (repeat' split) <;> first | trivial | exact ⟨by omega, by omega, by decide +kernel⟩
section
variable {prog : Program} {w : World} {A : Around} {E : Value → Shared → Prop} {s : Shared} {base : Heap} {b : Array UInt8}
theorem wp_run {id : String} {Q : Array Nat × Nat → Shared → Prop} (h3 : b.size ≤ 16777216)
    (h : ∀ p h' tk', (∀ q o, s.heap.get? q = some o → h'.get? q = some o) → Q ((decFrom b b.size 0).toArray, p) { s with heap := h', toks := tk' }) :
    wpAny (model prog w) A (_codecs.runDecoder id _codecs.utf8Decoder (some (Str.ofString "replace")) true b 0 []) Q E s := by
  generalize hW : decFrom b b.size 0 = W at h
  unfold _codecs.runDecoder
  simp only [Std.Legacy.Range.forIn_eq_forIn_range']
  simp only [Std.Legacy.Range.size, Nat.sub_zero, Nat.add_sub_cancel, Nat.div_one]
  refine wpAny_bind (wpAny_forIn_list _ (fun rest x s' => ∃ h' tk', s' = { s with heap := h', toks := tk' } ∧ x.2.1.toList ++ decFrom b rest.length x.1 = W ∧ x.2.1.size + rest.length ≤ b.size ∧ FS s.heap h' b x.2.2 ∧ (∀ q o, s.heap.get? q = some o → h'.get? q = some o)) _ ?_ ?_ _ _ ⟨s.heap, s.toks, rfl, by simpa using hW, by simp, .inl rfl, fun _ _ e => e⟩)
  · rintro x rest ⟨p, out, st⟩ s' ⟨h', tk', rfl, hd, hsz, hst, hk⟩
    dsimp only at *
    rw [if_neg (by rw [sizeLine_eq]; simp at hsz; omega)]
    by_cases hp : p ≥ b.size
    · rw [if_pos hp]
      refine wpAny_pure (wpAny_pure ?_)
      have : decFrom b (x :: rest).length p = [] := by rw [List.length_cons]; unfold decFrom; rw [if_pos hp]
      rw [this, List.append_nil] at hd
      rw [← Array.toArray_toList (xs := out), hd]
      exact h _ _ _ hk
    · rw [if_neg hp]
      rw [List.length_cons] at hd
      unfold decFrom at hd
      rw [if_neg hp] at hd
      have hfind : _codecs.utf8Decoder.find true b p = (match Bytes.utf8At b p with
        | (.char c, nx) => .text [c] nx
        | (.bad _ stop reason, _) => .bad stop reason (reason == "unexpected end of data" || (b.getD p 0 == 0xED && p + 2 == b.size && 0xA0 ≤ b.getD (p + 1) 0 && b.getD (p + 1) 0 ≤ 0xBF))) := rfl
      rw [hfind]
      rcases hu : Bytes.utf8At b p with ⟨pc, nx⟩
      rw [hu] at hd
      cases pc with
      | char c =>
        refine wpAny_pure ⟨h', tk', rfl, ?_, ?_, hst, hk⟩
        · dsimp only at *; simpa using hd
        · simp at *; omega
      | bad y stop reason =>
        have hb := utf8At_bad (by omega) hu
        dsimp only at *
        refine wpAny_ite_false (by simp) ?_
        refine wpAny_bind (wpAny_rule ?_)
        refine wpAny_bind (wp_fault hst hk hb.1 hb.2.1 h3 hb.2.2 fun st' h2 tk2 hst2 hk2 => ?_)
        refine wpAny_pure ⟨h2, tk2, rfl, ?_, ?_, hst2, hk2⟩
        · dsimp only at *; simpa using hd
        · simp at *; omega
  · rintro ⟨p, out, st⟩ s' ⟨h', tk', rfl, hd, hsz, hst, hk⟩
    refine wpAny_pure ?_
    simp [decFrom] at hd
    dsimp only
    rw [← Array.toArray_toList (xs := out), hd]
    exact h _ _ _ hk
end
end Mine
end PartM8
section PartM9
open PySem PySem.W PyProof.Rows PySem.Calls PySem.Builtin
namespace Mine
theorem args_bytes_decode_3 (a b c : Value) : argsOk "bytes.decode" ⟨[a, b, c], []⟩ := by unfold argsOk; kernel_rfl
section
variable {b : Array UInt8} {c : UInt8} {cs : List UInt8} {t t1 t2 t3 : Tok} {d : Str}
theorem road_eq3 {id : String} : _codecs.decodeRoad id b (PySem.Str.ofString "utf-8") (some (Str.ofString "replace")) [] = (_codecs.runDecoder id _codecs.utf8Decoder (some (Str.ofString "replace")) true b 0 [] >>= fun r => mkStr ⟨r.1⟩) := by kernel_rfl
theorem meets_text3 (hb : b.size ≤ 16777216) :
    Meets («_codecs.decode.text» ⟨[.bytes b t, .str (PySem.Str.ofString "utf-8") t1, .str (Str.ofString "replace") t2, .str d t3], []⟩) (fun _ R s => (decFrom b b.size 0).length ≤ sizeLine ∧ ∀ h' tk' t, (∀ q o, s.heap.get? q = some o → h'.get? q = some o) → R (.ok (.ret (.str (S (decFrom b b.size 0)) t))) { s with heap := h', toks := tk' }) := by
  refine .of_wp fun prog w A R s hS => ?_
  obtain ⟨hsz, h⟩ := hS
  show wpAny _ _ (Bytes.bytesLike _ (.bytes b t) >>= fun r => _) _ _ s
  refine wpAny_bind (wpAny_of_eq KBd.like_eq ?_)
  refine wpAny_bind (wpAny_of_eq KBd.held_eq ?_)
  show wpAny _ _ (_codecs.decodeRoad _ b (PySem.Str.ofString "utf-8") (some (Str.ofString "replace")) [] >>= fun v => _) _ _ s
  rw [road_eq3]
  refine wpAny_bind (wpAny_bind (wp_run hb fun p h' tk' hk => ?_))
  exact wpAny_mkStr (wpAny_pure ⟨_, rfl, h _ _ _ hk⟩) (by rw [lenS]; exact hsz)
theorem decode3_eq : «bytes.decode» ⟨[.bytes (c :: cs).toArray t, .str (Str.ofString "utf-8") t1, .str (Str.ofString "replace") t2], []⟩ = (mkStr (PySem.Str.ofString "utf-8") >>= fun _ => mkStr (PySem.Str.ofString "utf-8") >>= fun e => mkStr (PySem.Str.ofString "replace") >>= fun r => mkStr (PySem.Str.ofString "bytes.decode") >>= fun d =>
    call (.builtin "_codecs.decode.text") [.bytes (c :: cs).toArray t, e, r, d] >>= fun v => ret v) := by kernel_rfl
theorem decode0_eq : «bytes.decode» ⟨[.bytes #[] t, .str (Str.ofString "utf-8") t1, .str (Str.ofString "replace") t2], []⟩ = (rule "bytes.decode.empty" >>= fun _ => retStr Str.empty) := by kernel_rfl
theorem meets_decode3 (l : List UInt8) (hl : l.length ≤ 16777216) (hd : (decS l).length ≤ 16777216) :
    Meets («bytes.decode» ⟨[.bytes l.toArray t, .str (Str.ofString "utf-8") t1, .str (Str.ofString "replace") t2], []⟩) (fun _ R s => ∀ h' tk' t, (∀ q o, s.heap.get? q = some o → h'.get? q = some o) → R (.ok (.ret (.str (S (decS l)) t))) { s with heap := h', toks := tk' }) := by
  cases l with
  | nil =>
    refine .of_wp fun prog w A R s h => ?_
    rw [show («bytes.decode» ⟨[.bytes ([] : List UInt8).toArray t, .str (Str.ofString "utf-8") t1, .str (Str.ofString "replace") t2], []⟩) = _ from decode0_eq]
    refine wpAny_bind (wpAny_rule ?_)
    refine wpAny_bind (wpAny_mkStr (wpAny_pure ⟨_, rfl, h _ _ _ fun _ _ e => e⟩) (by decide))
  | cons c cs =>
    refine .of_wp fun prog w A R s h => ?_
    rw [decode3_eq]
    refine wpAny_bind (wpAny_mkStr ?_ (by decide))
    refine wpAny_bind (wpAny_mkStr ?_ (by decide))
    refine wpAny_bind (wpAny_mkStr ?_ (by decide))
    refine wpAny_bind (wpAny_mkStr ?_ (by decide))
    have e : decFrom (c :: cs).toArray (c :: cs).toArray.size 0 = decS (c :: cs) := rfl
    refine wpAny_bind (call_function_meets KBd.kind_text KBd.plain_text KBd.entry_text (KBd.args_text _ _ _ _) (meets_text3 (by simpa using hl)) ⟨by rw [e, sizeLine_eq]; exact hd, fun h' tk' t hk => wpAny_pure ⟨_, rfl, ?_⟩⟩)
    rw [e]; exact h _ _ _ hk
end
section
variable {prog : Program} {w : World} {A : Around} {E : Value → Shared → Prop} {s : Shared} {h₀ : Heap} {L : Addr} {m : Str → Option Value} {news : List (Addr × Obj)} {t t1 t2 : Tok}
theorem call_decode {l : List UInt8} {Q : Value → Shared → Prop} (hl : l.length ≤ 16777216) (hd : (decS l).length ≤ 16777216) (F : Fr h₀ L s.heap m) (N : News h₀ L s.heap news)
    (h : ∀ h' tk' t, Fr h₀ L h' m → News h₀ L h' news → Q (.str (S (decS l)) t) { s with heap := h', toks := tk' }) :
    wpAny (model prog w) A (call (.builtin "bytes.decode") [.bytes l.toArray t, .str (Str.ofString "utf-8") t1, .str (Str.ofString "replace") t2]) Q E s :=
  call_meets FB.slot_bytes_decode (typeIs_bytes _ _ _) FB.entry_bytes_decode (args_bytes_decode_3 _ _ _) (meets_decode3 l hl hd) fun h' tk' t hk => h h' tk' t (F.keeps hk) (N.grown hk)
end
theorem decFrom_len (b : Array UInt8) : ∀ n p, (decFrom b n p).length ≤ n
  | 0, _ => by simp [decFrom]
  | n + 1, p => by
    unfold decFrom
    split
    · simp
    · have ih := decFrom_len b n
      split
      · rename_i q _; have := ih q; simp; omega
      · rename_i q _ _ _; have := ih q; simp; omega
theorem decS_len (l : List UInt8) : (decS l).length ≤ l.length := decFrom_len _ _ _
end Mine
end PartM9
section PartP2
open PySem PySem.W PyProof.Rows PySem.Calls PySem.Builtin
namespace Mine
theorem item_at {l : List Nat} {p c : Nat} (h : l[p]? = some c) : Txt.item (S l) (p : Int) = S [c] := by
  unfold Txt.item Txt.charAt
  rw [StrLaws.at_nonneg (x := S l) (i := (p : Int)) (n := c) (by omega) (by simpa using h)]
  rfl
theorem slice_nat (l : List Nat) {a b : Nat} (hab : a ≤ b) : Txt.slice (S l) (some (a : Int)) (some (b : Int)) = S ((l.drop a).take (b - a)) := by
  have e : Txt.slice (S l) (some (a : Int)) (some (b : Int)) = StrLaws.sliceText (S l) (some ((min a l.length : Nat) : Int)) (some ((min b l.length : Nat) : Int)) := by
    show StrLaws.sliceText (S l) (some (a : Int)) (some (b : Int)) = _
    unfold StrLaws.sliceText
    have : Builtin.Str.strSliceIndices (some (a : Int)) (some (b : Int)) 1 (S l).length = Builtin.Str.strSliceIndices (some ((min a l.length : Nat) : Int)) (some ((min b l.length : Nat) : Int)) 1 (S l).length := by
      have e1 : (S l).length = l.length := by simp [Str.length]
      rw [e1]
      unfold Builtin.Str.strSliceIndices
      have q1 : ¬ ((a : Int) < 0) := by omega
      have q2 : ¬ ((b : Int) < 0) := by omega
      have q3 : ¬ (((min a l.length : Nat) : Int) < 0) := by omega
      have q4 : ¬ (((min b l.length : Nat) : Int) < 0) := by omega
      simp only [q1, q2, q3, q4, if_false]
      have r1 : min (a : Int) (l.length : Int) = min ((min a l.length : Nat) : Int) (l.length : Int) := by omega
      have r2 : min (b : Int) (l.length : Int) = min ((min b l.length : Nat) : Int) (l.length : Int) := by omega
      simp only [show ((1 : Int) > 0) = True from by simp, if_true]
      rw [r1, r2]
    rw [this]
  rw [e, StrLaws.sliceText_nat (S l) (by omega) (by rw [lenS]; omega)]
  congr 1
  show (((l.toArray.toList.drop (min a l.length)).take (min b l.length - min a l.length)).toArray) = _
  congr 1
  simp only [List.toList_toArray]
  apply List.ext_getElem?
  intro i
  simp only [List.getElem?_take, List.getElem?_drop]
  by_cases h1 : a ≤ l.length
  · rw [Nat.min_eq_left h1]
    by_cases h2 : i < b - a
    · rw [if_pos h2]
      by_cases h3 : i < min b l.length - a
      · rw [if_pos h3]
      · rw [if_neg h3, List.getElem?_eq_none (by omega)]
    · rw [if_neg h2, if_neg (by omega)]
  · rw [if_neg (by omega)]
    split
    · rw [List.getElem?_eq_none (by omega)]
    · rfl
def hexList : List Nat := [48, 49, 50, 51, 52, 53, 54, 55, 56, 57, 97, 98, 99, 100, 101, 102, 65, 66, 67, 68, 69, 70]
theorem hex_mem (c : Nat) : hexList.contains c = hexd c := by
  by_cases h : c < 128
  · revert h; revert c; decide +kernel
  · have : hexd c = false := by simp [hexd, digd]; omega
    rw [this]
    simp [hexList]; omega
theorem hex_occ {x : Str} {c : Nat} {b : Bool} (hx : x = S [c]) (h : (Builtin.Str.occurrences (Str.ofString "0123456789abcdefABCDEF") x 0 (Str.ofString "0123456789abcdefABCDEF").length 1).isEmpty = b) : hexd c = !b := by
  subst hx
  have := occ_one h
  rw [← hex_mem]; exact this
theorem pct_eq {x : Str} {c : Nat} {b : Bool} (hx : x = S [c]) (h : (x == Str.ofString "%") = b) : (c == 37) = b := by
  subst hx
  rw [show Str.ofString "%" = ⟨#[37]⟩ from by decide +kernel] at h
  rw [← h]
  exact (str_eq1 c 37).symm
theorem drop_cons {l : List Nat} {p : Nat} (h : p < l.length) : ∃ c, l[p]? = some c ∧ l.drop p = c :: l.drop (p + 1) :=
  ⟨l[p], by simp [h], List.drop_eq_getElem_cons h⟩
theorem pair_slice (l : List Nat) (p : Nat) : Txt.slice (S l) (some ((p : Int) + 1)) (some ((p : Int) + 3)) = S ((l.drop (p + 1)).take 2) := by
  have := slice_nat l (a := p + 1) (b := p + 3) (by omega)
  rw [show ((p + 1 : Nat) : Int) = (p : Int) + 1 from by omega, show ((p + 3 : Nat) : Int) = (p : Int) + 3 from by omega] at this
  rw [this]
  congr 4; omega
theorem take_two {r : List Nat} (h : (S (r.take 2)).length = 2) : ∃ a b r', r = a :: b :: r' := by
  rw [lenS] at h
  match r, h with
  | [], h => simp at h
  | [a], h => simp at h
  | a :: b :: r', _ => exact ⟨a, b, r', rfl⟩
theorem octL_one {c : Nat} {r : List Nat} (h : ∀ a b r', r = a :: b :: r' → (c == 37 && hexd a && hexd b) = false) : octL (c :: r) = Str.utf8Of c ++ octL r := by
  match r, h with
  | [], _ => rfl
  | [a], _ => rfl
  | a :: b :: r', h =>
    have := h a b r' rfl
    rw [octL]
    simp only [this, Bool.false_eq_true, if_false]
theorem octL_pct {a b : Nat} {r : List Nat} (ha : hexd a = true) (hb : hexd b = true) : octL (37 :: a :: b :: r) = (natOf 16 [a, b]).toUInt8 :: octL r := by
  rw [octL]
  simp [ha, hb]
theorem item0 (a : Nat) (r : List Nat) : Txt.item (S (a :: r)) 0 = S [a] := item_at (l := a :: r) (p := 0) rfl
theorem item1 (a b : Nat) (r : List Nat) : Txt.item (S (a :: b :: r)) 1 = S [b] := item_at (l := a :: b :: r) (p := 1) rfl
theorem cond0 {r : List Nat} {c : Nat} {x : Str} (hx : x = S (r.take 2)) (h : (Builtin.Str.occurrences (Str.ofString "0123456789abcdefABCDEF") (Txt.item x 0) 0 (Str.ofString "0123456789abcdefABCDEF").length 1).isEmpty = true) :
    ∀ a b r', r = a :: b :: r' → (c == 37 && hexd a && hexd b) = false := by
  rintro a b r' rfl
  subst hx
  rw [hex_occ (item0 a _) h]; simp
theorem cond1 {r : List Nat} {c : Nat} {x : Str} (hx : x = S (r.take 2)) (h : (Builtin.Str.occurrences (Str.ofString "0123456789abcdefABCDEF") (Txt.item x 1) 0 (Str.ofString "0123456789abcdefABCDEF").length 1).isEmpty = true) :
    ∀ a b r', r = a :: b :: r' → (c == 37 && hexd a && hexd b) = false := by
  rintro a b r' rfl
  subst hx
  rw [hex_occ (item1 a b _) h]; simp
theorem cond2 {r : List Nat} {c : Nat} {x : Str} (hx : x = S (r.take 2)) (h : (x.length : Int) ≠ 2) : ∀ a b r', r = a :: b :: r' → (c == 37 && hexd a && hexd b) = false := by
  rintro a b r' rfl
  subst hx
  exact absurd rfl h
theorem cond3 {r : List Nat} {c : Nat} (h : (c == 37) = false) : ∀ a b r', r = a :: b :: r' → (c == 37 && hexd a && hexd b) = false := by
  rintro a b r' -; rw [h]; rfl
theorem pair_ok {r : List Nat} {x : Str} (hx : x = S (r.take 2)) (h2 : (x.length : Int) = 2) (ha : (Builtin.Str.occurrences (Str.ofString "0123456789abcdefABCDEF") (Txt.item x 0) 0 (Str.ofString "0123456789abcdefABCDEF").length 1).isEmpty = false)
    (hb : (Builtin.Str.occurrences (Str.ofString "0123456789abcdefABCDEF") (Txt.item x 1) 0 (Str.ofString "0123456789abcdefABCDEF").length 1).isEmpty = false) :
    ∃ a b r', x = S [a, b] ∧ r = a :: b :: r' ∧ [a, b] ≠ [] ∧ (∀ c ∈ [a, b], hexd c = true) ∧ [a, b].length ≤ 640 := by
  obtain ⟨a, b, r', rfl⟩ := take_two (r := r) (by rw [← hx]; omega)
  subst hx
  have h1 := hex_occ (item0 a _) ha
  have h2 := hex_occ (item1 a b _) hb
  exact ⟨a, b, r', rfl, rfl, by simp, by simp [h1, h2], by simp⟩
theorem turn_one {l : List Nat} {p c : Nat} {o : List UInt8} (hc : l[p]? = some c) (h : ∀ a b r', l.drop (p + 1) = a :: b :: r' → (c == 37 && hexd a && hexd b) = false) (ho : o ++ octL (l.drop p) = octL l) : (o ++ Str.utf8Of c) ++ octL (l.drop (p + 1)) = octL l := by
  obtain ⟨h1, h2⟩ := List.getElem?_eq_some_iff.mp hc
  rw [List.drop_eq_getElem_cons h1, h2, octL_one h] at ho
  rw [List.append_assoc]; exact ho
theorem turn_pct {l : List Nat} {p a b c : Nat} {r' : List Nat} {o : List UInt8} (hc : l[p]? = some c) (h37 : (c == 37) = true) (hr : l.drop (p + 1) = a :: b :: r') (hx : ∀ c ∈ [a, b], hexd c = true) (ho : o ++ octL (l.drop p) = octL l) : (o ++ [(natOf 16 [a, b]).toUInt8]) ++ octL (l.drop (p + 3)) = octL l ∧ p + 3 ≤ l.length := by
  obtain ⟨h1, h2⟩ := List.getElem?_eq_some_iff.mp hc
  obtain rfl : c = 37 := by simpa using h37
  rw [List.drop_eq_getElem_cons h1, h2, hr, octL_pct (hx a (by simp)) (hx b (by simp))] at ho
  have h3 : l.drop (p + 3) = r' := by
    have : l.drop (p + 3) = (l.drop (p + 1)).drop 2 := by rw [List.drop_drop]
    rw [this, hr]; rfl
  rw [List.append_assoc, h3]
  refine ⟨ho, ?_⟩
  have := congrArg List.length hr
  simp at this; omega
theorem pair_hex {r : List Nat} {x : Str} (hx : x = S (r.take 2)) (h2 : (x.length : Int) = 2) {R : Nat → Value → Prop} {ys : List Value} {b : Bool}
    (hy : RelL R ((List.range x.cps.size).filter fun i => (x.cps[i]?).any fun c => !hexd c) ys) (hb : (ys.length == 0) = b) : ∃ a c r', x = S [a, c] ∧ r = a :: c :: r' ∧ (hexd a && hexd c) = b := by
  obtain ⟨a, c, r', rfl⟩ := take_two (r := r) (by rw [← hx]; omega)
  subst hx
  refine ⟨a, c, r', rfl, rfl, ?_⟩
  have hl := hy.length
  rw [← hl] at hb
  rw [← hb]
  simp only [List.take_succ_cons, List.take_zero, List.size_toArray, List.length_cons, List.length_nil, List.getElem?_toArray]
  have : List.range (0 + 1 + 1) = [0, 1] := rfl
  rw [this]
  simp only [List.filter_cons, List.filter_nil, List.getElem?_cons_zero, List.getElem?_cons_succ, Option.any_some]
  rcases Bool.eq_false_or_eq_true (hexd a) with ha | ha <;> rcases Bool.eq_false_or_eq_true (hexd c) with hc | hc <;> simp [ha, hc]
theorem cond4 {r : List Nat} {d : Nat} {x : Str} (hx : x = S (r.take 2)) (h2 : (x.length : Int) = 2) {R : Nat → Value → Prop} {ys : List Value}
    (hy : RelL R ((List.range x.cps.size).filter fun i => (x.cps[i]?).any fun c => !hexd c) ys) (hb : (ys.length == 0) = false) : ∀ a b r', r = a :: b :: r' → (d == 37 && hexd a && hexd b) = false := by
  rintro a b r' rfl
  obtain ⟨a', b', r2, _, e, h⟩ := pair_hex hx h2 hy hb
  injection e with e1 e; injection e with e2 e
  rw [e1, e2, Bool.and_assoc, h, Bool.and_false]
theorem hval_lt {c : Nat} (h : hexd c = true) : hval c < 16 := by
  simp [hexd, digd] at h; unfold hval; (repeat' split) <;> omega
theorem natOf2 {a b : Nat} (ha : hexd a = true) (hb : hexd b = true) : natOf 16 [a, b] < 256 := by
  have := hval_lt ha; have := hval_lt hb
  simp only [natOf, List.foldl]; omega
theorem octL_len : ∀ l : List Nat, (octL l).length ≤ 4 * l.length
  | [] => by simp [octL]
  | [c] => by rw [octL_one (by intro a b r' e; cases e)]; have := utf8Of_len c; simp [octL]; omega
  | [c, d] => by
    have h2 := octL_len [d]
    rw [octL_one (by intro a b r' e; cases e)]; have := utf8Of_len c; simp only [List.length_append, List.length_cons, List.length_nil] at *; omega
  | c :: a :: b :: r => by
    have h1 := octL_len (a :: b :: r)
    have h2 := octL_len r
    rw [octL]
    split
    · simp only [List.length_cons] at *; omega
    · have := utf8Of_len c; simp only [List.length_append, List.length_cons] at *; omega
end Mine
end PartP2
section PartM10
open PySem PySem.W PyProof.Rows PySem.Calls PySem.Builtin
namespace Mine
def natI (o : List UInt8) : List Int := o.map fun c => (c.toNat : Int)
theorem natI_app (a b : List UInt8) : natI (a ++ b) = natI a ++ natI b := by simp [natI]
theorem ints_app : ∀ {l l' : List Value} {xs xs' : List Int}, IntsAre l xs → IntsAre l' xs' → IntsAre (l ++ l') (xs ++ xs')
  | _, _, _, _, .nil, h => h
  | _, _, _, _, .cons y t r, h => .cons y t (ints_app r h)
theorem byteArr_natI (o : List UInt8) : byteArr (natI o) = o.toArray := by
  unfold byteArr natI
  simp only [List.map_map]
  congr 1
  exact (List.map_congr_left fun c _ => by simp [Function.comp]).trans (List.map_id _)
theorem natI_in (o : List UInt8) : ∀ n ∈ natI o, 0 ≤ n ∧ n < 256 := by
  intro n hn
  obtain ⟨c, _, rfl⟩ := List.mem_map.mp hn
  have := c.toNat_lt
  omega
theorem ints_natI {vs : List Value} {l : List UInt8} (h : IntsAre vs (KBw.bInts l.toArray)) : IntsAre vs (natI l) := by
  have : KBw.bInts l.toArray = natI l := by simp [KBw.bInts, natI]
  rw [← this]; exact h
theorem ints_snocs {vs : Array Value} {vs9 : List Value} {o b : List UInt8} (h : IntsAre vs.toList (natI o)) (h9 : IntsAre vs9 (KBw.bInts b.toArray)) : IntsAre (vs ++ vs9.toArray).toList (natI (o ++ b)) := by
  rw [natI_app, Array.toList_append]
  exact ints_app h (ints_natI h9)
theorem ints_cat {vs vs9 : Array Value} {o b : List UInt8} (h : IntsAre vs.toList (natI o)) (h9 : IntsAre vs9.toList (natI b)) : IntsAre (vs.toList ++ vs9.toList).toArray.toList (natI (o ++ b)) := by
  rw [natI_app]
  exact ints_app h h9
theorem ints_push {vs : Array Value} {o : List UInt8} {a b : Nat} {t : Tok} (h : IntsAre vs.toList (natI o)) (ha : ∀ c ∈ [a, b], hexd c = true) : IntsAre (vs.push (.int (natOf 16 [a, b] : Int) t)).toList (natI (o ++ [(natOf 16 [a, b]).toUInt8])) := by
  have h2 := natOf2 (ha a (by simp)) (ha b (by simp))
  rw [natI_app, Array.toList_push]
  refine ints_app h ?_
  have : natI [(natOf 16 [a, b]).toUInt8] = [(natOf 16 [a, b] : Int)] := by
    simp [natI]; omega
  rw [this]
  exact .cons _ _ .nil
theorem ext_room {a c : Nat} (h : a ≤ 100000) : a + (Str.utf8Of c).toArray.size ≤ 16777216 := by have := utf8Of_len c; simp; omega
section
variable {prog : Program} {w : World} {A : Around} {E : Value → Shared → Prop} {s : Shared} {h₀ : Heap} {L : Addr} {m : Str → Option Value} {news : List (Addr × Obj)} {t u : Tok}
theorem call_bytesO {D : Addr} {vs : Array Value} {n : Nat} {o : List UInt8} {Q : Value → Shared → Prop} (F : Fr h₀ L s.heap m) (N : News h₀ L s.heap news) (hm : (D, W.listOf vs n) ∈ news) (hi : IntsAre vs.toList (natI o)) (hz : o.length ≤ 16777216) (hh : A.handled = none)
    (h : ∀ h' t k, Fr h₀ L h' m → News h₀ L h' news → Q (.bytes o.toArray t) { s with heap := h', toks := k }) : wpAny (model prog w) A (call (.type "bytes") [.ref D]) Q E s := by
  have hl : s.heap.IsList D vs.toList.toArray := by rw [Array.toArray_toList]; exact News.isList N hm
  refine call_bytes_ints hl hi (natI_in o) ?_ hh fun h' t k hk => ?_
  · rw [hi.length, sizeLine_eq]; simpa [natI] using hz
  · rw [byteArr_natI]; exact h h' t k (F.keeps hk) (N.grown hk)
theorem eqNil {D b : Addr} {vs : Array Value} {n n' : Nat} {Q : Value → Shared → Prop} (N : News h₀ L s.heap news) (hD : (D, W.listOf vs n) ∈ news) (hb : (b, W.listOf #[] n') ∈ news) (hu : A.units < cLine) (h : Q (.bool (vs.size == 0)) s) :
    wpAny (model prog w) A (compareOp .Eq (.ref D) (.ref b)) Q E s := by
  by_cases hz : vs.size = 0
  · refine SeqAt.eq_listAt (e := fun _ => true) (News.isList N hD) (News.isList N hb) (by rw [hz]; rfl) hu (fun j h1 => by omega) ?_
    rw [hz] at h ⊢; exact h
  · refine SeqAt.eq_list_lengthsAt (News.isList N hD) (News.isList N hb) (by simpa using hz) hu ?_
    have : (vs.size == 0) = false := by simpa using hz
    rw [this] at h; exact h
theorem neNil {D b : Addr} {vs : Array Value} {n n' : Nat} {Q : Value → Shared → Prop} (N : News h₀ L s.heap news) (hD : (D, W.listOf vs n) ∈ news) (hb : (b, W.listOf #[] n') ∈ news) (hu : A.units < cLine) (h : Q (.bool (!(vs.size == 0))) s) :
    wpAny (model prog w) A (compareOp .NotEq (.ref D) (.ref b)) Q E s := by
  by_cases hz : vs.size = 0
  · refine SeqAt.RcNeAt.lists (e := fun _ => true) (News.isList N hD) (News.isList N hb) (by rw [hz]; rfl) hu (fun j h1 => by omega) prog w E Q ?_
    rw [hz] at h ⊢; exact h
  · refine SeqAt.RcNeAt.lists_lengths (News.isList N hD) (News.isList N hb) (by simpa using hz) hu prog w E Q ?_
    have : (vs.size == 0) = false := by simpa using hz
    rw [this] at h; exact h
theorem call_listI {c : Nat} {Q : Value → Shared → Prop} (hh : A.handled = none) (F : Fr h₀ L s.heap m) (N : News h₀ L s.heap news)
    (h : ∀ D h' tk' vs c', Fr h₀ L h' m → News h₀ L h' ((D, W.listOf vs c') :: news) → IntsAre vs.toList (natI (Str.utf8Of c)) → vs.size ≤ 4 → (∀ p ∈ news, p.1 < D) → Q (.ref D) { s with heap := h', toks := tk' }) :
    wpAny (model prog w) A (call (.type "list") [.bytes (Str.utf8Of c).toArray t]) Q E s := by
  have hu := utf8Of_len c
  refine call_list_bytes hh (by simp; omega) F N fun D h' tk' vs c' F' N' hv hl => ?_
  have hv' := ints_natI hv
  refine h D h' tk' vs c' F' N' hv' ?_ hl
  have := hv'.length
  simp [natI] at this
  omega
theorem call_encI {l : List Nat} {p : Nat} {Q : Value → Shared → Prop} (hlt : (p : Int) < ((S l).length : Int)) (hg : ∀ c ∈ l, Str.isSurrogate c = false) (hq : ∀ c, l[p]? = some c → ∀ t' k, Q (.bytes (Str.utf8Of c).toArray t') { s with toks := k }) :
    wpAny (model prog w) A (call (.builtin "str.encode") [.str (Txt.item (S l) (p : Int)) t, .str (Str.ofString "utf-8") u]) Q E s := by
  have hp : p < l.length := by rw [lenS] at hlt; omega
  have hc : l[p]? = some l[p] := by simp [hp]
  rw [item_at hc]
  exact call_enc (hg _ (List.getElem_mem hp)) (hq _ hc)
end
end Mine
end PartM10
section PartP3
open PySem PySem.W PyProof.Rows PySem.Calls PySem.Builtin
namespace Mine
/-- a sign or none -/
def OptS (o : Option Nat) (v : Value) : Prop := match o with | some c => ∃ tk, v = .str (S [c]) tk | none => v = .none
theorem slice_to (l : List Nat) (b : Nat) : Txt.slice (S l) none (some (b : Int)) = S (l.take b) := by
  have h := slice_nat l (a := 0) (b := b) (Nat.zero_le _)
  rw [List.drop_zero, Nat.sub_zero] at h
  rw [← h]
  show StrLaws.sliceText _ _ _ = StrLaws.sliceText _ _ _
  unfold StrLaws.sliceText
  rw [StrLaws.sliceIdx_none_lo]; rfl
theorem slice_from (l : List Nat) (a : Nat) : Txt.slice (S l) (some (a : Int)) none = S (l.drop a) := by
  by_cases h : a ≤ l.length
  · have h2 := slice_nat l (a := a) (b := l.length) h
    rw [List.take_of_length_le (by simp)] at h2
    rw [← h2]
    show StrLaws.sliceText _ _ _ = StrLaws.sliceText _ _ _
    unfold StrLaws.sliceText
    rw [StrLaws.sliceIdx_none_hi, lenS]
  · rw [slice_beyond (by rw [lenS]; omega), List.drop_eq_nil_of_le (by omega)]
    rfl
theorem S_inj {a b : List Nat} (h : S a = S b) : a = b := by injection h with h; injection h
theorem S_beq (a b : List Nat) : (S a == S b) = decide (a = b) := by
  by_cases h : a = b
  · subst h; simp
  · have : ¬ S a = S b := fun e => h (S_inj e)
    simp [h, this]
theorem sharp : Str.ofString "#" = S [35] := by decide +kernel
theorem sgn_no {l : List Nat} (h : (Txt.slice (S l) none (some 1) != Str.ofString "#") = true) : signL l = namedL l := by
  rw [show Txt.slice (S l) none (some 1) = S (l.take 1) from slice_to l 1, sharp] at h
  have h2 : ¬ l.take 1 = [35] := by
    intro e; rw [e] at h; simp at h
  match l, h2 with
  | [], _ => rfl
  | c :: r, h2 =>
    have : c ≠ 35 := by simpa using h2
    unfold signL
    split
    · rename_i e; injection e with e _; exact absurd e this
    · rfl
theorem sgn_yes {l : List Nat} (h : (Txt.slice (S l) none (some 1) != Str.ofString "#") = false) : ∃ r, l = 35 :: r := by
  rw [show Txt.slice (S l) none (some 1) = S (l.take 1) from slice_to l 1, sharp] at h
  have h2 : l.take 1 = [35] := by
    have : (S (l.take 1) == S [35]) = true := by simpa [bne] using h
    rw [S_beq] at this; simpa using this
  match l, h2 with
  | c :: r, h2 => exact ⟨r, by simp at h2; rw [h2]⟩
theorem xs_eq (x : Str) : ([Str.ofString "x", Str.ofString "X"].any fun y => y == x) = (x == S [120] || x == S [88]) := by
  rw [show Str.ofString "x" = S [120] from by decide +kernel, show Str.ofString "X" = S [88] from by decide +kernel]
  simp [Bool.beq_comm, eq_comm]
theorem sgn_16 {l : List Nat} (h1 : (Txt.slice (S l) none (some 1) != Str.ofString "#") = false) (h : ([Str.ofString "x", Str.ofString "X"].any fun y => y == Txt.slice (S l) (some 1) (some 2)) = true) :
    ∃ x f, l = 35 :: x :: f ∧ Txt.slice (S l) (some 2) none = S f ∧ signL l = numL 16 hexd 1000000 f := by
  obtain ⟨r, rfl⟩ := sgn_yes h1
  rw [xs_eq, show Txt.slice (S (35 :: r)) (some 1) (some 2) = S (r.take 1) from slice_nat (35 :: r) (a := 1) (b := 2) (by omega), S_beq, S_beq] at h
  match r, h with
  | [], h => simp at h
  | x :: f, h =>
    refine ⟨x, f, rfl, slice_from (35 :: x :: f) 2, ?_⟩
    have : (x == 120 || x == 88) = true := by simpa using h
    show (if _ then _ else _) = _
    rw [if_pos this]
theorem sgn_10 {l : List Nat} (h1 : (Txt.slice (S l) none (some 1) != Str.ofString "#") = false) (h : ([Str.ofString "x", Str.ofString "X"].any fun y => y == Txt.slice (S l) (some 1) (some 2)) = false) :
    ∃ f, l = 35 :: f ∧ Txt.slice (S l) (some 1) none = S f ∧ signL l = numL 10 digd 7 f := by
  obtain ⟨r, rfl⟩ := sgn_yes h1
  refine ⟨r, rfl, slice_from (35 :: r) 1, ?_⟩
  rw [xs_eq, show Txt.slice (S (35 :: r)) (some 1) (some 2) = S (r.take 1) from slice_nat (35 :: r) (a := 1) (b := 2) (by omega), S_beq, S_beq] at h
  match r, h with
  | [], _ => rfl
  | x :: f, h =>
    have : ¬ (x == 120 || x == 88) = true := by simpa using h
    show (if _ then _ else _) = _
    rw [if_neg this]
def digList : List Nat := [48, 49, 50, 51, 52, 53, 54, 55, 56, 57]
theorem dig_mem (c : Nat) : digList.contains c = digd c := by
  by_cases h : c < 128
  · revert h; revert c; decide +kernel
  · have : digd c = false := by simp [digd]; omega
    rw [this]
    simp [digList]; omega
theorem dig_occ {x : Str} {c : Nat} {b : Bool} (hx : x = S [c]) (h : (Builtin.Str.occurrences (Str.ofString "0123456789") x 0 (Str.ofString "0123456789").length 1).isEmpty = b) : digd c = !b := by
  subst hx
  have := occ_one h
  rw [← dig_mem]; exact this
/-- of a list by a test: none left -/
theorem none_left {x : Str} {l : List Nat} (hx : x = S l) {ok : Nat → Bool} {R : Nat → Value → Prop} {ys : List Value} {b : Bool}
    (hy : RelL R ((List.range x.cps.size).filter fun i => (x.cps[i]?).any fun c => !ok c) ys) (hb : (ys.toArray.size == 0) = b) : l.all ok = b := by
  subst hx
  have hl := hy.length
  rw [List.size_toArray, ← hl] at hb
  rw [← hb]
  rw [Bool.eq_iff_iff]
  simp only [List.all_eq_true, beq_iff_eq, List.length_eq_zero_iff, List.filter_eq_nil_iff, List.mem_range, List.size_toArray, List.getElem?_toArray]
  constructor
  · intro h i hi
    rw [List.getElem?_eq_getElem hi, Option.any_some, h _ (List.getElem_mem hi)]
    simp
  · intro h c hc
    obtain ⟨i, hi, rfl⟩ := List.getElem_of_mem hc
    have := h i hi
    rw [List.getElem?_eq_getElem hi, Option.any_some] at this
    simpa using this
theorem empty_eq {x : Str} {l : List Nat} {b : Bool} (hx : x = S l) (h : (x == Str.ofString "") = b) : l.isEmpty = b := by
  subst hx
  rw [show Str.ofString "" = S [] from rfl, S_beq] at h
  rw [← h]; cases l <;> simp
theorem numL_empty {b : Nat} {ok : Nat → Bool} {most : Nat} {f : List Nat} (h : f.isEmpty = true) : numL b ok most f = none := by
  unfold numL; rw [h]; rfl
theorem numL_other {b : Nat} {ok : Nat → Bool} {most : Nat} {f : List Nat} (h : f.all ok = false) : numL b ok most f = none := by
  unfold numL; rw [h]; simp
theorem numL_long {b : Nat} {ok : Nat → Bool} {most : Nat} {f : List Nat} (h : most < f.length) : numL b ok most f = none := by
  unfold numL; rw [if_pos (by simp [h])]
theorem numL_read {b : Nat} {ok : Nat → Bool} {most : Nat} {f : List Nat} (h1 : f.isEmpty = false) (h2 : f.all ok = true) (h3 : f.length ≤ most) : numL b ok most f = if numOk (natOf b f) then some (natOf b f) else none := by
  unfold numL; rw [if_neg (by simp [h1, h2]; omega)]
theorem nine_any {n : Nat} {b : Bool} (h : (([9, 10, 12] : List Int).any fun x => x == (n : Int)) = b) : (n == 9 || n == 10 || n == 12) = b := by
  rw [← h]
  rw [Bool.eq_iff_iff]
  simp
  omega
theorem fmod_nat (n : Nat) : ((n : Int)).fmod 65536 = ((n % 65536 : Nat) : Int) := by
  rw [Int.fmod_eq_emod_of_nonneg _ (by omega)]; rfl
theorem ok_small {n : Nat} (h1 : (n : Int) < 160) (h : (([9, 10, 12] : List Int).any fun x => x == (n : Int)) = true) : numOk n = true := by
  have := nine_any h
  unfold numOk; rw [if_pos (by omega)]
  simp at this ⊢; omega
theorem ok_mid {n : Nat} (h1 : (n : Int) < 160) (h2 : (31 : Int) < n) (h3 : (n : Int) < 127) : numOk n = true := by
  unfold numOk; rw [if_pos (by omega)]
  simp; omega
theorem no_small {n : Nat} (h1 : (n : Int) < 160) (h : (([9, 10, 12] : List Int).any fun x => x == (n : Int)) = false) (h2 : ¬ ((31 : Int) < n ∧ (n : Int) < 127)) : numOk n = false := by
  have := nine_any h
  unfold numOk; rw [if_pos (by omega)]
  simp at this ⊢; omega
theorem ok_big {n : Nat} (h1 : ¬ (n : Int) < 160) (h2 : ¬ ((55295 : Int) < n ∧ (n : Int) < 57344)) (h3 : ¬ ((64975 : Int) < n ∧ (n : Int) < 65008)) (h4 : ¬ (1114111 : Int) < n) (h5 : ¬ (65533 : Int) < ((n : Int)).fmod 65536) : numOk n = true := by
  rw [fmod_nat] at h5
  unfold numOk; rw [if_neg (by omega)]
  simp; omega
theorem ok_low {n : Nat} (h1 : ¬ (n : Int) < 160) (h2 : ¬ ((55295 : Int) < n ∧ (n : Int) < 57344)) (h3 : ¬ (64975 : Int) < n) : numOk n = true := by
  unfold numOk; rw [if_neg (by omega)]
  simp; omega
theorem no_big {n : Nat} (h1 : ¬ (n : Int) < 160) (h : ((55295 : Int) < n ∧ (n : Int) < 57344) ∨ ((64975 : Int) < n ∧ (n : Int) < 65008) ∨ (1114111 : Int) < n ∨ (65533 : Int) < ((n : Int)).fmod 65536) : numOk n = false := by
  rw [fmod_nat] at h
  unfold numOk; rw [if_neg (by omega)]
  simp; omega
theorem look_named (l : List Nat) (t1 t2 t3 t4 t5 t6 t7 t8 t9 ta tb tc : Tok) : (Spec.lookup (PyData.str (S l)) (strData [(Value.str (Str.ofString "amp") t1, Value.str (Str.ofString "&") t2), (Value.str (Str.ofString "lt") t3, Value.str (Str.ofString "<") t4), (Value.str (Str.ofString "gt") t5, Value.str (Str.ofString ">") t6),
    (Value.str (Str.ofString "quot") t7, Value.str (Str.ofString "\"") t8), (Value.str (Str.ofString "copy") t9, Value.str (Str.ofString "©") ta), (Value.str (Str.ofString "nbsp") tb, Value.str (Str.ofString "\u00a0") tc)])).getD .none =
    match namedL l with | some c => .str (S [c]) | none => .none := by
  rw [show Str.ofString "amp" = S [97, 109, 112] from by decide +kernel, show Str.ofString "lt" = S [108, 116] from by decide +kernel, show Str.ofString "gt" = S [103, 116] from by decide +kernel,
    show Str.ofString "quot" = S [113, 117, 111, 116] from by decide +kernel, show Str.ofString "copy" = S [99, 111, 112, 121] from by decide +kernel, show Str.ofString "nbsp" = S [110, 98, 115, 112] from by decide +kernel,
    show Str.ofString "&" = S [38] from by decide +kernel, show Str.ofString "<" = S [60] from by decide +kernel, show Str.ofString ">" = S [62] from by decide +kernel, show Str.ofString "\"" = S [34] from by decide +kernel,
    show Str.ofString "©" = S [169] from by decide +kernel, show Str.ofString "\u00a0" = S [160] from by decide +kernel]
  simp only [strData, datumOf, Option.getD_some, Spec.lookup, same_str, S_beq, decide_eq_true_eq, eq_comm (b := l)]
  unfold namedL
  (repeat' split) <;> simp_all
end Mine
end PartP3
section PartP4
open PySem PySem.W PyProof.Rows PySem.Calls PySem.Builtin
namespace Mine
theorem strEq {x y : Str} {t : Tok} (h : x = y) : some (Value.str x t) = some (Value.str y t) := by rw [h]
theorem intEq {x y : Int} {t : Tok} (h : x = y) : some (Value.int x t) = some (Value.int y t) := by rw [h]
theorem nameAt_cons (c : Nat) (r : List Nat) : nameAt (c :: r) = if c == 38 && r.contains 59 then r.takeWhile (· != 59) else [] := rfl
theorem nameAt_len (c : Nat) (r : List Nat) : (nameAt (c :: r)).length ≤ r.length := by
  rw [nameAt_cons]
  split
  · exact (List.takeWhile_sublist _).length_le
  · simp
theorem readN_fuel : ∀ (n m : Nat) (l : List Nat), l.length ≤ n → l.length ≤ m → readN n l = readN m l
  | 0, 0, _, _, _ => rfl
  | 0, m + 1, [], _, _ => rfl
  | 0, m + 1, _ :: _, h, _ => by simp at h
  | n + 1, 0, [], _, _ => rfl
  | n + 1, 0, _ :: _, _, h => by simp at h
  | n + 1, m + 1, [], _, _ => rfl
  | n + 1, m + 1, c :: r, h1, h2 => by
    rw [readN, readN]
    simp only [List.length_cons] at h1 h2
    rw [readN_fuel n m r (by omega) (by omega)]
    have : ∀ k, readN n (r.drop k) = readN m (r.drop k) := fun k => readN_fuel n m _ (by simp; omega) (by simp; omega)
    rw [this]
theorem readL_some {c d : Nat} {r : List Nat} (h : signL (nameAt (c :: r)) = some d) : readL (c :: r) = d :: readL (r.drop ((nameAt (c :: r)).length + 1)) := by
  unfold readL
  rw [List.length_cons, readN, h]
  dsimp only
  rw [readN_fuel r.length _ _ (by simp) (Nat.le_refl _)]
theorem readL_none {c : Nat} {r : List Nat} (h : signL (nameAt (c :: r)) = none) : readL (c :: r) = c :: readL r := by
  unfold readL
  rw [List.length_cons, readN, h]
theorem readL_len : ∀ (n : Nat) (l : List Nat), l.length ≤ n → (readL l).length ≤ l.length
  | _, [], _ => by simp [readL, readN]
  | n + 1, c :: r, h => by
    cases hs : signL (nameAt (c :: r)) with
    | none => rw [readL_none hs]; have := readL_len n r (by simpa using h); simp; exact this
    | some d =>
      rw [readL_some hs]
      have := readL_len n (r.drop ((nameAt (c :: r)).length + 1)) (by simp at h ⊢; omega)
      simp at this ⊢; omega
theorem read_some {l o : List Nat} {p d k : Nat} (hp : p < l.length) (h : signL (nameAt (l.drop p)) = some d) (hk : k = p + (nameAt (l.drop p)).length + 1) (ho : o ++ readL (l.drop p) = readL l) : (o ++ [d]) ++ readL (l.drop (k + 1)) = readL l := by
  obtain ⟨c, hc, e⟩ := drop_cons hp
  rw [e] at h ho hk
  rw [readL_some h, List.drop_drop] at ho
  rw [List.append_assoc, ← ho]
  rw [List.singleton_append]
  rw [show k + 1 = p + 1 + ((nameAt (c :: l.drop (p + 1))).length + 1) from by omega]
theorem read_none {l o : List Nat} {p c : Nat} (hc : l[p]? = some c) (h : signL (nameAt (l.drop p)) = none) (ho : o ++ readL (l.drop p) = readL l) : (o ++ [c]) ++ readL (l.drop (p + 1)) = readL l := by
  obtain ⟨h1, h2⟩ := List.getElem?_eq_some_iff.mp hc
  rw [List.drop_eq_getElem_cons h1, h2] at h ho
  rw [readL_none h] at ho
  rw [List.append_assoc, ← ho]; rfl
theorem takeWhile_at : ∀ (r : List Nat) (j : Nat), (∀ i, i < j → r.getD i 0 ≠ 59) → r[j]? = some 59 → r.takeWhile (· != 59) = r.take j ∧ r.contains 59 = true
  | [], j, _, h => by simp at h
  | c :: r, 0, _, h => by
    obtain rfl : c = 59 := by simpa using h
    simp
  | c :: r, j + 1, hi, h => by
    have h0 : c ≠ 59 := by simpa using hi 0 (by omega)
    obtain ⟨q1, q2⟩ := takeWhile_at r j (fun i hij => by simpa using hi (i + 1) (by omega)) (by simpa using h)
    rw [List.takeWhile_cons]
    have : (c != 59) = true := by simpa using h0
    rw [if_pos this, q1]
    refine ⟨rfl, ?_⟩
    simp only [List.contains_cons, q2, Bool.or_true]
theorem find_some {l : List Nat} {p : Nat} (hp : l[p]? = some 38) (h : 0 < Txt.find3 (S l) (Str.ofString ";") (p : Int)) :
    ∃ k : Nat, Txt.find3 (S l) (Str.ofString ";") (p : Int) = (k : Int) ∧ k = p + (nameAt (l.drop p)).length + 1 ∧ k < l.length ∧ Txt.slice (S l) (some ((p : Int) + 1)) (some (k : Int)) = S (nameAt (l.drop p)) := by
  rw [show Str.ofString ";" = ⟨#[59]⟩ from by decide +kernel] at h ⊢
  obtain ⟨h1, h2⟩ := List.getElem?_eq_some_iff.mp hp
  rcases StrLaws.find3_spec (S l) 59 p with ⟨e, _⟩ | ⟨k, e, hk1, hk2, hk3, hk4⟩
  · omega
  · have hf : fromIndex (S l).length (p : Int) = p := by
      unfold fromIndex
      rw [if_neg (by omega)]; omega
    rw [hf] at hk1 hk4
    rw [lenS] at hk2
    have hget : ∀ v, (S l).cps.getD v 0 = l.getD v 0 := fun v => by simp [List.getD]
    rw [hget] at hk3
    have hkp : k ≠ p := by
      rintro rfl
      rw [List.getD, hp] at hk3; simp at hk3
    have hnm : nameAt (l.drop p) = (l.drop (p + 1)).take (k - (p + 1)) := by
      rw [List.drop_eq_getElem_cons h1, h2]
      obtain ⟨q1, q2⟩ := takeWhile_at (l.drop (p + 1)) (k - (p + 1)) (fun i hi => by
          have := hk4 (p + 1 + i) (by omega) (by omega)
          rw [hget] at this
          rw [List.getD, List.getElem?_drop]; exact this) (by
          rw [List.getElem?_drop, show p + 1 + (k - (p + 1)) = k from by omega, List.getElem?_eq_getElem hk2]
          rw [List.getD, List.getElem?_eq_getElem hk2] at hk3
          exact congrArg some hk3)
      rw [nameAt_cons, q2, q1]; rfl
    refine ⟨k, e, ?_, hk2, ?_⟩
    · rw [hnm, List.length_take, List.length_drop]; omega
    · rw [hnm]
      have := slice_nat l (a := p + 1) (b := k) (by omega)
      rw [show ((p + 1 : Nat) : Int) = (p : Int) + 1 from by omega] at this
      exact this
theorem find_none {l : List Nat} {p : Nat} (h : ¬ 0 < Txt.find3 (S l) (Str.ofString ";") (p : Int)) (hp : l[p]? = some 38) : nameAt (l.drop p) = [] := by
  rw [show Str.ofString ";" = ⟨#[59]⟩ from by decide +kernel] at h
  obtain ⟨h1, h2⟩ := List.getElem?_eq_some_iff.mp hp
  have hf : fromIndex (S l).length (p : Int) = p := by
      unfold fromIndex
      rw [if_neg (by omega)]; omega
  have hget : ∀ v, (S l).cps.getD v 0 = l.getD v 0 := fun v => by simp [List.getD]
  rcases StrLaws.find3_spec (S l) 59 p with ⟨e, hn⟩ | ⟨k, e, hk1, hk2, hk3, hk4⟩
  · rw [List.drop_eq_getElem_cons h1, h2]
    have : (l.drop (p + 1)).contains 59 = false := by
      rw [Bool.eq_false_iff]
      intro hc
      obtain ⟨i, hi, he⟩ := List.getElem_of_mem (List.contains_iff_mem.mp hc)
      rw [List.length_drop] at hi
      rw [List.getElem_drop] at he
      refine hn (p + 1 + i) (by rw [hf]; omega) (by rw [lenS]; omega) ?_
      rw [hget, List.getD, List.getElem?_eq_getElem (by omega)]
      simpa using he
    rw [nameAt_cons, this]; rfl
  · rw [e] at h
    rw [hf] at hk1
    have : k = 0 := by omega
    obtain rfl : p = 0 := by omega
    subst this
    rw [hget, List.getD, hp] at hk3; simp at hk3
theorem other_name {l : List Nat} {p c : Nat} (hc : l[p]? = some c) (h : (c == 38) = false) : nameAt (l.drop p) = [] := by
  obtain ⟨h1, h2⟩ := List.getElem?_eq_some_iff.mp hc
  rw [List.drop_eq_getElem_cons h1, h2]
  rw [nameAt_cons, h]; rfl
theorem amp_eq {x : Str} {c : Nat} {b : Bool} (hx : x = S [c]) (h : (x == Str.ofString "&") = b) : (c == 38) = b := by
  subst hx
  rw [show Str.ofString "&" = ⟨#[38]⟩ from by decide +kernel] at h
  rw [← h]
  exact (str_eq1 c 38).symm
end Mine
end PartP4
section PartP5
open PySem PySem.W PyProof.Rows PySem.Calls PySem.Builtin
namespace Mine
def subOne (c : Nat) (z : List Nat) (x : Nat) : List Nat := if x = c then z else [x]
theorem sub_free (c : Nat) (z : List Nat) : ∀ {l : List Nat}, c ∉ l → l.flatMap (subOne c z) = l
  | [], _ => rfl
  | x :: l, h => by
    have h1 : x ≠ c := fun e => h (e ▸ List.mem_cons_self)
    rw [List.flatMap_cons, sub_free c z fun hm => h (List.mem_cons_of_mem _ hm)]
    unfold subOne; rw [if_neg h1]; rfl
theorem sub_join (c : Nat) (z : List Nat) : ∀ ps : List Str, (∀ p ∈ ps, c ∉ p.cps.toList) → (Str.join (S z) ps).cps.toList = (Str.join ⟨#[c]⟩ ps).cps.toList.flatMap (subOne c z)
  | [], _ => by simp [Str.join, Str.empty]
  | [a], h => by
    have := sub_free c z (h a (by simp))
    simp only [Str.join]
    exact this.symm
  | a :: b :: r, h => by
    have ih := sub_join c z (b :: r) fun p hp => h p (List.mem_cons_of_mem _ hp)
    rw [join_cons_cons, join_cons_cons]
    have h1 := sub_free c z (h a (by simp))
    simp only [Str.cps_append, Array.toList_append, List.flatMap_append, ih, h1]
    simp [subOne]
theorem replace_sub (l : List Nat) (c : Nat) (z : List Nat) : Txt.replace (S l) ⟨#[c]⟩ (S z) = S (l.flatMap (subOne c z)) := by
  rw [StrLaws.replace_one]
  have h := sub_join c z (Txt.split (S l) ⟨#[c]⟩) (StrLaws.split_free (S l) c)
  rw [StrLaws.join_split] at h
  apply Str.ext'
  rw [← Array.toArray_toList (xs := (Str.join _ _).cps), h]
theorem flatMap_flatMap' {α : Type} (l : List α) (f g : α → List α) : (l.flatMap f).flatMap g = l.flatMap fun x => (f x).flatMap g := by
  rw [List.flatMap_assoc]
theorem esc_chain (l : List Nat) : ((((l.flatMap (subOne 38 [38, 97, 109, 112, 59])).flatMap (subOne 60 [38, 108, 116, 59])).flatMap (subOne 62 [38, 103, 116, 59])).flatMap (subOne 34 [38, 113, 117, 111, 116, 59])) = escL true l := by
  simp only [flatMap_flatMap']
  unfold escL
  congr 1
  funext c
  unfold escOne subOne
  by_cases h1 : c = 38
  · subst h1; rfl
  by_cases h2 : c = 60
  · subst h2; rfl
  by_cases h3 : c = 62
  · subst h3; rfl
  by_cases h4 : c = 34
  · subst h4; rfl
  simp [h1, h2, h3, h4]
theorem esc_chain3 (l : List Nat) : (((l.flatMap (subOne 38 [38, 97, 109, 112, 59])).flatMap (subOne 60 [38, 108, 116, 59])).flatMap (subOne 62 [38, 103, 116, 59])) = escL false l := by
  simp only [flatMap_flatMap']
  unfold escL
  congr 1
  funext c
  unfold escOne subOne
  by_cases h1 : c = 38
  · subst h1; rfl
  by_cases h2 : c = 60
  · subst h2; rfl
  by_cases h3 : c = 62
  · subst h3; rfl
  simp [h1, h2, h3]
theorem esc_text4 (l : List Nat) : Txt.replace (Txt.replace (Txt.replace (Txt.replace (S l) (Str.ofString "&") (Str.ofString "&amp;")) (Str.ofString "<") (Str.ofString "&lt;")) (Str.ofString ">") (Str.ofString "&gt;")) (Str.ofString "\"") (Str.ofString "&quot;") = S (escL true l) := by
  rw [show Str.ofString "&" = ⟨#[38]⟩ from by decide +kernel, show Str.ofString "<" = ⟨#[60]⟩ from by decide +kernel, show Str.ofString ">" = ⟨#[62]⟩ from by decide +kernel, show Str.ofString "\"" = ⟨#[34]⟩ from by decide +kernel,
    show Str.ofString "&amp;" = S [38, 97, 109, 112, 59] from by decide +kernel, show Str.ofString "&lt;" = S [38, 108, 116, 59] from by decide +kernel, show Str.ofString "&gt;" = S [38, 103, 116, 59] from by decide +kernel, show Str.ofString "&quot;" = S [38, 113, 117, 111, 116, 59] from by decide +kernel]
  rw [replace_sub, replace_sub, replace_sub, replace_sub, esc_chain]
theorem esc_text3 (l : List Nat) : Txt.replace (Txt.replace (Txt.replace (S l) (Str.ofString "&") (Str.ofString "&amp;")) (Str.ofString "<") (Str.ofString "&lt;")) (Str.ofString ">") (Str.ofString "&gt;") = S (escL false l) := by
  rw [show Str.ofString "&" = ⟨#[38]⟩ from by decide +kernel, show Str.ofString "<" = ⟨#[60]⟩ from by decide +kernel, show Str.ofString ">" = ⟨#[62]⟩ from by decide +kernel,
    show Str.ofString "&amp;" = S [38, 97, 109, 112, 59] from by decide +kernel, show Str.ofString "&lt;" = S [38, 108, 116, 59] from by decide +kernel, show Str.ofString "&gt;" = S [38, 103, 116, 59] from by decide +kernel]
  rw [replace_sub, replace_sub, replace_sub, esc_chain3]
end Mine
end PartP5
section PartR0
open PySem PySem.Sre
namespace Mine
/-- the pattern's code -/
def C : Array Nat := #[14, 8, 1, 3, 4294967295, 1, 1, 38, 0, 16, 38, 17, 0, 7, 18, 16, 35, 24, 10, 1, 7, 13, 5, 22, 48, 57, 0, 1, 16, 59, 15, 56, 31, 16, 35, 13, 6, 16, 120, 16, 88, 0, 24, 16, 1, 4294967295, 13, 11, 9, 0, 67043328, 126, 126, 0, 0, 0, 0, 0, 1, 16, 59, 15, 25, 23, 24, 17, 1, 32, 13, 12, 21, 9, 5632, 402653257, 0, 0, 0, 0, 0, 0, 0, 1, 16, 59, 15, 2, 0, 17, 1, 1]
def St (x : Array Nat) (s last : Nat) (oc : Bool) (pc pos hd : Nat) (mk : Array (Option Nat)) (lm li : Int) (fs : List Sre.Frame) (an : Option Bool) (sn : Seen) : M :=
  { code := C, text := x, lim := x.size, start := s, lastStart := last, pc, pos, handed := hd, outermost := oc, marks := mk, lastmark := lm, lastindex := li, frames := fs, weight := fs.length, answer := an, seen := sn }
def F0 (s : Nat) (oc : Bool) : Sre.Frame := { wait := .nextStart, pc := 9, pos := s, outermost := oc }
def F1 (alt p : Nat) (oc : Bool) : Sre.Frame := { wait := .nextBranch, pc := alt, pos := p, outermost := oc, kept := { lastmark := 0, lastindex := -1 } }
def F2 (pc p : Nat) (k : Nat) (oc : Bool) : Sre.Frame := { wait := .giveBack, pc, pos := p, outermost := oc, count := (k : Int), kept := { lastmark := 0, lastindex := -1 } }
/-- a sign that stands for itself -/
def Lit (pc d nx : Nat) : Prop := ∀ (x : Array Nat) (s last pos hd : Nat) (oc : Bool) (mk : Array (Option Nat)) (lm li : Int) (fs : List Sre.Frame) (sn : Seen), M.step (St x s last oc pc pos hd mk lm li fs none sn) = if pos ≥ x.size then St x s last oc pc pos hd mk lm li fs (some false) (sn.add 16) else
    match (x.getD pos 0 == d) with | true => St x s last oc nx (pos + 1) hd mk lm li fs none (sn.add 16) | false => St x s last oc pc pos hd mk lm li fs (some false) (sn.add 16)
theorem lit9 : Lit 9 38 11 := fun _ _ _ _ _ _ _ _ _ _ _ => by kernel_rfl
theorem lit15 : Lit 15 35 17 := fun _ _ _ _ _ _ _ _ _ _ _ => by kernel_rfl
theorem lit28 : Lit 28 59 30 := fun _ _ _ _ _ _ _ _ _ _ _ => by kernel_rfl
theorem lit33 : Lit 33 35 35 := fun _ _ _ _ _ _ _ _ _ _ _ => by kernel_rfl
theorem lit59 : Lit 59 59 61 := fun _ _ _ _ _ _ _ _ _ _ _ => by kernel_rfl
theorem lit82 : Lit 82 59 84 := fun _ _ _ _ _ _ _ _ _ _ _ => by kernel_rfl
def Jmp (pc : Nat) : Prop := ∀ (x : Array Nat) (s last pos hd : Nat) (oc : Bool) (mk : Array (Option Nat)) (lm li : Int) (fs : List Sre.Frame) (sn : Seen), M.step (St x s last oc pc pos hd mk lm li fs none sn) = St x s last oc 87 pos hd mk lm li fs none (sn.add 15)
theorem jmp30 : Jmp 30 := fun _ _ _ _ _ _ _ _ _ _ _ => by kernel_rfl
theorem jmp61 : Jmp 61 := fun _ _ _ _ _ _ _ _ _ _ _ => by kernel_rfl
theorem jmp84 : Jmp 84 := fun _ _ _ _ _ _ _ _ _ _ _ => by kernel_rfl
section
variable (x : Array Nat) (s last pos hd : Nat) (oc : Bool) (a : Option Nat) (mk : Array (Option Nat)) (lm li : Int) (fs : List Sre.Frame) (sn : Seen)
theorem mark0 : M.step (St x s last oc 11 pos hd #[a, none] (-1) (-1) fs none sn) = St x s last oc 13 pos hd #[some pos, none] 0 (-1) fs none (sn.add 17) := by kernel_rfl
theorem mark1 : M.step (St x s last oc 87 pos hd #[a, none] 0 (-1) fs none sn) = St x s last oc 89 pos hd #[a, some pos] 1 1 fs none (sn.add 17) := by kernel_rfl
theorem succ89 : M.step (St x s last oc 89 pos hd mk lm li fs none sn) = St x s last oc 89 pos pos mk lm li fs (some true) (sn.add 1) := by
  cases oc <;> kernel_rfl
theorem bran13 (p : Nat) (o2 : Bool) : M.step (St x s last oc 13 pos hd mk 0 (-1) [F0 p o2] none sn) = St x s last oc 15 pos pos mk 0 (-1) [F1 14 pos oc, F0 p o2] none (sn.add 7) := by kernel_rfl
theorem yes0 (pc p : Nat) (o2 : Bool) : M.step (St x s last oc pc pos hd mk lm li (F0 p o2 :: fs) (some true) sn) = St x s last o2 9 p hd mk lm li fs (some true) sn := by kernel_rfl
theorem yes1 (pc alt p : Nat) (o2 : Bool) : M.step (St x s last oc pc pos hd mk lm li (F1 alt p o2 :: fs) (some true) sn) = St x s last o2 alt p hd mk lm li fs (some true) sn := by kernel_rfl
theorem yes2 (pc pr p k : Nat) (o2 : Bool) : M.step (St x s last oc pc pos hd mk lm li (F2 pr p k o2 :: fs) (some true) sn) = St x s last o2 pr p hd mk lm li fs (some true) sn := by kernel_rfl
theorem no14 (pc p q : Nat) (o2 o3 : Bool) : M.step (St x s last oc pc pos hd mk lm li [F1 14 p o2, F0 q o3] (some false) sn) = St x s last o2 33 p p mk 0 (-1) [F1 32 p o2, F0 q o3] none sn := by kernel_rfl
theorem no32 (pc p q : Nat) (o2 o3 : Bool) : M.step (St x s last oc pc pos hd mk lm li [F1 32 p o2, F0 q o3] (some false) sn) = St x s last o2 64 p p mk 0 (-1) [F1 63 p o2, F0 q o3] none sn := by kernel_rfl
theorem no63 (pc p q : Nat) (o2 o3 : Bool) : M.step (St x s last oc pc pos hd mk lm li [F1 63 p o2, F0 q o3] (some false) sn) = St x s last o2 63 p hd mk 0 (-1) [F0 q o3] (some false) sn := by kernel_rfl
theorem no0 (pc p : Nat) (o2 : Bool) : M.step (St x s last oc pc pos hd mk lm li [F0 p o2] (some false) sn) = if p < last then St x (p + 1) last false 9 (p + 1) (p + 1) mk (-1) (-1) [F0 (p + 1) false] none sn else St x s last o2 9 p hd mk lm li [] (some false) sn := by kernel_rfl
theorem end_yes (pc : Nat) : M.step (St x s last oc pc pos hd mk lm li [] (some true) sn) = { St x s last oc pc pos hd mk lm li [] (some true) sn with outcome := some .matched } := by kernel_rfl
theorem end_no (pc : Nat) : M.step (St x s last oc pc pos hd mk lm li [] (some false) sn) = { St x s last oc pc pos hd mk lm li [] (some false) sn with outcome := some .failed } := by kernel_rfl
end
/-- what an item takes -/
def Takes (pc : Nat) (ok : Nat → Bool) : Prop := ∀ (c : Nat) (sn : Seen), ∃ sn', accepts C pc c sn = .ok (ok c, sn')
theorem takes21 : Takes 21 digd := fun c sn => by
  have h : accepts C 21 c sn = if 48 ≤ c && c ≤ 57 then .ok (true, sn.add 22) else .ok (false, (sn.add 22).add 0) := by kernel_rfl
  rw [h]
  show ∃ sn', (if digd c = true then _ else _) = _
  cases digd c
  · exact ⟨_, rfl⟩
  · exact ⟨_, rfl⟩
theorem takes35 : Takes 35 (fun c => c == 120 || c == 88) := fun c sn => by
  have h : accepts C 35 c sn = if c == 120 then .ok (true, sn.add 16) else if c == 88 then .ok (true, (sn.add 16).add 16) else .ok (false, ((sn.add 16).add 16).add 0) := by kernel_rfl
  rw [h]
  by_cases h1 : c = 120
  · subst h1; exact ⟨_, rfl⟩
  · by_cases h2 : c = 88
    · subst h2; exact ⟨_, rfl⟩
    · have e1 : (c == 120) = false := by simpa using h1
      have e2 : (c == 88) = false := by simpa using h2
      simp only [e1, e2]
      exact ⟨_, rfl⟩
def hexW (c : Nat) : Nat := C.getD (48 + (1 + c / 32)) 0
def othW (c : Nat) : Nat := C.getD (71 + (1 + c / 32)) 0
theorem hex_bits : ∀ c : Nat, c < 256 → (hexW c).testBit (c % 32) = hexd c := by decide +kernel
theorem oth_bits : ∀ c : Nat, c < 256 → (othW c).testBit (c % 32) = !otherd c := by decide +kernel
theorem takes46 : Takes 46 hexd := fun c sn => by
  have h : accepts C 46 c sn = if c < 256 && (hexW c).testBit (c % 32) then .ok (true, sn.add 9) else .ok (false, (sn.add 9).add 0) := by kernel_rfl
  rw [h]
  by_cases hc : c < 256
  · rw [decide_eq_true hc, Bool.true_and, hex_bits c hc]
    cases hexd c
    · exact ⟨_, rfl⟩
    · exact ⟨_, rfl⟩
  · have : hexd c = false := by simp [hexd, digd]; omega
    rw [decide_eq_false hc, this]
    exact ⟨_, rfl⟩
theorem takes68 : Takes 68 otherd := fun c sn => by
  have h : accepts C 68 c sn = if c < 256 && (othW c).testBit (c % 32) then .ok (false, (sn.add 21).add 9) else .ok (true, ((sn.add 21).add 9).add 0) := by kernel_rfl
  rw [h]
  by_cases hc : c < 256
  · rw [decide_eq_true hc, Bool.true_and, oth_bits c hc]
    cases otherd c
    · exact ⟨_, rfl⟩
    · exact ⟨_, rfl⟩
  · have : otherd c = true := by simp [otherd]; omega
    rw [decide_eq_false hc, this]
    exact ⟨_, rfl⟩
theorem in35 (x : Array Nat) (s last pos hd : Nat) (oc : Bool) (mk : Array (Option Nat)) (lm li : Int) (fs : List Sre.Frame) (sn : Seen) : M.step (St x s last oc 35 pos hd mk lm li fs none sn) = if pos ≥ x.size then St x s last oc 35 pos hd mk lm li fs (some false) (sn.add 13) else
    match accepts C 35 (x.getD pos 0) (sn.add 13) with | .error why => M.stick { St x s last oc 35 pos hd mk lm li fs none sn with seen := sn.add 13 } why | .ok (true, sn') => St x s last oc 42 (pos + 1) hd mk lm li fs none sn' | .ok (false, sn') => St x s last oc 35 pos hd mk lm li fs (some false) sn' := by kernel_rfl
/-- a repeated item: as often as may be, then the sign behind it -/
structure Rep (pc pl most : Nat) (ok : Nat → Bool) : Prop where
  takes : Takes (pc + 4) ok
  go : ∀ (x : Array Nat) (s last pos hd : Nat) (oc o3 : Bool) (mk : Array (Option Nat)) (al q r : Nat) (o2 : Bool) (sn : Seen), M.step (St x s last oc pc pos hd mk 0 (-1) [F1 al q o2, F0 r o3] none sn) =
    if (1 : Int) > (x.size : Int) - pos then St x s last oc pc pos hd mk 0 (-1) [F1 al q o2, F0 r o3] (some false) (sn.add 24) else
    match run C x (pc + 4) (min most ((x.size : Int) - pos).toNat) pos 0 ((sn.add 24).add (C.getD (pc + 4) 0)) with
    | .error why => M.stick { St x s last oc pc pos hd mk 0 (-1) [F1 al q o2, F0 r o3] none sn with seen := sn.add 24 } why
    | .ok (n, sn') => if n < 1 then St x s last oc pc pos hd mk 0 (-1) [F1 al q o2, F0 r o3] (some false) sn' else St x s last oc pl (pos + n) (pos + n) mk 0 (-1) [F2 pc (pos + n) n oc, F1 al q o2, F0 r o3] none sn'
  back : ∀ (x : Array Nat) (s last pos hd : Nat) (oc o3 : Bool) (mk : Array (Option Nat)) (al q r p k pc' : Nat) (o2 o4 : Bool) (lm li : Int) (sn : Seen), M.step (St x s last oc pc' pos hd mk lm li [F2 pc (p + 1) (k + 1) o4, F1 al q o2, F0 r o3] (some false) sn) =
    if ((k + 1 : Nat) : Int) - 1 < (1 : Nat) then St x s last o4 pc (p + 1) hd mk 0 (-1) [F1 al q o2, F0 r o3] (some false) sn else St x s last o4 pl p p mk 0 (-1) [{ F2 pc p k o4 with count := ((k + 1 : Nat) : Int) - 1 }, F1 al q o2, F0 r o3] none sn
theorem rep17 : Rep 17 28 7 digd := ⟨takes21, fun _ _ _ _ _ _ _ _ _ _ _ _ _ => by kernel_rfl, fun _ _ _ _ _ _ _ _ _ _ _ _ _ _ _ _ _ _ _ => by kernel_rfl⟩
theorem rep42 : Rep 42 59 4294967295 hexd := ⟨takes46, fun _ _ _ _ _ _ _ _ _ _ _ _ _ => by kernel_rfl, fun _ _ _ _ _ _ _ _ _ _ _ _ _ _ _ _ _ _ _ => by kernel_rfl⟩
theorem rep64 : Rep 64 82 32 otherd := ⟨takes68, fun _ _ _ _ _ _ _ _ _ _ _ _ _ => by kernel_rfl, fun _ _ _ _ _ _ _ _ _ _ _ _ _ _ _ _ _ _ _ => by kernel_rfl⟩
end Mine
end PartR0
section PartR1
open PySem PySem.Sre
namespace Mine
def it : Nat → M → M
  | 0, m => m
  | n + 1, m => it n m.step
theorem it_add : ∀ (a b : Nat) (m : M), it (a + b) m = it b (it a m)
  | 0, b, m => by rw [Nat.zero_add]; rfl
  | a + 1, b, m => by rw [Nat.add_right_comm]; exact it_add a b m.step
def Reach (n : Nat) (m m' : M) : Prop := ∃ k, k ≤ n ∧ it k m = m'
theorem Reach.refl (n : Nat) (m : M) : Reach n m m := ⟨0, Nat.zero_le _, rfl⟩
theorem Reach.trans {a b : Nat} {m m' m'' : M} (h : Reach a m m') (h' : Reach b m' m'') : Reach (a + b) m m'' := by
  obtain ⟨k, hk, rfl⟩ := h
  obtain ⟨j, hj, rfl⟩ := h'
  exact ⟨k + j, by omega, it_add k j m⟩
theorem Reach.step {b : Nat} {m m' m'' : M} (h : m.step = m') (h' : Reach b m' m'') : Reach (b + 1) m m'' := by
  obtain ⟨j, hj, rfl⟩ := h'
  exact ⟨j + 1, by omega, by subst h; rfl⟩
theorem Reach.le {a b : Nat} {m m' : M} (h : Reach a m m') (hab : a ≤ b) : Reach b m m' := by
  obtain ⟨k, hk, e⟩ := h
  exact ⟨k, by omega, e⟩
theorem run_eq {x : Array Nat} {i : Nat} {ok : Nat → Bool} (T : Takes i ok) : ∀ (n p found : Nat) (sn : Seen), p + n ≤ x.size → ∃ sn', Sre.run C x i n p found sn = .ok (found + (((x.toList.drop p).take n).takeWhile ok).length, sn')
  | 0, p, found, sn, _ => ⟨sn, by simp [Sre.run]⟩
  | n + 1, p, found, sn, h => by
    obtain ⟨sn1, e⟩ := T (x.getD p 0) sn
    have hp : p < x.toList.length := by simp; omega
    have hd : x.getD p 0 = x.toList[p] := by simp [Array.getD, show p < x.size by omega]
    rw [List.drop_eq_getElem_cons hp, List.take_succ_cons, ← hd]
    unfold Sre.run
    rw [e]
    simp only [Except.bind, bind]
    cases hok : ok (x.getD p 0)
    · refine ⟨sn1, ?_⟩
      rw [List.takeWhile_cons, hok]
      simp; rfl
    · obtain ⟨sn2, e2⟩ := run_eq (x := x) T n (p + 1) (found + 1) sn1 (by omega)
      refine ⟨sn2, ?_⟩
      rw [List.takeWhile_cons, hok]
      simp only [if_true, List.length_cons]
      rw [e2]
      refine congrArg (fun z => Except.ok (z, sn2)) ?_
      omega
theorem takeWhile_take (ok : Nat → Bool) : ∀ (l : List Nat) (n : Nat), ((l.take n).takeWhile ok).length = min n (l.takeWhile ok).length
  | [], n => by simp
  | c :: l, 0 => by simp
  | c :: l, n + 1 => by
    rw [List.take_succ_cons, List.takeWhile_cons, List.takeWhile_cons]
    cases ok c
    · simp
    · simp only [if_true, List.length_cons, takeWhile_take ok l n]; omega
theorem run_of {x : Array Nat} {i most p : Nat} {ok : Nat → Bool} (T : Takes i ok) (sn : Seen) (hp : p ≤ x.size) : ∃ sn', Sre.run C x i (min most ((x.size : Int) - p).toNat) p 0 sn = .ok (runOf ok most (x.toList.drop p), sn') := by
  obtain ⟨sn', e⟩ := run_eq (x := x) T (min most ((x.size : Int) - p).toNat) p 0 sn (by omega)
  refine ⟨sn', ?_⟩
  rw [e, takeWhile_take]
  have h : ((x.toList.drop p).takeWhile ok).length ≤ x.size - p := by
    have := (List.takeWhile_sublist ok (l := x.toList.drop p)).length_le
    simpa using this
  unfold runOf
  congr 2; omega
def FailAt (x : Array Nat) (s last : Nat) (mk : Array (Option Nat)) (fs : List Sre.Frame) (m : M) : Prop := ∃ oc pc pos hd lm li sn, m = St x s last oc pc pos hd mk lm li fs (some false) sn
def WinAt (x : Array Nat) (s last : Nat) (mk : Array (Option Nat)) (hd : Nat) (m : M) : Prop := ∃ oc pc pos sn, m = St x s last oc pc pos hd mk 1 1 [] (some true) sn
theorem tw_at {ok : Nat → Bool} : ∀ (l : List Nat) (j : Nat), j < (l.takeWhile ok).length → ∃ c, l[j]? = some c ∧ ok c = true
  | [], j, h => by simp at h
  | c :: l, j, h => by
    rw [List.takeWhile_cons] at h
    cases hc : ok c
    · rw [hc] at h; simp at h
    · rw [hc] at h
      cases j with
      | zero => exact ⟨c, rfl, hc⟩
      | succ j => simpa using tw_at l j (by simpa using h)
theorem taken_iff {ok : Nat → Bool} {most : Nat} {l : List Nat} (j : Nat) (hj : j < runOf ok most l) : ∃ c, l[j]? = some c ∧ ok c = true :=
  tw_at l j (by unfold runOf at hj; omega)
section
variable {x : Array Nat} {s last p hd pc pl pj most al q r : Nat} {ok : Nat → Bool} {oc o2 o3 : Bool} {mk : Array (Option Nat)} {sn : Seen}
theorem lit_no {d nx pos : Nat} {lm li : Int} {fs : List Sre.Frame} (L : Lit pc d nx) (h : x[pos]? ≠ some d) : ∃ m', Reach 1 (St x s last oc pc pos hd mk lm li fs none sn) m' ∧ FailAt x s last mk fs m' := by
  refine ⟨_, ⟨1, Nat.le_refl _, rfl⟩, ?_⟩
  show FailAt x s last mk fs (M.step (St x s last oc pc pos hd mk lm li fs none sn))
  rw [L]
  split
  · exact ⟨_, _, _, _, _, _, _, rfl⟩
  · rename_i hp
    have hlt : pos < x.size := by omega
    have : (x.getD pos 0 == d) = false := by
      rw [beq_eq_false_iff_ne]
      intro e
      apply h
      rw [← e, Array.getElem?_eq_getElem hlt]
      simp [Array.getD, hlt]
    rw [this]
    exact ⟨_, _, _, _, _, _, _, rfl⟩
theorem lit_yes {d nx pos : Nat} {lm li : Int} {fs : List Sre.Frame} (L : Lit pc d nx) (h : x[pos]? = some d) : M.step (St x s last oc pc pos hd mk lm li fs none sn) = St x s last oc nx (pos + 1) hd mk lm li fs none (sn.add 16) := by
  obtain ⟨hlt, e⟩ := Array.getElem?_eq_some_iff.mp h
  rw [L, if_neg (by omega)]
  have : (x.getD pos 0 == d) = true := by
    rw [beq_iff_eq]; simp [Array.getD, hlt, e]
  rw [this]
theorem back_loop (R : Rep pc pl most ok) (L : Lit pl 59 pj) : ∀ (j : Nat) (sn : Seen) (hd : Nat) (oc : Bool), (∀ i, i < j → x[p + (i + 1)]? ≠ some 59) → 1 ≤ j →
    ∃ m', Reach (2 * j) (St x s last oc pl (p + j) hd mk 0 (-1) [F2 pc (p + j) j oc, F1 al q o2, F0 r o3] none sn) m' ∧ FailAt x s last mk [F1 al q o2, F0 r o3] m'
  | 0, _, _, _, _, h => by omega
  | j + 1, sn, hd, oc, hx, _ => by
    obtain ⟨m1, h1, oc1, pc1, pos1, hd1, lm1, li1, sn1, rfl⟩ := lit_no (x := x) (s := s) (last := last) (pos := p + (j + 1)) (hd := hd) (mk := mk) (sn := sn) (oc := oc) (lm := 0) (li := -1) (fs := [F2 pc (p + (j + 1)) (j + 1) oc, F1 al q o2, F0 r o3]) L (hx j (by omega))
    have hb := R.back x s last pos1 hd1 oc1 o3 mk al q r (p + j) j pc1 o2 oc lm1 li1 sn1
    by_cases hj : j = 0
    · subst hj
      rw [if_pos (by omega)] at hb
      refine ⟨_, (h1.trans (Reach.step hb (Reach.refl 0 _))).le (by omega), ⟨_, _, _, _, _, _, _, rfl⟩⟩
    · rw [if_neg (by omega)] at hb
      have e : ({ F2 pc (p + j) j oc with count := ((j + 1 : Nat) : Int) - 1 } : Sre.Frame) = F2 pc (p + j) j oc := by
        have : ((j + 1 : Nat) : Int) - 1 = (j : Int) := by omega
        rw [this]; rfl
      rw [e] at hb
      obtain ⟨m2, h2, f2⟩ := back_loop R L j sn1 (p + j) oc (fun i hi => hx i (by omega)) (by omega)
      exact ⟨m2, (h1.trans (Reach.step hb h2)).le (by omega), f2⟩
theorem rep_none (R : Rep pc pl most ok) (L : Lit pl 59 pj) (h59 : ok 59 = false) (hp : p ≤ x.size) (hn : takenBy ok most (x.toList.drop p) = none) :
    ∃ m', Reach (2 * x.size + 3) (St x s last oc pc p hd mk 0 (-1) [F1 al q o2, F0 r o3] none sn) m' ∧ FailAt x s last mk [F1 al q o2, F0 r o3] m' := by
  have hg := R.go x s last p hd oc o3 mk al q r o2 sn
  by_cases hroom : (1 : Int) > (x.size : Int) - p
  · rw [if_pos hroom] at hg
    exact ⟨_, (Reach.step hg (Reach.refl 0 _)).le (by omega), ⟨_, _, _, _, _, _, _, rfl⟩⟩
  · rw [if_neg hroom] at hg
    obtain ⟨sn', hr⟩ := run_of (x := x) (most := most) (p := p) R.takes ((sn.add 24).add (C.getD (pc + 4) 0)) hp
    rw [hr] at hg
    dsimp only at hg
    have hle : runOf ok most (x.toList.drop p) ≤ x.size - p := by
      have := (List.takeWhile_sublist ok (l := x.toList.drop p)).length_le
      unfold runOf
      simp at this; omega
    by_cases h1 : runOf ok most (x.toList.drop p) < 1
    · rw [if_pos h1] at hg
      exact ⟨_, (Reach.step hg (Reach.refl 0 _)).le (by omega), ⟨_, _, _, _, _, _, _, rfl⟩⟩
    · rw [if_neg h1] at hg
      have hnx : ∀ i, i < runOf ok most (x.toList.drop p) → x[p + (i + 1)]? ≠ some 59 := by
        intro i hi hx
        have hx' : (x.toList.drop p)[i + 1]? = some 59 := by
          rw [List.getElem?_drop, Array.getElem?_toList]; exact hx
        by_cases hil : i + 1 < runOf ok most (x.toList.drop p)
        · obtain ⟨c, hc, hok⟩ := taken_iff (i + 1) hil
          rw [hx'] at hc
          cases hc
          rw [h59] at hok; cases hok
        · have : i + 1 = runOf ok most (x.toList.drop p) := by omega
          unfold takenBy at hn
          rw [if_pos ⟨by omega, by rw [← this]; exact hx'⟩] at hn
          cases hn
      obtain ⟨m', h2, f2⟩ := back_loop (x := x) (s := s) (last := last) (p := p) (mk := mk) (al := al) (q := q) (r := r) (o2 := o2) (o3 := o3) R L (runOf ok most (x.toList.drop p)) sn' (p + runOf ok most (x.toList.drop p)) oc hnx (by omega)
      exact ⟨m', (Reach.step hg h2).le (by omega), f2⟩
theorem rep_some {k : Nat} {b : Option Nat} (R : Rep pc pl most ok) (L : Lit pl 59 pj) (J : Jmp pj) (hp : p ≤ x.size) (hs : takenBy ok most (x.toList.drop p) = some k) :
    ∃ m', Reach 9 (St x s last oc pc p hd #[b, none] 0 (-1) [F1 al q o2, F0 r o3] none sn) m' ∧ WinAt x s last #[b, some (p + k)] (p + k) m' := by
  have hg := R.go x s last p hd oc o3 #[b, none] al q r o2 sn
  obtain ⟨sn', hr⟩ := run_of (x := x) (most := most) (p := p) R.takes ((sn.add 24).add (C.getD (pc + 4) 0)) hp
  unfold takenBy at hs
  split at hs
  · rename_i h
    injection hs with hs
    have hx : x[p + runOf ok most (x.toList.drop p)]? = some 59 := by
      have := h.2
      rw [List.getElem?_drop, Array.getElem?_toList] at this; exact this
    have hlt := (Array.getElem?_eq_some_iff.mp hx).1
    rw [if_neg (by omega), hr] at hg
    dsimp only at hg
    rw [if_neg (by omega)] at hg
    have h2 := lit_yes (s := s) (last := last) (oc := oc) (hd := p + runOf ok most (x.toList.drop p)) (mk := #[b, none]) (lm := 0) (li := -1) (fs := [F2 pc (p + runOf ok most (x.toList.drop p)) (runOf ok most (x.toList.drop p)) oc, F1 al q o2, F0 r o3]) (sn := sn') L hx
    have e : p + runOf ok most (x.toList.drop p) + 1 = p + k := by omega
    rw [e] at h2
    refine ⟨_, Reach.step hg (Reach.step h2 (Reach.step (J _ _ _ _ _ _ _ _ _ _ _) (Reach.step (mark1 _ _ _ _ _ _ _ _ _) (Reach.step (succ89 _ _ _ _ _ _ _ _ _ _ _) (Reach.step (yes2 _ _ _ _ _ _ _ _ _ _ _ _ _ _ _ _) (Reach.step (yes1 _ _ _ _ _ _ _ _ _ _ _ _ _ _ _) (Reach.step (yes0 _ _ _ _ _ _ _ _ _ _ _ _ _ _) (Reach.refl 1 _)))))))), ⟨_, _, _, _, rfl⟩⟩
  · cases hs
end
end Mine
end PartR1
section PartR2
open PySem PySem.Sre
namespace Mine
/-- a whole reference: how many signs behind the & -/
def atL : List Nat → Option Nat
  | 38 :: r => matL r
  | _ => none
theorem takenBy_nil (ok : Nat → Bool) (most : Nat) : takenBy ok most [] = none := by
  unfold takenBy runOf; simp
theorem takenBy_first {ok : Nat → Bool} {most c : Nat} {r : List Nat} (h : ok c = false) : takenBy ok most (c :: r) = none := by
  unfold takenBy runOf
  rw [List.takeWhile_cons, h]; simp
section
variable {x : Array Nat} {s last p hd : Nat} {oc : Bool} {sn : Seen}
theorem getD_at {p c : Nat} {r : List Nat} (h : x.toList.drop p = c :: r) : x[p]? = some c ∧ x.toList.drop (p + 1) = r ∧ p < x.size := by
  have h1 : p < x.toList.length := by
    rcases Nat.lt_or_ge p x.toList.length with h1 | h1
    · exact h1
    · rw [List.drop_eq_nil_of_le h1] at h; cases h
  rw [List.drop_eq_getElem_cons h1] at h
  injection h with h2 h3
  refine ⟨?_, h3, by simpa using h1⟩
  rw [← h2]; simp
theorem no_at {p : Nat} {d : Nat} (h : ∀ r, x.toList.drop p ≠ d :: r) : x[p]? ≠ some d := by
  intro e
  obtain ⟨h1, h2⟩ := Array.getElem?_eq_some_iff.mp e
  exact h _ (by rw [List.drop_eq_getElem_cons (by simpa using h1)]; simp [h2]; rfl)
/-- the alternatives, from the first -/
theorem alts (hp : p ≤ x.size) {b : Option Nat} {q : Nat} {o3 : Bool} :
    ∃ m', Reach (6 * x.size + 50) (St x s last oc 15 p hd #[b, none] 0 (-1) [F1 14 p oc, F0 q o3] none sn) m' ∧
      match matL (x.toList.drop p) with
      | some k => WinAt x s last #[b, some (p + k)] (p + k) m'
      | none => FailAt x s last #[b, none] [F0 q o3] m' := by
  by_cases hsh : ∃ r, x.toList.drop p = 35 :: r
  · obtain ⟨r, hr⟩ := hsh
    obtain ⟨hx, hdr, hlt⟩ := getD_at hr
    have l15 := lit_yes (s := s) (last := last) (oc := oc) (hd := hd) (mk := #[b, none]) (lm := 0) (li := -1) (fs := [F1 14 p oc, F0 q o3]) (sn := sn) lit15 hx
    rw [hr]
    show ∃ m', _ ∧ match (match takenBy digd 7 r with
      | some k => some (k + 1)
      | none => (match r with
        | x :: h => if x == 120 || x == 88 then (takenBy hexd 4294967295 h).map (· + 2) else none
        | [] => none)) with
      | some k => WinAt x s last #[b, some (p + k)] (p + k) m'
      | none => FailAt x s last #[b, none] [F0 q o3] m'
    cases h1 : takenBy digd 7 r with
    | some k =>
      obtain ⟨m', hr', hw⟩ := rep_some (x := x) (s := s) (last := last) (p := p + 1) (hd := hd) (oc := oc) (al := 14) (q := p) (r := q) (o2 := oc) (o3 := o3) (sn := sn.add 16) (b := b) rep17 lit28 jmp30 (by omega) (by rw [hdr]; exact h1)
      refine ⟨m', (Reach.step l15 hr').le (by omega), ?_⟩
      have e : p + 1 + k = p + (k + 1) := by omega
      rw [e] at hw
      exact hw
    | none =>
      obtain ⟨m1, hr1, oc1, pc1, pos1, hd1, lm1, li1, sn1, rfl⟩ := rep_none (x := x) (s := s) (last := last) (p := p + 1) (hd := hd) (oc := oc) (mk := #[b, none]) (al := 14) (q := p) (r := q) (o2 := oc) (o3 := o3) (sn := sn.add 16) rep17 lit28 (by decide) (by omega) (by rw [hdr]; exact h1)
      have n14 := no14 x s last pos1 hd1 oc1 #[b, none] lm1 li1 sn1 pc1 p q oc o3
      have l33 := lit_yes (s := s) (last := last) (oc := oc) (hd := p) (mk := #[b, none]) (lm := 0) (li := -1) (fs := [F1 32 p oc, F0 q o3]) (sn := sn1) lit33 hx
      -- the third alternative, which a # shuts
      have third : ∀ (oc2 : Bool) (pc2 pos2 hd2 : Nat) (lm2 li2 : Int) (sn2 : Seen), ∃ m', Reach (2 * x.size + 10) (St x s last oc2 pc2 pos2 hd2 #[b, none] lm2 li2 [F1 32 p oc, F0 q o3] (some false) sn2) m' ∧ FailAt x s last #[b, none] [F0 q o3] m' := by
        intro oc2 pc2 pos2 hd2 lm2 li2 sn2
        obtain ⟨m3, hr3, oc3, pc3, pos3, hd3, lm3, li3, sn3, rfl⟩ := rep_none (x := x) (s := s) (last := last) (p := p) (hd := p) (oc := oc) (mk := #[b, none]) (al := 63) (q := p) (r := q) (o2 := oc) (o3 := o3) (sn := sn2) rep64 lit82 (by decide) hp (by rw [hr]; exact takenBy_first (by decide))
        refine ⟨_, (Reach.step (no32 x s last pos2 hd2 oc2 #[b, none] lm2 li2 sn2 pc2 p q oc o3) (hr3.trans (Reach.step (no63 x s last pos3 hd3 oc3 #[b, none] lm3 li3 sn3 pc3 p q oc o3) (Reach.refl 0 _)))).le (by omega), ⟨_, _, _, _, _, _, _, rfl⟩⟩
      -- the second: x or X, figures
      have i35 := in35 x s last (p + 1) p oc #[b, none] 0 (-1) [F1 32 p oc, F0 q o3] (sn1.add 16)
      cases r with
      | nil =>
        have hsz : x.size ≤ p + 1 := by
          have := congrArg List.length hdr
          simp at this; omega
        rw [if_pos hsz] at i35
        obtain ⟨m', h3, f3⟩ := third oc 35 (p + 1) p 0 (-1) ((sn1.add 16).add 13)
        exact ⟨m', (Reach.step l15 (hr1.trans (Reach.step n14 (Reach.step l33 (Reach.step i35 h3))))).le (by omega), f3⟩
      | cons c h =>
        obtain ⟨hx1, hdr1, hlt1⟩ := getD_at hdr
        have hge : x.getD (p + 1) 0 = c := by
          obtain ⟨g1, g2⟩ := Array.getElem?_eq_some_iff.mp hx1
          simp [Array.getD, g1, g2]
        obtain ⟨sn2, hac⟩ := takes35 c ((sn1.add 16).add 13)
        rw [if_neg (by omega), hge, hac] at i35
        dsimp only at i35
        cases hxX : (c == 120 || c == 88) with
        | false =>
          rw [hxX] at i35
          obtain ⟨m', h3, f3⟩ := third oc 35 (p + 1) p 0 (-1) sn2
          refine ⟨m', (Reach.step l15 (hr1.trans (Reach.step n14 (Reach.step l33 (Reach.step i35 h3))))).le (by omega), ?_⟩
          simp only [hxX, Bool.false_eq_true, if_false]
          exact f3
        | true =>
          rw [hxX] at i35
          cases h2 : takenBy hexd 4294967295 h with
          | some k =>
            obtain ⟨m', hr', hw⟩ := rep_some (x := x) (s := s) (last := last) (p := p + 1 + 1) (hd := p) (oc := oc) (al := 32) (q := p) (r := q) (o2 := oc) (o3 := o3) (sn := sn2) (b := b) rep42 lit59 jmp61 (by omega) (by rw [hdr1]; exact h2)
            refine ⟨m', (Reach.step l15 (hr1.trans (Reach.step n14 (Reach.step l33 (Reach.step i35 hr'))))).le (by omega), ?_⟩
            have e : p + 1 + 1 + k = p + (k + 2) := by omega
            rw [e] at hw
            simp only [hxX, if_true, h2, Option.map_some]
            exact hw
          | none =>
            obtain ⟨m4, hr4, oc4, pc4, pos4, hd4, lm4, li4, sn4, rfl⟩ := rep_none (x := x) (s := s) (last := last) (p := p + 1 + 1) (hd := p) (oc := oc) (mk := #[b, none]) (al := 32) (q := p) (r := q) (o2 := oc) (o3 := o3) (sn := sn2) rep42 lit59 (by decide) (by omega) (by rw [hdr1]; exact h2)
            obtain ⟨m', h3, f3⟩ := third oc4 pc4 pos4 hd4 lm4 li4 sn4
            refine ⟨m', (Reach.step l15 (hr1.trans (Reach.step n14 (Reach.step l33 (Reach.step i35 (hr4.trans h3)))))).le (by omega), ?_⟩
            simp only [hxX, if_true, h2, Option.map_none]
            exact f3
  · have hne : ∀ r, x.toList.drop p ≠ 35 :: r := fun r e => hsh ⟨r, e⟩
    have hmat : matL (x.toList.drop p) = takenBy otherd 32 (x.toList.drop p) := by
      generalize x.toList.drop p = l at hne
      unfold matL
      split
      · exact absurd rfl (hne _)
      · rfl
    rw [hmat]
    obtain ⟨m1, h1, oc1, pc1, pos1, hd1, lm1, li1, sn1, rfl⟩ := lit_no (x := x) (s := s) (last := last) (pos := p) (hd := hd) (mk := #[b, none]) (sn := sn) (oc := oc) (lm := 0) (li := -1) (fs := [F1 14 p oc, F0 q o3]) lit15 (no_at hne)
    have n14 := no14 x s last pos1 hd1 oc1 #[b, none] lm1 li1 sn1 pc1 p q oc o3
    obtain ⟨m2, h2, oc2, pc2, pos2, hd2, lm2, li2, sn2, rfl⟩ := lit_no (x := x) (s := s) (last := last) (pos := p) (hd := p) (mk := #[b, none]) (sn := sn1) (oc := oc) (lm := 0) (li := -1) (fs := [F1 32 p oc, F0 q o3]) lit33 (no_at hne)
    have n32 := no32 x s last pos2 hd2 oc2 #[b, none] lm2 li2 sn2 pc2 p q oc o3
    cases h3 : takenBy otherd 32 (x.toList.drop p) with
    | some k =>
      obtain ⟨m', hr', hw⟩ := rep_some (x := x) (s := s) (last := last) (p := p) (hd := p) (oc := oc) (al := 63) (q := p) (r := q) (o2 := oc) (o3 := o3) (sn := sn2) (b := b) rep64 lit82 jmp84 hp h3
      exact ⟨m', (h1.trans (Reach.step n14 (h2.trans (Reach.step n32 hr')))).le (by omega), hw⟩
    | none =>
      obtain ⟨m3, hr3, oc3, pc3, pos3, hd3, lm3, li3, sn3, rfl⟩ := rep_none (x := x) (s := s) (last := last) (p := p) (hd := p) (oc := oc) (mk := #[b, none]) (al := 63) (q := p) (r := q) (o2 := oc) (o3 := o3) (sn := sn2) rep64 lit82 (by decide) hp h3
      exact ⟨_, (h1.trans (Reach.step n14 (h2.trans (Reach.step n32 (hr3.trans (Reach.step (no63 x s last pos3 hd3 oc3 #[b, none] lm3 li3 sn3 pc3 p q oc o3) (Reach.refl 0 _))))))).le (by omega), ⟨_, _, _, _, _, _, _, rfl⟩⟩
end
end Mine
end PartR2
section PartR3
open PySem PySem.Sre
namespace Mine
section
variable {x : Array Nat} {s last p hd : Nat} {oc : Bool} {sn : Seen}
theorem attempt1 (hs : s ≤ x.size) {a : Option Nat} :
    ∃ m', Reach (6 * x.size + 60) (St x s last oc 9 s hd #[a, none] (-1) (-1) [F0 s oc] none sn) m' ∧
      match atL (x.toList.drop s) with
      | some k => WinAt x s last #[some (s + 1), some (s + 1 + k)] (s + 1 + k) m'
      | none => ∃ a', FailAt x s last #[a', none] [F0 s oc] m' := by
  by_cases hamp : ∃ r, x.toList.drop s = 38 :: r
  · obtain ⟨r, hr⟩ := hamp
    obtain ⟨hx, hdr, hlt⟩ := getD_at hr
    have l9 := lit_yes (s := s) (last := last) (oc := oc) (hd := hd) (mk := #[a, none]) (lm := -1) (li := -1) (fs := [F0 s oc]) (sn := sn) lit9 hx
    obtain ⟨m', hr', hw⟩ := alts (x := x) (s := s) (last := last) (p := s + 1) (hd := s + 1) (oc := oc) (sn := ((sn.add 16).add 17).add 7) (by omega) (b := some (s + 1)) (q := s) (o3 := oc)
    refine ⟨m', (Reach.step l9 (Reach.step (mark0 x s last (s + 1) hd oc a [F0 s oc] (sn.add 16)) (Reach.step (bran13 x s last (s + 1) hd oc #[some (s + 1), none] ((sn.add 16).add 17) s oc) hr'))).le (by omega), ?_⟩
    rw [hr]
    rw [hdr] at hw
    show match matL r with
      | some k => WinAt x s last #[some (s + 1), some (s + 1 + k)] (s + 1 + k) m'
      | none => ∃ a', FailAt x s last #[a', none] [F0 s oc] m'
    cases h : matL r with
    | some k => rw [h] at hw; exact hw
    | none => rw [h] at hw; exact ⟨_, hw⟩
  · have hne : ∀ r, x.toList.drop s ≠ 38 :: r := fun r e => hamp ⟨r, e⟩
    have hat : atL (x.toList.drop s) = none := by
      generalize x.toList.drop s = l at hne
      unfold atL
      split
      · exact absurd rfl (hne _)
      · rfl
    rw [hat]
    obtain ⟨m1, h1, f1⟩ := lit_no (x := x) (s := s) (last := last) (pos := s) (hd := hd) (mk := #[a, none]) (sn := sn) (oc := oc) (lm := -1) (li := -1) (fs := [F0 s oc]) lit9 (no_at hne)
    exact ⟨m1, h1.le (by omega), _, f1⟩
/-- from a place on: where the first one stands, how far it goes -/
def seekL (x : Array Nat) : Nat → Nat → Option (Nat × Nat)
  | 0, _ => none
  | n + 1, s => match atL (x.toList.drop s) with
    | some k => some (s, s + 1 + k)
    | none => seekL x n (s + 1)
theorem search (hl : last = x.size) : ∀ (n s : Nat) (oc : Bool) (hd : Nat) (a : Option Nat) (sn : Seen), s + n = x.size → 
    ∃ m', Reach ((6 * x.size + 62) * (n + 1)) (St x s last oc 9 s hd #[a, none] (-1) (-1) [F0 s oc] none sn) m' ∧
      match seekL x (n + 1) s with
      | some (b, e) => WinAt x b last #[some (b + 1), some e] e m'
      | none => ∃ s' a', FailAt x s' last #[a', none] [] m'
  | 0, s, oc, hd, a, sn, hs => by
    obtain ⟨m1, h1, w1⟩ := attempt1 (x := x) (s := s) (last := last) (hd := hd) (oc := oc) (sn := sn) (a := a) (by omega)
    unfold seekL
    cases h : atL (x.toList.drop s) with
    | some k => rw [h] at w1; exact ⟨m1, h1.le (by omega), w1⟩
    | none =>
      rw [h] at w1
      obtain ⟨a', oc1, pc1, pos1, hd1, lm1, li1, sn1, rfl⟩ := w1
      have n0 := no0 x s last pos1 hd1 oc1 #[a', none] lm1 li1 sn1 pc1 s oc
      rw [if_neg (by omega)] at n0
      exact ⟨_, (h1.trans (Reach.step n0 (Reach.refl 0 _))).le (by omega), s, a', _, _, _, _, _, _, _, rfl⟩
  | n + 1, s, oc, hd, a, sn, hs => by
    obtain ⟨m1, h1, w1⟩ := attempt1 (x := x) (s := s) (last := last) (hd := hd) (oc := oc) (sn := sn) (a := a) (by omega)
    have hB : (6 * x.size + 62) * (n + 1 + 1) = (6 * x.size + 62) * (n + 1) + (6 * x.size + 62) := Nat.mul_succ _ _
    unfold seekL
    cases h : atL (x.toList.drop s) with
    | some k => rw [h] at w1; exact ⟨m1, h1.le (by omega), w1⟩
    | none =>
      rw [h] at w1
      obtain ⟨a', oc1, pc1, pos1, hd1, lm1, li1, sn1, rfl⟩ := w1
      have n0 := no0 x s last pos1 hd1 oc1 #[a', none] lm1 li1 sn1 pc1 s oc
      rw [if_pos (by omega)] at n0
      obtain ⟨m2, h2, w2⟩ := search hl n (s + 1) false (s + 1) a' sn1 (by omega)
      refine ⟨m2, (h1.trans (Reach.step n0 ?_)).le (show 6 * x.size + 60 + ((6 * x.size + 62) * (n + 1) + 1) ≤ _ by omega), w2⟩
      -- the start is told anew
      exact h2
end
end Mine
end PartR3
section PartR4
open PySem PySem.Sre PySem.W PySem.Builtin.Re
namespace Mine
theorem takenBy_le {ok : Nat → Bool} {most : Nat} {l : List Nat} {k : Nat} (h : takenBy ok most l = some k) : 2 ≤ k ∧ k ≤ l.length := by
  unfold takenBy at h
  split at h
  · rename_i h1
    injection h with h
    have := (List.getElem?_eq_some_iff.mp h1.2).1
    omega
  · cases h
theorem matL_le {l : List Nat} {k : Nat} (h : matL l = some k) : 2 ≤ k ∧ k ≤ l.length := by
  unfold matL at h
  split at h
  · rename_i r
    split at h
    · rename_i k1 h1
      injection h with h
      have := takenBy_le h1
      simp; omega
    · split at h
      · rename_i y t _
        split at h
        · cases h2 : takenBy hexd 4294967295 t with
          | none => rw [h2] at h; cases h
          | some k2 =>
            rw [h2] at h
            injection h with h
            dsimp only at h
            have := takenBy_le h2
            simp; omega
        · cases h
      · cases h
  · exact takenBy_le h
theorem atL_le {l : List Nat} {k : Nat} (h : atL l = some k) : 2 ≤ k ∧ k + 1 ≤ l.length := by
  unfold atL at h
  split at h
  · have := matL_le h
    simp; omega
  · cases h
theorem seekL_le {x : Array Nat} : ∀ {n s b e : Nat}, seekL x n s = some (b, e) → s ≤ b ∧ b + 3 ≤ e ∧ e ≤ x.size
  | 0, _, _, _, h => by cases h
  | n + 1, s, b, e, h => by
    unfold seekL at h
    split at h
    · rename_i k hk
      injection h with h
      injection h with h1 h2
      have := atL_le hk
      simp at this
      omega
    · have := seekL_le h
      omega
theorem it_stable {m : M} (h : m.outcome.isSome = true) : ∀ k, it k m = m
  | 0 => rfl
  | k + 1 => by
    have : m.step = m := by unfold M.step; rw [if_pos h]
    show it k m.step = m
    rw [this]; exact it_stable h k
theorem runFor_it : ∀ (n : Nat) (m : M), m.runFor n = it n m
  | 0, _ => rfl
  | n + 1, m => by
    unfold M.runFor
    split
    · rename_i h
      exact (it_stable h (n + 1)).symm
    · exact runFor_it n m.step
theorem it_same {m : M} {a b : Nat} (ha : (it a m).outcome.isSome = true) (hb : (it b m).outcome.isSome = true) : it a m = it b m := by
  rcases Nat.le_total a b with h | h
  · obtain ⟨d, rfl⟩ := Nat.exists_eq_add_of_le h
    rw [it_add, it_stable ha]
  · obtain ⟨d, rfl⟩ := Nat.exists_eq_add_of_le h
    rw [it_add, it_stable hb]
section
variable {Md : Model} {A : Around} {E : Value → Shared → Prop} {s : Shared}
theorem wp_drive : ∀ (turns : Nat) {m m' : M} {k : Nat} {Q : M → Shared → Prop}, it k m = m' → m'.outcome.isSome = true → k ≤ 4 * turns → 0 < turns → Q m' s → wpAny Md A (reDrive turns m) Q E s
  | 0, _, _, _, _, _, _, _, h, _ => by omega
  | t + 1, m, m', k, Q, hk, ho, hb, _, hq => by
    unfold reDrive
    simp only [runFor_it, reTurnSteps]
    by_cases h4 : (it 4 m).outcome.isSome = true
    · refine wpAny_ite_true (by rw [h4]; rfl) (wpAny_pure ?_)
      rw [it_same h4 (by rw [hk]; exact ho), hk]; exact hq
    · have hk4 : 4 ≤ k := by
        rcases Nat.lt_or_ge k 4 with h | h
        · exfalso
          apply h4
          obtain ⟨d, hd⟩ := Nat.exists_eq_add_of_le (Nat.le_of_lt h)
          rw [hd, it_add, hk, it_stable ho]; exact ho
        · exact h
      obtain ⟨d, rfl⟩ := Nat.exists_eq_add_of_le hk4
      rw [it_add] at hk
      refine wpAny_ite_false (decide_eq_false h4) (wpAny_bind (wpAny_rule ?_))
      by_cases ht : t = 0
      · subst ht
        have : d = 0 := by omega
        subst this
        exact absurd (by rw [show it 4 m = m' from hk]; exact ho) h4
      · exact wp_drive t hk ho (by omega) (by omega) hq
theorem wp_runToEnd {m m' : M} {n : Nat} {Q : Option M → Shared → Prop} (hr : Reach n m m') (hn : n ≤ 73786976294838206464) (ho : m'.outcome = some .matched ∧ Q (some m') s ∨ m'.outcome = some .failed ∧ Q none s) :
    wpAny Md A (reRunToEnd m) Q E s := by
  obtain ⟨k, hk, e⟩ := hr
  unfold reRunToEnd
  refine wpAny_bind (wp_drive (2 ^ 64) e ?_ (by omega) (by decide) ?_)
  · rcases ho with ⟨h, _⟩ | ⟨h, _⟩ <;> rw [h] <;> rfl
  · refine wpAny_bind (wpAny_forIn_list _ (fun _ _ s' => s' = s) _ (fun i rest b s' hs => ?_) (fun b s' hs => ?_) _ _ rfl)
    · subst hs
      split
      · exact wpAny_bind (wpAny_rule (wpAny_pure rfl))
      · exact wpAny_pure rfl
    · subst hs
      rcases ho with ⟨h, hq⟩ | ⟨h, hq⟩
      · rw [h]; exact wpAny_pure hq
      · rw [h]; exact wpAny_pure hq
/-- what a found one tells -/
structure Found (m : M) (b e : Nat) : Prop where
  start : m.start = b
  handed : m.handed = e
  marks : m.marks = #[some (b + 1), some e]
  lastmark : m.lastmark = 1
  lastindex : m.lastindex = 1
def seekFrom (x : Array Nat) (s : Nat) : Option (Nat × Nat) := seekL x (x.size - s + 1) s
theorem forSearch_eq (x : Array Nat) (pos : Nat) : forSearch C x 1 pos x.size false = if pos > x.size || x.size - pos < 3 then St x pos 0 true 9 pos pos #[none, none] (-1) (-1) [] (some false) (({} : Seen).add 14) else St x pos x.size true 9 pos pos #[none, none] (-1) (-1) [F0 pos true] none (({} : Seen).add 14) := by kernel_rfl
theorem wp_next {x : Array Nat} {pos : Nat} {Q : Option M → Shared → Prop} (hx : x.size ≤ 100000) (hp : pos ≤ x.size)
    (h : match seekFrom x pos with | some (b, e) => ∀ m, Found m b e → Q (some m) s | none => Q none s) : wpAny Md A (reRunToEnd (forSearch C x 1 pos x.size false)) Q E s := by
  rw [forSearch_eq]
  by_cases h3 : x.size - pos < 3
  · rw [if_pos (by simp [h3])]
    have hn : seekFrom x pos = none := by
      cases hq : seekFrom x pos with
      | none => rfl
      | some be =>
        have := seekL_le (b := be.1) (e := be.2) hq
        omega
    rw [hn] at h
    exact wp_runToEnd (n := 1) ⟨1, Nat.le_refl _, rfl⟩ (by decide) (.inr ⟨congrArg M.outcome (end_no x pos 0 pos pos true #[none, none] (-1) (-1) (({} : Seen).add 14) 9), h⟩)
  · rw [if_neg (by simp; omega)]
    obtain ⟨m', hr, w⟩ := search (x := x) (last := x.size) rfl (x.size - pos) pos true pos none (({} : Seen).add 14) (by omega)
    have hb : (6 * x.size + 62) * (x.size - pos + 1) ≤ 700000 * 100001 := Nat.mul_le_mul (by omega) (by omega)
    unfold seekFrom at h
    cases hq : seekL x (x.size - pos + 1) pos with
    | none =>
      rw [hq] at w h
      obtain ⟨s', a', oc, pc, p, hd, lm, li, sn, rfl⟩ := w
      exact wp_runToEnd (hr.trans (Reach.step rfl (Reach.refl 0 _))) (by omega) (.inr ⟨congrArg M.outcome (end_no x s' x.size p hd oc #[a', none] lm li sn pc), h⟩)
    | some be =>
      obtain ⟨b, e⟩ := be
      rw [hq] at w h
      obtain ⟨oc, pc, p, sn, rfl⟩ := w
      have hy := end_yes x b x.size p e oc #[some (b + 1), some e] 1 1 sn pc
      refine wp_runToEnd (hr.trans (Reach.step hy (Reach.refl 0 _))) (by omega) (.inl ⟨rfl, h _ ⟨rfl, rfl, rfl, rfl, rfl⟩⟩)
end
end Mine
end PartR4
section PartR5
open PySem PySem.W PyProof.Rows PySem.Calls PySem.Builtin PySem.Builtin.Re
namespace Mine
theorem plainAttrs_match : PlainAttrs "re.Match" :=
  ⟨⟨"object.__getattribute__", by rw [typeLookup_type, builtinLookup_eq_fast]; kernel_rfl, by decide +kernel⟩, by rw [typeLookup_type, builtinLookup_eq_fast]; kernel_rfl⟩
theorem plainAttrs_pattern : PlainAttrs "re.Pattern" :=
  ⟨⟨"object.__getattribute__", by rw [typeLookup_type, builtinLookup_eq_fast]; kernel_rfl, by decide +kernel⟩, by rw [typeLookup_type, builtinLookup_eq_fast]; kernel_rfl⟩
theorem slot_match_group : Slot "re.Match" "group" "re.Match.group" :=
  .of (owner := "re.Match") (n := "group") (by rw [typeLookup_type, builtinLookup_eq_fast]; kernel_rfl) (by decide +kernel) (by decide +kernel) (by decide +kernel)
    (by first | exact .inl (by decide +kernel) | exact .inr (by decide +kernel)) (by rw [isSubtype_type]; kernel_rfl)
theorem type_match_group : typeOf (.builtin "re.Match.group") = pure (.type "method_descriptor") := by show builtinType _ = _; rw [builtinType_eq_fast]; kernel_rfl
theorem entry_match_group : entryFor table "re.Match.group" = some Builtin.«re.Match.group» := entryFor_of_tree (by kernel_rfl)
theorem args_match_group_2 (a b : Value) : argsOk "re.Match.group" ⟨[a, b], []⟩ := by unfold argsOk; kernel_rfl
theorem slot_pattern_sub : Slot "re.Pattern" "sub" "re.Pattern.sub" :=
  .of (owner := "re.Pattern") (n := "sub") (by rw [typeLookup_type, builtinLookup_eq_fast]; kernel_rfl) (by decide +kernel) (by decide +kernel) (by decide +kernel)
    (by first | exact .inl (by decide +kernel) | exact .inr (by decide +kernel)) (by rw [isSubtype_type]; kernel_rfl)
theorem type_pattern_sub : typeOf (.builtin "re.Pattern.sub") = pure (.type "method_descriptor") := by show builtinType _ = _; rw [builtinType_eq_fast]; kernel_rfl
theorem entry_pattern_sub : entryFor table "re.Pattern.sub" = some Builtin.«re.Pattern.sub» := entryFor_of_tree (by kernel_rfl)
theorem args_pattern_sub_3 (a b c : Value) : argsOk "re.Pattern.sub" ⟨[a, b, c], []⟩ := by unfold argsOk; kernel_rfl
theorem entry_sub_loop : entryFor table "re.Pattern.sub.loop" = some Builtin.«re.Pattern.sub.loop» := entryFor_of_tree (by kernel_rfl)
theorem plain_sub_loop : plainId "re.Pattern.sub.loop" = true := by decide +kernel
/-- a match that stands -/
def IsMatch (h : Heap) (M : Addr) (x : Str) (t : Tok) (b e : Nat) : Prop := ∃ T pos lim li, h.get? M = some { cls := .type "re.Match", data := .fields #[.str x t, .ref 86, rawInt pos, rawInt lim, rawInt li, .ref T] } ∧
  h.get? T = some { cls := .type "tuple", data := .seq #[rawInt b, rawInt e, rawInt (b + 1 : Nat), rawInt e] }
section
variable {prog : Program} {w : World} {A : Around} {E : Value → Shared → Prop} {s : Shared} {M : Addr} {x : Str} {t : Tok} {b e : Nat}
theorem meth_group {Md : Model} {pl : Sem Bool} {Q : Value × List Value → Shared → Prop} (hm : IsMatch s.heap M x t b e) (h : Q (.builtin "re.Match.group", [.ref M]) s) : wpAny Md A (getMethod (.ref M) "group" pl) Q E s := by
  obtain ⟨T, pos, lim, li, h1, h2⟩ := hm
  exact getMethod_builtin (T := "re.Match") ⟨_, h1, rfl⟩ plainAttrs_match slot_match_group type_match_group (fun a ea => by cases ea; exact ⟨_, h1, rfl⟩) h
theorem call_group {u : Tok} {Q : Value → Shared → Prop} (hm : IsMatch s.heap M x t b e) (hbe : b + 1 ≤ e) (hz : e ≤ x.length) (hx : x.length ≤ 16777216) (h : ∀ t' k, Q (.str ⟨x.cps.extract (b + 1) e⟩ t') { s with toks := k }) :
    wpAny (model prog w) A (call (.builtin "re.Match.group") [.ref M, .int 1 u]) Q E s := by
  obtain ⟨T, pos, lim, li, h1, h2⟩ := hm
  refine wpAny_call (codeAny_call_builtin slot_match_group.plain entry_match_group (slot_match_group.check _ _ _ _ _ _ _ _ ⟨_, h1, rfl⟩ (args_match_group_2 _ _) ?_))
  unfold Builtin.«re.Match.group»
  refine wpAny_bind (wpAny_of_eq (rfl : noKeywords "Match.group" ⟨[.ref M, .int 1 u], []⟩ = pure ()) ?_)
  refine wpAny_bind ?_
  unfold reFound
  refine wpAny_bind (wpAny_fieldsOf h1 rfl ?_)
  refine wpAny_bind ?_
  unfold reRawItems
  refine wpAny_bind (wpAny_seqItems h2 rfl ?_)
  refine wpAny_pure ?_
  refine wpAny_pure ?_
  dsimp only
  refine wpAny_bind ?_
  unfold reGroupNumber
  refine wpAny_bind (wpAny_of_eq (rfl : asInt? (.int 1 u) = pure (some 1)) ?_)
  refine wpAny_ite_true rfl ?_
  refine wpAny_bind (wpAny_of_eq (show asIndex (.int 1 u) = pure (1 : Int) from rfl) ?_)
  refine wpAny_ite_false (by simp) ?_
  refine wpAny_pure ?_
  refine wpAny_bind ?_
  unfold reGroupText
  have q1 : ¬ (((b + 1 : Nat) : Int) < 0 || ((e : Nat) : Int) < 0) = true := by simp; omega
  have e1 : (Array.map reRawOf ((some #[rawInt (b : Int), rawInt (e : Int), rawInt ((b + 1 : Nat) : Int), rawInt (e : Int)]).getD #[])) = #[(b : Int), (e : Int), ((b + 1 : Nat) : Int), (e : Int)] := by simp [reRawOf, rawInt]
  rw [e1]
  refine wpAny_ite_false (decide_eq_false q1) ?_
  refine wpAny_bind (wpAny_of_eq (rfl : reTextOf (.str x t) = pure (x.cps, 0)) ?_)
  refine wpAny_mkStr ?_ ?_
  · refine wpAny_pure ?_
    exact h _ _
  · show (x.cps.extract (b + 1) e).size ≤ _
    rw [sizeLine_eq, Array.size_extract]
    show min e x.length - _ ≤ _
    omega
end
end Mine
end PartR5
section PartB1
open PySem PySem.W PyProof.Rows PySem.Calls
namespace Mine
/-- the contract of a def, the heap told by H -/
def ConH (w : World) (b : Bool) (d u : Nat) (f : Addr) (vs : List Value) (kw : List (Str × Value)) (H : Heap → Prop) (P : Value → Prop) : Prop :=
  ∀ (mean : ExcName → Option Value) (mg mb : Str → Option Value) (dp un : Nat) (gd : Option (List Code)) (cn : Str) (cs : Scope) (a : Addr) (ccd : Value) (cl : List (Str × Addr)) (outer : List Env) (A₀ : Around) (base h₀ : Heap) (L : Addr) (m : Str → Option Value) (s : Shared) (Q E : Value → Shared → Prop),
    H s.heap → Below A₀ base outer h₀ → Fr h₀ L s.heap m → (hd.heap_39 w.params).In h₀ → Top hd.view_39 LO mean mg mb h₀ → cs.kind = .function → dp + d < recursionLimit → un + u < cLine → (b = true → 0 < s.toks) →
    (∀ v h' tk', P v → (∀ b o, s.heap.get? b = some o → h'.get? b = some o) → s.toks ≤ tk' → Q v { s with heap := h', toks := tk' }) →
    wpAny (model PySem.Challenge.rw_ci0009_01.row.prog w) (ktrTop dp un gd cn cs L a ccd cl outer) (call (.ref f) vs kw) Q E s
theorem IsMatch.keep {h h' : Heap} {M : Addr} {x : Str} {t : Tok} {b e : Nat} (hm : IsMatch h M x t b e) (k : ∀ q o, h.get? q = some o → h'.get? q = some o) : IsMatch h' M x t b e := by
  obtain ⟨T, pos, lim, li, h1, h2⟩ := hm
  exact ⟨T, pos, lim, li, k _ _ h1, k _ _ h2⟩
theorem take_extract (l : List Nat) (b k : Nat) (h : b + 1 + k ≤ l.length) : (⟨(S l).cps.extract (b + 1) (b + 1 + k)⟩ : Str) = S ((l.drop (b + 1)).take k) := by
  apply Str.ext'
  show l.toArray.extract (b + 1) (b + 1 + k) = _
  rw [List.extract_toArray]
  simp [List.extract]
section
variable {prog : Program} {w : World} {A : Around} {E : Value → Shared → Prop} {s : Shared} {M : Addr} {t : Tok} {b k : Nat} {base : Heap} {L : Addr} {m : Str → Option Value}
theorem meth_groupF {Md : Model} {pl : Sem Bool} {l : List Nat} {Q : Value × List Value → Shared → Prop} (F : Fr base L s.heap m) (hm : IsMatch base M (S l) t b (b + 1 + k)) (h : Q (.builtin "re.Match.group", [.ref M]) s) : wpAny Md A (getMethod (.ref M) "group" pl) Q E s :=
  meth_group (hm.keep F.keep) h
theorem call_groupF {u : Tok} {l nm : List Nat} {Q : Value → Shared → Prop} (F : Fr base L s.heap m) (hm : IsMatch base M (S l) t b (b + 1 + k)) (hz : b + 1 + k ≤ l.length) (hx : l.length ≤ 16777216) (hnm : (l.drop (b + 1)).take k = nm) (h : ∀ t' k', Q (.str (S nm) t') { s with toks := k' }) :
    wpAny (model prog w) A (call (.builtin "re.Match.group") [.ref M, .int 1 u]) Q E s :=
  call_group (hm.keep F.keep) (by omega) (by rw [lenS]; exact hz) (by rw [lenS]; exact hx) (by rw [take_extract l b k hz, hnm]; exact h)
end
end Mine
end PartB1
section PartP6
open PySem PySem.W PyProof.Rows PySem.Calls PySem.Builtin
namespace Mine
/-- what a taken name looks like -/
inductive Shape : List Nat → Prop
  | dig (f : List Nat) (h : f ≠ []) (hd : ∀ c ∈ f, digd c = true) (hl : f.length ≤ 7) : Shape (35 :: (f ++ [59]))
  | hex (x : Nat) (hx : (x == 120 || x == 88) = true) (f : List Nat) (h : f ≠ []) (hd : ∀ c ∈ f, hexd c = true) : Shape (35 :: x :: (f ++ [59]))
  | name (f : List Nat) (h : f ≠ []) (hd : ∀ c ∈ f, otherd c = true) (hl : f.length ≤ 32) : Shape (f ++ [59])
theorem takenBy_shape {ok : Nat → Bool} {most : Nat} {l : List Nat} {k : Nat} (h : takenBy ok most l = some k) : ∃ f, l.take k = f ++ [59] ∧ f ≠ [] ∧ (∀ c ∈ f, ok c = true) ∧ f.length ≤ most ∧ f.length + 1 = k := by
  unfold takenBy at h
  split at h
  · rename_i h1
    injection h with h
    refine ⟨l.take (runOf ok most l), ?_, ?_, ?_, ?_, ?_⟩
    · rw [← h, List.take_add_one, h1.2]; rfl
    · intro e
      have := congrArg List.length e
      have h2 := (List.getElem?_eq_some_iff.mp h1.2).1
      rw [List.length_take] at this
      simp only [List.length_nil] at this; omega
    · intro c hc
      obtain ⟨i, hi, rfl⟩ := List.getElem_of_mem hc
      rw [List.length_take] at hi
      obtain ⟨c', e, hok⟩ := taken_iff (ok := ok) (most := most) (l := l) i (by omega)
      rw [List.getElem_take]
      rw [List.getElem?_eq_getElem (by omega)] at e
      injection e with e
      rw [e]; exact hok
    · rw [List.length_take]; unfold runOf; omega
    · have h2 := (List.getElem?_eq_some_iff.mp h1.2).1
      rw [List.length_take]; omega
  · cases h
theorem matL_shape {l : List Nat} {k : Nat} (h : matL l = some k) : Shape (l.take k) := by
  unfold matL at h
  split at h
  · rename_i r
    split at h
    · rename_i k1 h1
      injection h with h
      obtain ⟨f, e, h2, h3, h4, h5⟩ := takenBy_shape h1
      rw [← h, List.take_succ_cons, e]
      exact .dig f h2 h3 h4
    · split at h
      · rename_i y t _
        split at h
        · rename_i hx
          cases h2 : takenBy hexd 4294967295 t with
          | none => rw [h2] at h; cases h
          | some k2 =>
            rw [h2] at h
            injection h with h
            dsimp only at h
            obtain ⟨f, e, h3, h4, h5, h6⟩ := takenBy_shape h2
            rw [← h, List.take_succ_cons, List.take_succ_cons, e]
            exact .hex y hx f h3 h4
        · cases h
      · cases h
  · obtain ⟨f, e, h2, h3, h4, h5⟩ := takenBy_shape h
    rw [e]
    exact .name f h2 h3 h4
theorem drop_last (f : List Nat) : (f ++ [59]).dropLast = f := by simp
theorem repl_dig {f : List Nat} (h : f ≠ []) (hd : ∀ c ∈ f, digd c = true) (hl : f.length ≤ 7) : replL (35 :: (f ++ [59])) = if numOk (natOf 10 f) then [natOf 10 f] else 38 :: 35 :: (f ++ [59]) := by
  have e1 : (35 :: (f ++ [59])).dropLast = 35 :: f := by rw [← List.cons_append]; exact drop_last _
  have hs : signL (35 :: f) = numL 10 digd 7 f := by
    cases f with
    | nil => exact absurd rfl h
    | cons c r =>
      have hc := hd c List.mem_cons_self
      have : ¬ (c == 120 || c == 88) = true := by
        simp [digd] at hc ⊢; omega
      show (if _ then _ else _) = _
      rw [if_neg this]
  unfold replL
  rw [e1, hs, numL_read (by cases f <;> simp_all) (List.all_eq_true.mpr hd) hl]
  cases numOk _ <;> rfl
theorem repl_hex {f : List Nat} {x : Nat} (hx : (x == 120 || x == 88) = true) (h : f ≠ []) (hd : ∀ c ∈ f, hexd c = true) (hl : f.length ≤ 1000000) : replL (35 :: x :: (f ++ [59])) = if numOk (natOf 16 f) then [natOf 16 f] else 38 :: 35 :: x :: (f ++ [59]) := by
  have e1 : (35 :: x :: (f ++ [59])).dropLast = 35 :: x :: f := by rw [← List.cons_append, ← List.cons_append]; exact drop_last _
  have hs : signL (35 :: x :: f) = numL 16 hexd 1000000 f := by
    show (if _ then _ else _) = _
    rw [if_pos hx]
  unfold replL
  rw [e1, hs, numL_read (by cases f <;> simp_all) (List.all_eq_true.mpr hd) hl]
  cases numOk _ <;> rfl
theorem repl_name {f : List Nat} (hd : ∀ c ∈ f, otherd c = true) : replL (f ++ [59]) = match namedL f with | some c => [c] | none => 38 :: (f ++ [59]) := by
  have hs : signL f = namedL f := by
    cases f with
    | nil => rfl
    | cons c r =>
      have hc := hd c List.mem_cons_self
      unfold signL
      split
      · rename_i e; injection e with e _; subst e; exact absurd hc (by decide)
      · rfl
  unfold replL
  rw [drop_last, hs]
  try (split <;> rename_i h <;> rw [h])
theorem slice_neg1 (l : List Nat) (a : Nat) (h : a + 1 ≤ l.length) : Txt.slice (S l) (some (a : Int)) (some (-1)) = S ((l.drop a).take (l.length - 1 - a)) := by
  rw [← slice_nat l (a := a) (b := l.length - 1) (by omega)]
  show StrLaws.sliceText _ _ _ = StrLaws.sliceText _ _ _
  rw [StrLaws.sliceText_neg_hi (S l) (some (a : Int)) (j := -1) (by omega) (by rw [lenS]; omega), lenS]
  congr 2; omega
theorem slice_dig (f : List Nat) : Txt.slice (S (35 :: (f ++ [59]))) (some 1) (some (-1)) = S f := by
  rw [show Txt.slice (S (35 :: (f ++ [59]))) (some 1) (some (-1)) = _ from slice_neg1 (35 :: (f ++ [59])) 1 (by simp)]
  congr 2
  simp
theorem slice_hex (x : Nat) (f : List Nat) : Txt.slice (S (35 :: x :: (f ++ [59]))) (some 2) (some (-1)) = S f := by
  rw [show Txt.slice (S (35 :: x :: (f ++ [59]))) (some 2) (some (-1)) = _ from slice_neg1 (35 :: x :: (f ++ [59])) 2 (by simp)]
  congr 2
  simp
theorem amp_cat (nm : List Nat) : Str.ofString "&" ++ S nm = S (38 :: nm) := by
  rw [show Str.ofString "&" = S [38] from by decide +kernel]; exact S_append _ _
theorem xX_occ {x : Str} {c : Nat} {b : Bool} (hx : x = S [c]) (h : (Builtin.Str.occurrences (Str.ofString "xX") x 0 (Str.ofString "xX").length 1).isEmpty = b) : (c == 120 || c == 88) = !b := by
  subst hx
  have := occ_one h
  rw [← this]
  show _ = [120, 88].contains c
  rw [Bool.eq_iff_iff]; simp
theorem shape_sharp {nm : List Nat} (h : Shape nm) (h0 : (Txt.item (S nm) 0 != Str.ofString "#") = false) : (∃ f, nm = 35 :: (f ++ [59]) ∧ f ≠ [] ∧ (∀ c ∈ f, digd c = true) ∧ f.length ≤ 7) ∨ (∃ x f, nm = 35 :: x :: (f ++ [59]) ∧ (x == 120 || x == 88) = true ∧ f ≠ [] ∧ ∀ c ∈ f, hexd c = true) := by
  cases h with
  | dig f h hd hl => exact .inl ⟨f, rfl, h, hd, hl⟩
  | hex x hx f h hd => exact .inr ⟨x, f, rfl, hx, h, hd⟩
  | name f h hd hl =>
    cases f with
    | nil => exact absurd rfl h
    | cons c r =>
      rw [List.cons_append, item0, sharp, bne, S_beq] at h0
      have hc := hd c List.mem_cons_self
      have : c = 35 := by simpa using h0
      subst this
      exact absurd hc (by decide)
theorem shape_dig {nm : List Nat} (h : Shape nm) (h0 : (Txt.item (S nm) 0 != Str.ofString "#") = false) (h1 : (Builtin.Str.occurrences (Str.ofString "xX") (Txt.item (S nm) 1) 0 (Str.ofString "xX").length 1).isEmpty = true) :
    ∃ f, nm = 35 :: (f ++ [59]) ∧ f ≠ [] ∧ (∀ c ∈ f, digd c = true) ∧ f.length ≤ 7 := by
  rcases shape_sharp h h0 with h | ⟨x, f, rfl, hx, _, _⟩
  · exact h
  · have := xX_occ (item1 35 x (f ++ [59])) h1
    rw [hx] at this; cases this
theorem shape_hex {nm : List Nat} (h : Shape nm) (h0 : (Txt.item (S nm) 0 != Str.ofString "#") = false) (h1 : (Builtin.Str.occurrences (Str.ofString "xX") (Txt.item (S nm) 1) 0 (Str.ofString "xX").length 1).isEmpty = false) :
    ∃ x f, nm = 35 :: x :: (f ++ [59]) ∧ (x == 120 || x == 88) = true ∧ f ≠ [] ∧ ∀ c ∈ f, hexd c = true := by
  rcases shape_sharp h h0 with ⟨f, rfl, h, hd, hl⟩ | h
  · cases f with
    | nil => exact absurd rfl h
    | cons c r =>
      rw [List.cons_append] at h1
      have := xX_occ (item1 35 c (r ++ [59])) h1
      have hc := hd c List.mem_cons_self
      simp [digd] at hc this
      omega
  · exact h
theorem shape_name {nm : List Nat} (h : Shape nm) (h0 : (Txt.item (S nm) 0 != Str.ofString "#") = true) : ∃ f, nm = f ++ [59] ∧ f ≠ [] ∧ (∀ c ∈ f, otherd c = true) := by
  cases h with
  | dig f h hd hl => rw [item0, sharp] at h0; simp at h0
  | hex x hx f h hd => rw [item0, sharp] at h0; simp at h0
  | name f h hd hl => exact ⟨f, rfl, h, hd⟩
theorem look_named2 (f : List Nat) (d : PyData) : (Spec.lookup (PyData.str (S (f ++ [59]))) [(PyData.str { cps := #[97, 109, 112, 59] }, PyData.str { cps := #[38] }), (PyData.str { cps := #[108, 116, 59] }, PyData.str { cps := #[60] }), (PyData.str { cps := #[103, 116, 59] }, PyData.str { cps := #[62] }), (PyData.str { cps := #[113, 117, 111, 116, 59] }, PyData.str { cps := #[34] }), (PyData.str { cps := #[99, 111, 112, 121, 59] }, PyData.str { cps := #[169] }), (PyData.str { cps := #[110, 98, 115, 112, 59] }, PyData.str { cps := #[160] })]).getD d =
    match namedL f with | some c => .str (S [c]) | none => d := by
  have key : ∀ g : List Nat, (S (g ++ [59]) == S (f ++ [59])) = decide (f = g) := by
    intro g
    rw [S_beq]
    simp [eq_comm]
  have k1 := key [97, 109, 112]
  have k2 := key [108, 116]
  have k3 := key [103, 116]
  have k4 := key [113, 117, 111, 116]
  have k5 := key [99, 111, 112, 121]
  have k6 := key [110, 98, 115, 112]
  simp only [List.cons_append, List.nil_append] at k1 k2 k3 k4 k5 k6
  simp only [Spec.lookup, same_str, k1, k2, k3, k4, k5, k6, decide_eq_true_eq]
  unfold namedL
  (repeat' split) <;> simp_all
end Mine
end PartP6
section PartP7
open PySem PySem.W PyProof.Rows PySem.Calls PySem.Builtin
namespace Mine
theorem unN_fuel : ∀ (n m : Nat) (l : List Nat), l.length ≤ n → l.length ≤ m → unN n l = unN m l
  | 0, 0, _, _, _ => rfl
  | 0, m + 1, [], _, _ => rfl
  | 0, m + 1, _ :: _, h, _ => by simp at h
  | n + 1, 0, [], _, _ => rfl
  | n + 1, 0, _ :: _, _, h => by simp at h
  | n + 1, m + 1, [], _, _ => rfl
  | n + 1, m + 1, c :: r, h1, h2 => by
    rw [unN, unN]
    simp only [List.length_cons] at h1 h2
    rw [unN_fuel n m r (by omega) (by omega)]
    have : ∀ k, unN n (r.drop k) = unN m (r.drop k) := fun k => unN_fuel n m _ (by simp; omega) (by simp; omega)
    simp only [this]
theorem unL_some {r : List Nat} {k : Nat} (h : matL r = some k) : unL (38 :: r) = replL (r.take k) ++ unL (r.drop k) := by
  unfold unL
  rw [List.length_cons, unN, h]
  show replL (r.take k) ++ unN r.length (r.drop k) = _
  rw [unN_fuel r.length _ _ (by simp) (Nat.le_refl _)]
theorem unL_none {c : Nat} {r : List Nat} (h : atL (c :: r) = none) : unL (c :: r) = c :: unL r := by
  unfold unL
  rw [List.length_cons, unN]
  by_cases hc : c = 38
  · subst hc
    have : matL r = none := h
    rw [this]; rfl
  · rw [if_neg (by simpa using hc)]
theorem unL_nil : unL [] = [] := rfl
theorem atL_some {l : List Nat} {k : Nat} (h : atL l = some k) : ∃ r, l = 38 :: r ∧ matL r = some k := by
  unfold atL at h
  split at h
  · exact ⟨_, rfl, h⟩
  · cases h
theorem seek_spec (l : List Nat) : ∀ (n s : Nat), s + n = l.length → match seekL l.toArray (n + 1) s with
    | some (b, e) => ∃ k, matL (l.drop (b + 1)) = some k ∧ e = b + 1 + k ∧ s ≤ b ∧ b < l.length ∧ unL (l.drop s) = (l.drop s).take (b - s) ++ (replL ((l.drop (b + 1)).take k) ++ unL (l.drop e))
    | none => unL (l.drop s) = l.drop s
  | 0, s, h => by
    unfold seekL
    have hd : l.drop s = [] := List.drop_eq_nil_of_le (by omega)
    have : l.toArray.toList.drop s = [] := hd
    have e1 : atL [] = none := rfl
    have e2 : seekL l.toArray 0 (s + 1) = none := rfl
    rw [this, e1]
    dsimp only
    rw [e2]
    dsimp only
    first | rfl | (rw [hd]; rfl)
  | n + 1, s, h => by
    unfold seekL
    have hs : s < l.length := by omega
    obtain ⟨c, hc, hd⟩ := drop_cons hs
    show match (match atL (l.drop s) with | some k => some (s, s + 1 + k) | none => seekL l.toArray (n + 1) (s + 1)) with
      | some (b, e) => ∃ k, matL (l.drop (b + 1)) = some k ∧ e = b + 1 + k ∧ s ≤ b ∧ b < l.length ∧ unL (l.drop s) = (l.drop s).take (b - s) ++ (replL ((l.drop (b + 1)).take k) ++ unL (l.drop e))
      | none => unL (l.drop s) = l.drop s
    cases ha : atL (l.drop s) with
    | some k =>
      obtain ⟨r, hr, hm⟩ := atL_some ha
      rw [hd] at hr
      injection hr with h1 h2
      subst h1
      refine ⟨k, by rw [h2]; exact hm, rfl, Nat.le_refl _, hs, ?_⟩
      rw [Nat.sub_self, List.take_zero, List.nil_append, hd, h2, unL_some hm, ← h2, List.drop_drop]
    | none =>
      have ih := seek_spec l n (s + 1) (by omega)
      rw [hd] at ha
      have hu := unL_none ha
      rw [hd, hu]
      dsimp only
      cases hq : seekL l.toArray (n + 1) (s + 1) with
      | none =>
        rw [hq] at ih
        dsimp only at ih ⊢
        rw [ih]
      | some be =>
        obtain ⟨b, e⟩ := be
        rw [hq] at ih
        dsimp only at ih ⊢
        obtain ⟨k, h1, h2, h3, h4, h5⟩ := ih
        refine ⟨k, h1, h2, by omega, h4, ?_⟩
        rw [h5, show b - s = (b - (s + 1)) + 1 by omega, List.take_succ_cons, List.cons_append]
theorem unL_free : ∀ {l : List Nat}, 38 ∉ l → unL l = l
  | [], _ => rfl
  | c :: r, h => by
    have h1 : c ≠ 38 := fun e => h (e ▸ List.mem_cons_self)
    have h2 : atL (c :: r) = none := by
      unfold atL
      split
      · rename_i e; injection e with e _; exact absurd e h1
      · rfl
    rw [unL_none h2, unL_free fun hm => h (List.mem_cons_of_mem _ hm)]
theorem no_amp {l : List Nat} (h : (Builtin.Str.occurrences (S l) (Str.ofString "&") 0 (S l).length 1).isEmpty = true) : unL l = l := by
  rw [show Str.ofString "&" = ⟨#[38]⟩ from by decide +kernel] at h
  have := occ_one h
  refine unL_free fun hm => ?_
  have h2 : l.contains 38 = true := by simpa using hm
  have h3 : l.contains 38 = !true := this
  rw [h2] at h3; cases h3
end Mine
end PartP7
section PartR6
open PySem PySem.W PyProof.Rows PySem.Calls PySem.Builtin PySem.Builtin.Re
namespace Mine
/-- the pattern, where it stands -/
def PatAt (h : Heap) : Prop := ∃ p0 p1 p2 p3 p4 p6 items n, h.get? 86 = some { cls := .type "re.Pattern", data := .fields #[p0, p1, .int 1 p2, p3, p4, .ref 85, .int 0 p6] } ∧ h.get? 85 = some { cls := .type "tuple", data := .seq items n } ∧ (items.map reRawOf).map (·.toNat) = C
theorem PatAt.keep {h h' : Heap} (p : PatAt h) (k : ∀ q o, h.get? q = some o → h'.get? q = some o) : PatAt h' := by
  obtain ⟨p0, p1, p2, p3, p4, p6, items, n, h1, h2, h3⟩ := p
  exact ⟨p0, p1, p2, p3, p4, p6, items, n, k _ _ h1, k _ _ h2, h3⟩
theorem patIn {P : Params} {h : Heap} (X : (hd.heap_39 P).In h) : PatAt h := by
  have e1 : ∃ p0 p1 p2 p3 p4 p6, (hd.heap_39 P).lookup 86 = some { cls := .type "re.Pattern", data := .fields #[p0, p1, .int 1 p2, p3, p4, .ref 85, .int 0 p6] } := ⟨_, _, _, _, _, _, rfl⟩
  have e2 : ∃ items n, (hd.heap_39 P).lookup 85 = some { cls := .type "tuple", data := .seq items n } ∧ (items.map reRawOf).map (·.toNat) = C := ⟨_, _, rfl, by decide +kernel⟩
  obtain ⟨p0, p1, p2, p3, p4, p6, e1⟩ := e1
  obtain ⟨items, n, e2, e3⟩ := e2
  exact ⟨p0, p1, p2, p3, p4, p6, items, n, X _ _ e1, X _ _ e2, e3⟩
section
variable {Md : Model} {A : Around} {E : Value → Shared → Prop} {s : Shared}
theorem wp_whole {x : Str} {t : Tok} {Q : ReTarget → Shared → Prop} (p : PatAt s.heap) (h : Q { pattern := .ref 86, string := .str x t, code := C, text := x.cps, kind := 0, groups := 1, pos := 0, lim := x.cps.size } s) : wpAny Md A (reWholeTarget (.ref 86) (.str x t)) Q E s := by
  obtain ⟨p0, p1, p2, p3, p4, p6, items, n, h1, h2, h3⟩ := p
  unfold reWholeTarget
  refine wpAny_bind (wpAny_fieldsOf h1 rfl ?_)
  refine wpAny_bind (wpAny_of_eq (rfl : reTextOf (.str x t) = pure (x.cps, 0)) ?_)
  dsimp only
  refine wpAny_ite_false (by rfl) ?_
  refine wpAny_ite_false (by rfl) ?_
  refine wpAny_bind (wpAny_of_eq (rfl : reNoCollectionInside (.str x t) 0 = pure ()) ?_)
  refine wpAny_bind ?_
  unfold reRawItems
  refine wpAny_bind (wpAny_seqItems h2 rfl ?_)
  refine wpAny_pure ?_
  refine wpAny_pure ?_
  dsimp only [Option.getD_some]
  rw [h3]
  exact h
theorem wp_newMatch {x : Str} {t : Tok} {m : Sre.M} {b e lim : Nat} {Q : Value → Shared → Prop} (f : Found m b e) (hbe : b + 1 ≤ e)
    (h : ∀ h' M, IsMatch h' M x t b e → (∀ q o, s.heap.get? q = some o → h'.get? q = some o) → Q (.ref M) { s with heap := h' }) : wpAny Md A (reNewMatch (.ref 86) (.str x t) 1 0 lim m) Q E s := by
  obtain ⟨f1, f2, f3, f4, f5⟩ := f
  unfold reNewMatch
  have hr : List.range 1 = [0] := rfl
  simp only [hr, f1, f2, f3, f4, f5]
  refine wpAny_ite_false ?_ ?_
  · simp; omega
  · refine wpAny_bind (wpAny_newTuple ?_ (by rw [sizeLine_eq]; simp))
    refine wpAny_newObj_type ?_ ?_
    · refine h _ _ ⟨s.heap.objs.size, 0, lim, 1, Heap.get?_push_size _ rfl, ?_⟩ fun q o e => Heap.get?_push_of_some _ (Heap.get?_push_of_some _ e)
      refine Heap.get?_push_of_some _ ?_
      exact Heap.get?_push_size _ rfl
    · show (_ : Nat) ≤ _
      rw [sizeLine_eq]; simp
end
end Mine
end PartR6
section PartR7
open PySem PySem.W PyProof.Rows PySem.Calls PySem.Builtin PySem.Builtin.Re
namespace Mine
theorem str_not_none (x : Str) (t : Tok) : ((Value.str x t) != Value.none) = true := rfl
section
variable {w : World} {mean : ExcName → Option Value} {mg mb : Str → Option Value} {dp un : Nat} {gd : Option (List Code)} {cn : Str} {cs : Scope} {a : Addr} {ccd : Value} {cl : List (Str × Addr)} {outer : List Env} {A₀ : Around} {base h₀ : Heap} {L : Addr} {m : Str → Option Value} {D : Addr} {l : List Nat} {t : Tok}
/-- a piece is put to the list -/
theorem push_piece {Md : Model} {A : Around} {E : Value → Shared → Prop} {s : Shared} {vs : Array Value} {n : Nat} {v : Value} {Q : Unit → Shared → Prop} (F : Fr h₀ L s.heap m) (N : News h₀ L s.heap [(D, W.listOf vs n)]) (hz : vs.size ≤ 100000)
    (h : ∀ h', Fr h₀ L h' m → News h₀ L h' [(D, W.listOf (vs.push v) (n + 1))] → Q () { s with heap := h' }) : wpAny Md A (updateSeq D (·.push v)) Q E s := by
  have z := N _ List.mem_cons_self
  refine wpAny_updateSeq z.1 rfl ?_ (by rw [sizeLine_eq]; omega) (by rw [sizeLine_eq, Array.size_push]; omega)
  have hD : (s.heap.update D (Obj.mapSeq (·.push v))).get? D = some (W.listOf (vs.push v) (n + 1)) := by
    rw [Heap.get?_update_self _ z.1 (by rw [mapSeq_push]; rfl), mapSeq_push]
  have up : ∀ q o, q ≠ D → s.heap.get? q = some o → (s.heap.update D (Obj.mapSeq (·.push v))).get? q = some o := fun q o hq e => (Heap.get?_update_other _ _ (Ne.symm hq)).trans e
  refine h _ ⟨F.ns.at' fun o e => up L o (Ne.symm z.2.1) e, fun q o e => up q o (fun e' => ?_) (F.keep q o e), F.above⟩ ?_
  · have e'' : h₀.get? D = some o := e' ▸ e
    rw [z.2.2] at e''; cases e''
  · intro p hp
    rw [List.mem_singleton.mp hp]
    exact ⟨hD, z.2⟩
abbrev subCode (l : List Nat) (t : Tok) (D : Addr) (nn : Int) (p : Nat) (b : Bool) : Code := .builtin "re.Pattern.sub.loop" ⟨[.ref 86, .str (S l) t, .ref 52, rawInt 1, rawInt 0, rawInt nn, rawInt p, rawInt p, .bool b, .ref D, .bool false], []⟩
theorem sub_tail {b k lim : Nat} {mm : Sre.M} {nn : Int} {s : Shared} {vs : Array Value} {n : Nat} {R : Result → Shared → Prop} (f : Found mm b (b + 1 + k)) (hk1 : 1 ≤ k)
    (hrep : ∀ (M : Addr), ConH w true 3 30 52 [.ref M] [] (fun h => IsMatch h M (S l) t b (b + 1 + k)) (fun v => ∃ tk, v = .str (S (replL ((l.drop (b + 1)).take k))) tk))
    (B : Below A₀ base outer h₀) (X : (hd.heap_39 w.params).In h₀) (T : Top hd.view_39 LO mean mg mb h₀) (hk : cs.kind = .function) (hd3 : dp + 3 < recursionLimit) (hu : un + 40 < cLine)
    (F : Fr h₀ L s.heap m) (N : News h₀ L s.heap [(D, W.listOf vs n)]) (hz : vs.size ≤ 100000) (htk : 0 < s.toks)
    (hn : ∀ h' tk' u, Fr h₀ L h' m → News h₀ L h' [(D, W.listOf (vs.push (.str (S (replL ((l.drop (b + 1)).take k))) u)) (n + 1))] → 0 < tk' → codeAny (model PySem.Challenge.rw_ci0009_01.row.prog w) (ktrTop dp un gd cn cs L a ccd cl outer) (subCode l t D (nn + 1) (b + 1 + k) false) R { s with heap := h', toks := tk' }) :
    wpAny (model PySem.Challenge.rw_ci0009_01.row.prog w) (ktrTop dp un gd cn cs L a ccd cl outer).in1 (do
      let found ← reNewMatch (.ref 86) (.str (S l) t) 1 0 lim mm
      let item ← holding [found] (if ((1 : Int) == 1) = true then call (.ref 52) [found] else do let x ← reFound found; reExpand (.ref 52) x)
      if (item != Value.none) = true then do
        updateSeq D fun x => x.push item
        again (.builtin "re.Pattern.sub.loop" ⟨[.ref 86, .str (S l) t, .ref 52, rawInt 1, rawInt 0, rawInt (nn + 1), rawInt mm.handed, rawInt mm.handed, .bool (mm.handed == mm.start), .ref D, .bool false], []⟩)
      else again (.builtin "re.Pattern.sub.loop" ⟨[.ref 86, .str (S l) t, .ref 52, rawInt 1, rawInt 0, rawInt (nn + 1), rawInt mm.handed, rawInt mm.handed, .bool (mm.handed == mm.start), .ref D, .bool false], []⟩))
      (fun fin s' => match fin with | .done f => R (.ok f) s' | .again c' => c'.quiet = true ∧ codeAny (model PySem.Challenge.rw_ci0009_01.row.prog w) (ktrTop dp un gd cn cs L a ccd cl outer) c' R s') (fun e s' => R (.error e) s') s := by
  refine wpAny_bind (wp_newMatch f (by omega) fun h1 M hM hk1' => ?_)
  have F1 : Fr h₀ L h1 m := F.keeps hk1'
  have N1 : News h₀ L h1 [(D, W.listOf vs n)] := N.grown hk1'
  refine wpAny_bind (wpAny_holding (wpAny_ite_true rfl ?_))
  refine hrep M mean mg mb dp (un + 1) gd cn cs a ccd cl outer A₀ base h₀ L m _ _ _ hM B F1 X T hk hd3 (by omega) (fun _ => htk) fun v h2 tk2 hv hk2 ht2 => ?_
  obtain ⟨u, rfl⟩ := hv
  refine wpAny_ite_true rfl ?_
  refine wpAny_bind (push_piece (F1.keeps hk2) (N1.grown hk2) hz fun h3 F3 N3 => ?_)
  have e1 : (mm.handed == mm.start) = false := by rw [f.handed, f.start]; simp; omega
  rw [e1, f.handed]
  exact wpAny_pure ⟨plainId_quiet plain_sub_loop _, hn h3 tk2 u F3 N3 (Nat.lt_of_lt_of_le htk ht2)⟩
end
end Mine
end PartR7
section PartR8
open PySem PySem.W PyProof.Rows PySem.Calls PySem.Builtin PySem.Builtin.Re
namespace Mine
section
variable {w : World} {mean : ExcName → Option Value} {mg mb : Str → Option Value} {dp un : Nat} {gd : Option (List Code)} {cn : Str} {cs : Scope} {a : Addr} {ccd : Value} {cl : List (Str × Addr)} {outer : List Env} {A₀ : Around} {base h₀ : Heap} {L : Addr} {m : Str → Option Value} {D : Addr} {l : List Nat} {t : Tok}
theorem wp_slice {Md : Model} {A : Around} {E : Value → Shared → Prop} {s : Shared} {b e : Nat} {Q : Value → Shared → Prop} (hx : l.length ≤ 16777216) (h : Q (.str (S ((l.drop b).take (e - b))) s.toks) { s with toks := s.toks + 1 }) : wpAny Md A (reSlice l.toArray 0 b e) Q E s := by
  unfold reSlice
  refine wpAny_ite_true rfl ?_
  have he : (⟨l.toArray.extract b e⟩ : Str) = S ((l.drop b).take (e - b)) := by
    apply Str.ext'
    show l.toArray.extract b e = _
    rw [List.extract_toArray]
  rw [he]
  exact wpAny_mkStr h (by rw [lenS, sizeLine_eq, List.length_take, List.length_drop]; omega)
theorem sub_end {nn : Int} {s : Shared} {vs : Array Value} {n : Nat} {xs : List (List Nat)} {R : Result → Shared → Prop} {prog : Program} {A A' : Around} (hx : l.length ≤ 640) (hul : (unL l).length ≤ 100000) (F : Fr h₀ L s.heap m) (N : News h₀ L s.heap [(D, W.listOf vs n)]) (hS : StrsAre vs.toList (xs.map S)) (hfl : xs.flatten = unL l) (hxl : xs.length ≤ 10000) (htk : 0 < s.toks)
    (hR : ∀ tk' t', R (.ok (.ret (.str (S (unL l)) t'))) { s with toks := tk' }) :
    wpAny (model prog w) A (do
      let joiner ← reSlice l.toArray 0 0 0
      let x ← seqItems? (.ref D)
      if (x.getD #[]).isEmpty = true then do
          let text ← pure joiner
          if false = true then do
              let y ← holding [text] do
                    let z ← mkInt nn
                    newTuple [text, z]
              ret y
            else ret text
        else do
          let text ← call (.builtin (if ((0 : Nat) == 0) = true then "str.join" else "bytes.join")) [joiner, .ref D]
          if false = true then do
              let y ← holding [text] do
                    let z ← mkInt nn
                    newTuple [text, z]
              ret y
            else ret text)
      (fun fin s' => match fin with | .done f => R (.ok f) s' | .again c' => c'.quiet = true ∧ codeAny (model prog w) A' c' R s') (fun e s' => R (.error e) s') s := by
  refine wpAny_bind (wp_slice (b := 0) (e := 0) (by omega) ?_)
  have z := N _ List.mem_cons_self
  refine wpAny_bind (wpAny_seqItems z.1 rfl ?_)
  by_cases hz : vs.isEmpty = true
  · refine wpAny_ite_true (by simpa using hz) (wpAny_bind (wpAny_pure (wpAny_ite_false rfl (wpAny_pure ?_))))
    have hx0 : xs = [] := by
      have h1 := hS.length
      have h2 : vs.size = 0 := by simpa using hz
      simp [h2] at h1
      exact List.length_eq_zero_iff.mp h1.symm
    rw [hx0] at hfl
    have : ((l.drop 0).take (0 - 0)) = unL l := by rw [← hfl]; simp
    rw [this]
    exact hR _ _
  · refine wpAny_ite_false (by simpa using hz) (wpAny_bind ?_)
    have hw : ((xs.map S).map (·.length)).sum + (xs.map S).length ≤ 1048576 := by
      rw [sum_map_S, hfl, List.length_map]; omega
    refine join_listW (News.isList N List.mem_cons_self) hS (by rw [lenS]; simp) hw fun t' k => ?_
    refine wpAny_ite_false rfl (wpAny_pure ?_)
    have : Txt.join (S ((l.drop 0).take (0 - 0))) (xs.map S) = S (unL l) := by
      rw [← hfl]
      exact (StrLaws.glued_eq_join _ _).trans (join_empty xs)
    rw [this]
    exact hR _ _
theorem sub_loop (hrep : ∀ (M : Addr) (b k : Nat), matL (l.drop (b + 1)) = some k → b < l.length → k ≤ 640 → ConH w true 3 30 52 [.ref M] [] (fun h => IsMatch h M (S l) t b (b + 1 + k)) (fun v => ∃ tk, v = .str (S (replL ((l.drop (b + 1)).take k))) tk))
    (hx : l.length ≤ 640) (hul : (unL l).length ≤ 100000) (B : Below A₀ base outer h₀) (X : (hd.heap_39 w.params).In h₀) (T : Top hd.view_39 LO mean mg mb h₀) (hk : cs.kind = .function) (hd3 : dp + 3 < recursionLimit) (hu : un + 40 < cLine) :
    ∀ (r p : Nat) (s : Shared) (vs : Array Value) (n : Nat) (xs : List (List Nat)) (nn : Int) (R : Result → Shared → Prop), l.length - p < r → p ≤ l.length → Fr h₀ L s.heap m → News h₀ L s.heap [(D, W.listOf vs n)] → StrsAre vs.toList (xs.map S) → xs.flatten ++ unL (l.drop p) = unL l → xs.length ≤ 2 * p → 0 < s.toks →
      (∀ h' tk' t', Fr h₀ L h' m → R (.ok (.ret (.str (S (unL l)) t'))) { s with heap := h', toks := tk' }) →
      codeAny (model PySem.Challenge.rw_ci0009_01.row.prog w) (ktrTop dp un gd cn cs L a ccd cl outer) (subCode l t D nn p false) R s := by
  intro r
  induction r with
  | zero => intro p s vs n xs nn R hr; omega
  | succ r ih =>
    intro p s vs n xs nn R hr hp F N hS hfl hxl htk hR
    have hvs : vs.size = xs.length := by have := hS.length; simpa using this
    refine codeAny_builtin entry_sub_loop ?_
    rw [Around.under_plainId plain_sub_loop _]
    unfold Builtin.«re.Pattern.sub.loop»
    refine wpAny_bind (wp_whole ((patIn X).keep F.keep) ?_)
    refine wpAny_ite_false (by rfl) ?_
    dsimp only
    refine wpAny_bind (wpAny_ite_false (by simp) ?_)
    rw [Int.toNat_natCast]
    unfold reNextFound
    dsimp only
    refine wp_next (x := l.toArray) (by simp; omega) (by simpa using hp) ?_
    have hs := seek_spec l (l.length - p) p (by omega)
    unfold seekFrom
    rw [List.size_toArray]
    cases hq : seekL l.toArray (l.length - p + 1) p with
    | some be =>
      obtain ⟨b, e⟩ := be
      rw [hq] at hs
      dsimp only at hs ⊢
      obtain ⟨k, h1, rfl, h3, h4, h5⟩ := hs
      have hkl := matL_le h1
      rw [List.length_drop] at hkl
      intro mm f
      by_cases hpb : p < b
      · refine wpAny_ite_true (by rw [f.start]; simpa using hpb) ?_
        have hst := f.start
        refine wpAny_bind (wp_slice (b := p) (e := mm.start) (by omega) ?_)
        refine wpAny_bind (push_piece (s := { s with toks := s.toks + 1 }) F N (by omega) fun h' F' N' => ?_)
        refine wpAny_ite_false (by rfl) ?_
        refine sub_tail (R := R) (lim := l.length) (nn := nn) (s := { s with heap := h', toks := s.toks + 1 }) f (by omega) (fun M => hrep M b k h1 h4 (by omega)) B X T hk hd3 hu F' N' (by rw [Array.size_push]; omega) (by show 0 < s.toks + 1; omega) fun h2 tk2 u F2 N2 ht2 => ?_
        refine ih (b + 1 + k) _ _ _ (xs ++ [(l.drop p).take (mm.start - p)] ++ [replL ((l.drop (b + 1)).take k)]) (nn + 1) R (by omega) (by omega) F2 N2 ?_ ?_ ?_ ht2 hR
        · rw [Array.toList_push, Array.toList_push]
          exact strs_snoc (strs_snoc hS)
        · rw [← hfl, h5, hst]; simp
        · simp; omega
      · refine wpAny_ite_false (by rw [f.start]; simpa using hpb) ?_
        refine wpAny_ite_false (by rfl) ?_
        refine sub_tail (R := R) (lim := l.length) (nn := nn) f (by omega) (fun M => hrep M b k h1 h4 (by omega)) B X T hk hd3 hu F N (by omega) htk fun h2 tk2 u F2 N2 ht2 => ?_
        refine ih (b + 1 + k) _ _ _ (xs ++ [replL ((l.drop (b + 1)).take k)]) (nn + 1) R (by omega) (by omega) F2 N2 ?_ ?_ ?_ ht2 hR
        · rw [Array.toList_push]
          exact strs_snoc hS
        · have : b - p = 0 := by omega
          rw [this, List.take_zero, List.nil_append] at h5
          rw [← hfl, h5]; simp
        · simp; omega
    | none =>
      rw [hq] at hs
      dsimp only at hs ⊢
      by_cases hpl : p < l.length
      · refine wpAny_ite_true (by simpa using hpl) ?_
        refine wpAny_bind (wp_slice (b := p) (e := l.length) (by omega) ?_)
        refine wpAny_bind (push_piece (s := { s with toks := s.toks + 1 }) F N (by omega) fun h' F' N' => ?_)
        refine sub_end (R := R) (s := { s with heap := h', toks := s.toks + 1 }) (xs := xs ++ [(l.drop p).take (l.length - p)]) hx hul F' N' ?_ ?_ ?_ (by show 0 < s.toks + 1; omega) fun tk' t' => ?_
        · rw [Array.toList_push]; exact strs_snoc hS
        · rw [← hfl, hs, List.take_of_length_le (by simp)]; simp
        · simp; omega
        · exact hR h' tk' t' F'
      · refine wpAny_ite_false (by simpa using hpl) ?_
        refine sub_end (R := R) (xs := xs) hx hul F N hS ?_ (by omega) htk fun tk' t' => ?_
        · rw [← hfl, hs, List.drop_eq_nil_of_le (by omega)]; simp
        · exact hR s.heap tk' t' F
end
end Mine
end PartR8
section PartR9
open PySem PySem.W PyProof.Rows PySem.Calls PySem.Builtin PySem.Builtin.Re
namespace Mine
theorem named_sub (r x : Value) : reNamed "re.Pattern.sub" "sub" ["repl", "string", "count"] 2 [r, x] [] = pure [some r, some x, none] := by kernel_rfl
theorem fn_call : typeLookup (.type "function") "__call__" = pure (some (.builtin "function.__call__")) := by rw [typeLookup_type, builtinLookup_eq_fast]; kernel_rfl
theorem str_not_ba : isSubtype (.type "str") (.type "bytearray") = pure false := by rw [isSubtype_type]; kernel_rfl
section
variable {w : World} {mean : ExcName → Option Value} {mg mb : Str → Option Value} {dp un : Nat} {gd : Option (List Code)} {cn : Str} {cs : Scope} {a : Addr} {ccd : Value} {cl : List (Str × Addr)} {outer : List Env} {A₀ : Around} {base h₀ : Heap} {L : Addr} {m : Str → Option Value} {l : List Nat} {t : Tok} {s : Shared}
theorem fn52 {P : Params} {h : Heap} (X : (hd.heap_39 P).In h) : ∃ o, h.get? 52 = some o ∧ o.cls = .type "function" := by
  have e1 : ∃ o, (hd.heap_39 P).lookup 52 = some o ∧ o.cls = .type "function" := ⟨_, rfl, rfl⟩
  obtain ⟨o, e1, e2⟩ := e1
  exact ⟨o, X _ _ e1, e2⟩
theorem call_sub {Q E : Value → Shared → Prop} (hrep : ∀ (M : Addr) (b k : Nat), matL (l.drop (b + 1)) = some k → b < l.length → k ≤ 640 → ConH w true 3 30 52 [.ref M] [] (fun h => IsMatch h M (S l) t b (b + 1 + k)) (fun v => ∃ tk, v = .str (S (replL ((l.drop (b + 1)).take k))) tk))
    (hx : l.length ≤ 640) (hul : (unL l).length ≤ 100000) (B : Below A₀ base outer h₀) (X : (hd.heap_39 w.params).In h₀) (T : Top hd.view_39 LO mean mg mb h₀) (hk : cs.kind = .function) (hd3 : dp + 3 < recursionLimit) (hu : un + 40 < cLine)
    (F : Fr h₀ L s.heap m) (htk : 0 < s.toks) (h : ∀ h' tk' t', Fr h₀ L h' m → Q (.str (S (unL l)) t') { s with heap := h', toks := tk' }) :
    wpAny (model PySem.Challenge.rw_ci0009_01.row.prog w) (ktrTop dp un gd cn cs L a ccd cl outer) (call (.builtin "re.Pattern.sub") [.ref 86, .ref 52, .str (S l) t]) Q E s := by
  have hp := (patIn X).keep F.keep
  have hp' := hp
  obtain ⟨p0, p1, p2, p3, p4, p6, items, n, g1, _, _⟩ := hp'
  obtain ⟨o, ho, hc⟩ := fn52 X
  refine wpAny_call (codeAny_call_builtin slot_pattern_sub.plain entry_pattern_sub (slot_pattern_sub.check _ _ _ _ _ _ _ _ ⟨_, g1, rfl⟩ (args_pattern_sub_3 _ _ _) ?_))
  unfold Builtin.«re.Pattern.sub» reSubstitute
  refine wpAny_bind (wpAny_of_eq (named_sub _ _) ?_)
  dsimp only
  refine wpAny_bind (wpAny_pure ?_)
  refine wpAny_bind (wpAny_specialOf (T := "function") (s := s) (v := .ref 52) ⟨o, F.keep _ _ ho, hc⟩ fn_call ?_)
  refine wpAny_ite_true rfl (wpAny_bind (wpAny_pure (wpAny_ite_true rfl (wpAny_bind (wpAny_pure ?_)))))
  refine wpAny_bind (wpAny_holding (wp_whole hp ?_))
  refine wpAny_ite_true (by rfl) ?_
  refine wpAny_bind ?_
  · unfold reNotHeld
    refine wpAny_bind (wpAny_isInstance (T := "str") (typeIs_str _ _ _) str_not_ba ?_)
    refine wpAny_ite_false rfl ?_
    refine wpAny_pure ?_
    refine wpAny_bind (wpAny_newList ?_ (by rw [sizeLine_eq]; simp))
    refine wpAny_pure ⟨plainId_quiet plain_sub_loop _, ?_⟩
    refine sub_loop (D := s.heap.objs.size) hrep hx hul B X T hk hd3 hu (l.length + 1) 0 _ #[] 0 [] 0 _ (by omega) (Nat.zero_le _) (F.keeps fun _ _ e => Heap.get?_push_of_some _ e) ?_ .nil (by simp) (by simp) htk fun h' tk' t' F' => h h' tk' t' F'
    intro p hp2
    rw [List.mem_singleton.mp hp2]
    exact ⟨Heap.get?_push_size _ rfl, Ne.symm (Nat.ne_of_lt F.ns.lt), next_is_new F⟩
theorem meth_sub {Md : Model} {A : Around} {E : Value → Shared → Prop} {pl : Sem Bool} {P : Params} {Q : Value × List Value → Shared → Prop} (F : Fr h₀ L s.heap m) (X : (hd.heap_39 P).In h₀) (h : Q (.builtin "re.Pattern.sub", [.ref 86]) s) : wpAny Md A (getMethod (.ref 86) "sub" pl) Q E s := by
  obtain ⟨p0, p1, p2, p3, p4, p6, items, n, g1, _, _⟩ := (patIn X).keep F.keep
  exact getMethod_builtin (T := "re.Pattern") ⟨_, g1, rfl⟩ plainAttrs_pattern slot_pattern_sub type_pattern_sub (fun a ea => by cases ea; exact ⟨_, g1, rfl⟩) h
end
end Mine
end PartR9
section PartL0
open PySem PySem.W PyProof.Rows PySem.Calls PySem.Builtin
namespace Mine
/-! escaping and reading back; the search's reading is the law's reading -/
theorem unL_ne {c : Nat} {r : List Nat} (h : c ≠ 38) : unL (c :: r) = c :: unL r := by
  refine unL_none ?_
  unfold atL
  split
  · rename_i e; injection e with e _; exact absurd e h
  · rfl
theorem un_escOne (q : Bool) (c : Nat) (r : List Nat) : unL (escOne q c ++ r) = c :: unL r := by
  unfold escOne
  split
  · rename_i h; subst h
    rw [show ([38, 97, 109, 112, 59] ++ r : List Nat) = 38 :: 97 :: 109 :: 112 :: 59 :: r from rfl, unL_some (k := 4) (by rfl)]; rfl
  split
  · rename_i h; subst h
    rw [show ([38, 108, 116, 59] ++ r : List Nat) = 38 :: 108 :: 116 :: 59 :: r from rfl, unL_some (k := 3) (by rfl)]; rfl
  split
  · rename_i h; subst h
    rw [show ([38, 103, 116, 59] ++ r : List Nat) = 38 :: 103 :: 116 :: 59 :: r from rfl, unL_some (k := 3) (by rfl)]; rfl
  split
  · rename_i h; obtain ⟨h, _⟩ := h; subst h
    rw [show ([38, 113, 117, 111, 116, 59] ++ r : List Nat) = 38 :: 113 :: 117 :: 111 :: 116 :: 59 :: r from rfl, unL_some (k := 5) (by rfl)]; rfl
  · rename_i h _ _ _
    exact unL_ne h
theorem un_esc (q : Bool) : ∀ l : List Nat, unL (escL q l) = l
  | [] => rfl
  | c :: r => by
    unfold escL
    rw [List.flatMap_cons, un_escOne]
    exact congrArg (c :: ·) (un_esc q r)
theorem readL_ne {c : Nat} {r : List Nat} (h : c ≠ 38) : readL (c :: r) = c :: readL r := by
  refine readL_none ?_
  rw [nameAt_cons, if_neg (by simp [h])]
  rfl
theorem readL_skip : ∀ (nm t : List Nat), 38 ∉ nm → readL (nm ++ t) = nm ++ readL t
  | [], _, _ => rfl
  | c :: r, t, h => by
    rw [List.cons_append, readL_ne (fun e => h (e ▸ List.mem_cons_self)), readL_skip r t fun hm => h (List.mem_cons_of_mem _ hm)]
    rfl
theorem takeWhile_stop {ok : Nat → Bool} : ∀ (f : List Nat) (t : List Nat), (∀ c ∈ f, ok c = true) → ok 59 = false → (f ++ 59 :: t).takeWhile ok = f
  | [], t, _, h => by rw [List.nil_append, List.takeWhile_cons, h]; rfl
  | c :: r, t, h, h2 => by
    rw [List.cons_append, List.takeWhile_cons, h c List.mem_cons_self, if_pos rfl, takeWhile_stop r t (fun c hc => h c (List.mem_cons_of_mem _ hc)) h2]
theorem takenBy_all {ok : Nat → Bool} {most : Nat} {f t : List Nat} (h0 : f ≠ []) (h : ∀ c ∈ f, ok c = true) (h2 : ok 59 = false) (hl : f.length ≤ most) : takenBy ok most (f ++ 59 :: t) = some (f.length + 1) := by
  have hr : runOf ok most (f ++ 59 :: t) = f.length := by
    unfold runOf
    rw [takeWhile_stop f t h h2]; omega
  unfold takenBy
  rw [hr, if_pos]
  refine ⟨?_, by simp⟩
  cases f with
  | nil => exact absurd rfl h0
  | cons c r => simp
theorem split59 : ∀ r : List Nat, 59 ∈ r → ∃ t, r = r.takeWhile (· != 59) ++ 59 :: t
  | [], h => by simp at h
  | c :: r, h => by
    by_cases hc : c = 59
    · subst hc; exact ⟨r, rfl⟩
    · obtain ⟨t, e⟩ := split59 r (by
        rcases List.mem_cons.mp h with h | h
        · exact absurd h.symm hc
        · exact h)
      refine ⟨t, ?_⟩
      rw [List.takeWhile_cons, if_pos (by simpa using hc), List.cons_append, ← e]
theorem name_some {r : List Nat} (h : nameAt (38 :: r) ≠ []) : ∃ t, r = nameAt (38 :: r) ++ 59 :: t := by
  rw [nameAt_cons] at h ⊢
  by_cases hc : r.contains 59 = true
  · rw [hc]
    simp only [beq_self_eq_true, Bool.and_self, if_true]
    exact split59 r (List.contains_iff_mem.mp hc)
  · rw [Bool.not_eq_true] at hc
    rw [hc] at h
    simp at h
theorem name_of {f t : List Nat} (h : 59 ∉ f) : nameAt (38 :: (f ++ 59 :: t)) = f := by
  rw [nameAt_cons, if_pos (by simp)]
  exact takeWhile_stop f t (fun c hc => by
    have : c ≠ 59 := by rintro rfl; exact h hc
    simpa using this) (by simp)
theorem numL_inv {b : Nat} {ok : Nat → Bool} {most : Nat} {f : List Nat} {d : Nat} (h : numL b ok most f = some d) : f ≠ [] ∧ (∀ c ∈ f, ok c = true) ∧ f.length ≤ most := by
  unfold numL at h
  split at h
  · cases h
  · rename_i h1
    simp only [Bool.or_eq_true, not_or, Bool.not_eq_true] at h1
    refine ⟨?_, ?_, ?_⟩
    · intro e; subst e; simp at h1
    · have : f.all ok = true := by simpa using h1.1.2
      exact List.all_eq_true.mp this
    · have := h1.2; simp at this; omega
theorem matL_of_sign {f t : List Nat} {d : Nat} (h : signL f = some d) : ∃ k, matL (f ++ 59 :: t) = some k := by
  unfold signL at h
  split at h
  · rename_i r
    split at h
    · rename_i x hx
      split at h
      · rename_i hxx
        obtain ⟨h1, h2, h3⟩ := numL_inv h
        have e := takenBy_all (ok := hexd) (most := 4294967295) (t := t) h1 h2 (by rfl) (by omega)
        show ∃ k, (match takenBy digd 7 (x :: hx ++ 59 :: t) with
          | some k => some (k + 1)
          | none => if x == 120 || x == 88 then (takenBy hexd 4294967295 (hx ++ 59 :: t)).map (· + 2) else none) = some k
        split
        · exact ⟨_, rfl⟩
        · rw [if_pos hxx, e]; exact ⟨_, rfl⟩
      · obtain ⟨h1, h2, h3⟩ := numL_inv h
        have e := takenBy_all (ok := digd) (most := 7) (t := t) h1 h2 (by rfl) (by omega)
        show ∃ k, (match takenBy digd 7 (x :: hx ++ 59 :: t) with
          | some k => some (k + 1)
          | none => if x == 120 || x == 88 then (takenBy hexd 4294967295 (hx ++ 59 :: t)).map (· + 2) else none) = some k
        rw [e]; exact ⟨_, rfl⟩
    · cases h
  · unfold namedL at h
    split at h
    · rename_i e; subst e; exact ⟨4, rfl⟩
    split at h
    · rename_i e; subst e; exact ⟨3, rfl⟩
    split at h
    · rename_i e; subst e; exact ⟨3, rfl⟩
    split at h
    · rename_i e; subst e; exact ⟨5, rfl⟩
    split at h
    · rename_i e; subst e; exact ⟨5, rfl⟩
    split at h
    · rename_i e; subst e; exact ⟨5, rfl⟩
    · cases h
theorem not_in {ok : Nat → Bool} {f : List Nat} {x : Nat} (h : ∀ c ∈ f, ok c = true) (hx : ok x = false) : x ∉ f := by
  intro hm; rw [h x hm] at hx; cases hx
theorem shape_parts {nm : List Nat} (h : Shape nm) : ∃ f, nm = f ++ [59] ∧ 59 ∉ f ∧ 38 ∉ nm := by
  cases h with
  | dig f h hd hl => exact ⟨35 :: f, rfl, by simpa using not_in hd (by rfl), by simpa using not_in hd (by rfl)⟩
  | hex x hx f h hd =>
    have hx2 : x = 120 ∨ x = 88 := by simpa using hx
    refine ⟨35 :: x :: f, rfl, ?_, ?_⟩
    · have := not_in (x := 59) hd (by rfl)
      simp only [List.mem_cons, not_or]; exact ⟨by omega, by omega, this⟩
    · have := not_in (x := 38) hd (by rfl)
      simp only [List.mem_cons, List.mem_append, not_or]; exact ⟨by omega, by omega, this, by omega, by simp⟩
  | name f h hd hl => exact ⟨f, rfl, not_in hd (by rfl), by simpa using not_in hd (by rfl)⟩
theorem un_read_n : ∀ (n : Nat) (l : List Nat), l.length ≤ n → unL l = readL l
  | _, [], _ => rfl
  | 0, c :: r, h => by simp at h
  | n + 1, c :: r, h => by
    simp only [List.length_cons] at h
    by_cases hc : c = 38
    · subst hc
      cases hm : matL r with
      | none =>
        have hs : signL (nameAt (38 :: r)) = none := by
          cases hs : signL (nameAt (38 :: r)) with
          | none => rfl
          | some d =>
            have hne : nameAt (38 :: r) ≠ [] := by
              intro e; rw [e] at hs; cases hs
            obtain ⟨t, e⟩ := name_some hne
            obtain ⟨k, hk⟩ := matL_of_sign (t := t) hs
            rw [← e, hm] at hk
            cases hk
        rw [unL_none (show atL (38 :: r) = none from hm), readL_none hs, un_read_n n r (by omega)]
      | some k =>
        obtain ⟨f, e, h59, h38⟩ := shape_parts (matL_shape hm)
        have hr : r = (f ++ [59]) ++ r.drop k := by rw [← e]; exact (List.take_append_drop k r).symm
        have hn : nameAt (38 :: r) = f := by
          rw [hr, List.append_assoc]; exact name_of h59
        have hk : k = f.length + 1 := by
          have h1 := congrArg List.length e
          have := matL_le hm
          rw [List.length_take, List.length_append] at h1
          simp only [List.length_cons, List.length_nil] at h1; omega
        rw [unL_some hm]
        have hrep : replL (r.take k) = match signL f with | some d => [d] | none => 38 :: (r.take k) := by
          unfold replL
          rw [e, drop_last]; try (cases signL f <;> rfl)
        rw [hrep]
        have ih := un_read_n n (r.drop k) (by rw [List.length_drop]; omega)
        cases hs : signL f with
        | some d =>
          rw [readL_some (d := d) (by rw [hn]; exact hs), hn, ← hk, ih]; rfl
        | none =>
          rw [readL_none (by rw [hn]; exact hs), ih]
          show 38 :: (r.take k ++ readL (r.drop k)) = _
          rw [← readL_skip _ _ h38, List.take_append_drop]
    · rw [unL_ne hc, readL_ne hc, un_read_n n r (by omega)]
theorem un_read (l : List Nat) : unL l = readL l := un_read_n l.length l (Nat.le_refl _)
theorem unL_len (l : List Nat) : (unL l).length ≤ l.length := by rw [un_read]; exact readL_len _ _ (Nat.le_refl _)
theorem escL_len (q : Bool) (l : List Nat) : (escL q l).length ≤ 6 * l.length := flatMap_len _ 6 _ fun c _ => by have := escOne_len q c; rw [lenS] at this; exact this
/-- no surrogate is read -/
theorem numOk_sur {n : Nat} (h : numOk n = true) : Str.isSurrogate n = false := by
  unfold numOk at h
  unfold Str.isSurrogate
  split at h
  · simp; omega
  · simp at h ⊢; omega
theorem signL_sur {l : List Nat} {d : Nat} (h : signL l = some d) : Str.isSurrogate d = false := by
  have hn : ∀ {b ok most f}, numL b ok most f = some d → Str.isSurrogate d = false := by
    intro b ok most f h
    unfold numL at h
    split at h
    · cases h
    split at h
    · rename_i h2; injection h with h; rw [← h]; exact numOk_sur h2
    · cases h
  unfold signL at h
  split at h
  · split at h
    · split at h
      · exact hn h
      · exact hn h
    · cases h
  · unfold namedL at h
    (repeat' split at h) <;> first | (injection h with h; subst h; rfl) | cases h
theorem readL_sur : ∀ (n : Nat) (l : List Nat), l.length ≤ n → (∀ c ∈ l, Str.isSurrogate c = false) → ∀ c ∈ readL l, Str.isSurrogate c = false
  | _, [], _, _ => fun c hc => by simp [readL, readN] at hc
  | 0, c :: r, h, _ => by simp at h
  | n + 1, c :: r, h, hg => by
    simp only [List.length_cons] at h
    cases hs : signL (nameAt (c :: r)) with
    | none =>
      rw [readL_none hs]
      intro x hx
      rcases List.mem_cons.mp hx with rfl | hx
      · exact hg _ List.mem_cons_self
      · exact readL_sur n r (by omega) (fun y hy => hg y (List.mem_cons_of_mem _ hy)) x hx
    | some d =>
      rw [readL_some hs]
      intro x hx
      rcases List.mem_cons.mp hx with rfl | hx
      · exact signL_sur hs
      · exact readL_sur n _ (by rw [List.length_drop]; omega) (fun y hy => hg y (List.mem_cons_of_mem _ (List.mem_of_mem_drop hy))) x hx
theorem escL_sur {q : Bool} {l : List Nat} (h : ∀ c ∈ l, Str.isSurrogate c = false) : ∀ c ∈ escL q l, Str.isSurrogate c = false := by
  intro c hc
  obtain ⟨d, hd, hc⟩ := List.mem_flatMap.mp hc
  unfold escOne at hc
  (repeat' split at hc)
  · exact (by decide : ∀ c ∈ [38, 97, 109, 112, 59], Str.isSurrogate c = false) c hc
  · exact (by decide : ∀ c ∈ [38, 108, 116, 59], Str.isSurrogate c = false) c hc
  · exact (by decide : ∀ c ∈ [38, 103, 116, 59], Str.isSurrogate c = false) c hc
  · exact (by decide : ∀ c ∈ [38, 113, 117, 111, 116, 59], Str.isSurrogate c = false) c hc
  · rw [List.mem_singleton.mp hc]; exact h d hd
end Mine
end PartL0
section PartB2
open PySem PySem.W PyProof.Rows PySem.Calls
namespace Mine
section
variable {w : World} {base h₀ : Heap} {L a : Addr} {m mg mb : Str → Option Value} {mean : ExcName → Option Value} {b : Bool} {d u dp un : Nat} {f : Addr} {vs : List Value} {kw : List (Str × Value)} {P : Value → Prop} {H : Heap → Prop} {gd : Option (List Code)} {cn : Str} {cs : Scope} {ccd : Value} {cl : List (Str × Addr)} {outer : List Env} {A₀ : Around} {s : Shared} {Q E : Value → Shared → Prop} {news : List (Addr × Obj)}
theorem con_useH (C : ConH w b d u f vs kw H P) (hH : H s.heap) (B : Below A₀ base outer h₀) (F : Fr h₀ L s.heap m) (X : (hd.heap_39 w.params).In h₀) (N : News h₀ L s.heap news) (T : Top hd.view_39 LO mean mg mb h₀) (hk : cs.kind = .function) (hd : dp + d < recursionLimit) (hu : un + u < cLine) (ht : b = true → 0 < s.toks)
    (h : ∀ v h' tk', P v → Fr h₀ L h' m → News h₀ L h' news → s.toks ≤ tk' → Q v { s with heap := h', toks := tk' }) :
    wpAny (model PySem.Challenge.rw_ci0009_01.row.prog w) (ktrTop dp un gd cn cs L a ccd cl outer) (call (.ref f) vs kw) Q E s :=
  C mean mg mb dp un gd cn cs a ccd cl outer A₀ base h₀ L m s Q E hH B F X T hk hd hu ht fun v h' tk' hp hk' htk => h v h' tk' hp (F.keeps hk') (N.grown hk') htk
theorem con_useT (C : Con w b d u f vs kw P) (B : Below A₀ base outer h₀) (F : Fr h₀ L s.heap m) (X : (hd.heap_39 w.params).In h₀) (N : News h₀ L s.heap news) (T : Top hd.view_39 LO mean mg mb h₀) (hk : cs.kind = .function) (hd : dp + d < recursionLimit) (hu : un + u < cLine) (ht : 0 < s.toks)
    (h : ∀ v h' tk', P v → Fr h₀ L h' m → News h₀ L h' news → 0 < tk' → Q v { s with heap := h', toks := tk' }) :
    wpAny (model PySem.Challenge.rw_ci0009_01.row.prog w) (ktrTop dp un gd cn cs L a ccd cl outer) (call (.ref f) vs kw) Q E s :=
  C mean mg mb dp un gd cn cs a ccd cl outer A₀ base h₀ L m s Q E B F X T hk hd hu (fun _ => ht) fun v h' tk' hp hk' htk => h v h' tk' hp (F.keeps hk') (N.grown hk') (Nat.lt_of_lt_of_le ht htk)
theorem con_useHT (C : ConH w b d u f vs kw H P) (hH : H s.heap) (B : Below A₀ base outer h₀) (F : Fr h₀ L s.heap m) (X : (hd.heap_39 w.params).In h₀) (N : News h₀ L s.heap news) (T : Top hd.view_39 LO mean mg mb h₀) (hk : cs.kind = .function) (hd : dp + d < recursionLimit) (hu : un + u < cLine) (ht : 0 < s.toks)
    (h : ∀ v h' tk', P v → Fr h₀ L h' m → News h₀ L h' news → 0 < tk' → Q v { s with heap := h', toks := tk' }) :
    wpAny (model PySem.Challenge.rw_ci0009_01.row.prog w) (ktrTop dp un gd cn cs L a ccd cl outer) (call (.ref f) vs kw) Q E s :=
  C mean mg mb dp un gd cn cs a ccd cl outer A₀ base h₀ L m s Q E hH B F X T hk hd hu (fun _ => ht) fun v h' tk' hp hk' htk => h v h' tk' hp (F.keeps hk') (N.grown hk') (Nat.lt_of_lt_of_le ht htk)
end
theorem isList_keep {h h' : Heap} {a : Addr} {its : Array Value} (x : h.IsList a its) (k : ∀ q o, h.get? q = some o → h'.get? q = some o) : h'.IsList a its :=
  let ⟨o, ho, r⟩ := x; ⟨o, k _ _ ho, r⟩
def GotInt (v : Value) : Prop := ∃ (n : Int) (tk : Tok), v = .int n tk
end Mine
end PartB2
section PartL1
open PySem PySem.W PyProof.Rows PySem.Calls PySem.Builtin
namespace Mine
/-- the pieces of the law's text -/
def pieceS : List Str := [Str.ofString "a", Str.ofString "&", Str.ofString "<", Str.ofString ">", Str.ofString "\"", Str.ofString " ", Str.ofString "%", Str.ofString "%41", Str.ofString "%zz", Str.ofString "&amp;", Str.ofString "&lt;", Str.ofString "&#65;", Str.ofString "&#x41;", Str.ofString "&#0;", Str.ofString "&#00000065;", Str.ofString "&#xD800;", Str.ofString "&nope;", Str.ofString "&copy;", Str.ofString "é", Str.ofString "中", Str.ofString ";", Str.ofString "#", Str.ofString "&#x;", Str.ofString "&gt;x", Str.ofString "/", Str.ofString "?", Str.ofString "&quot;", Str.ofString "\t", Str.ofString "B b", Str.ofString "&#128512;", Str.ofString "&&amp;", Str.ofString "'", Str.ofString "&nbsp;", Str.ofString "&#X6a;", Str.ofString "&#x9;", Str.ofString "&#x1F600;", Str.ofString "&#0000065;", Str.ofString "&#1114112;", Str.ofString "&#12;", Str.ofString "&#130;", Str.ofString "&#64976;", Str.ofString "&#65534;", Str.ofString "&AMP;", Str.ofString ":@!$", Str.ofString "()*+,=", Str.ofString "_.-~", Str.ofString "[]\\^", Str.ofString "{|}", Str.ofString "&copy", Str.ofString "&#65", Str.ofString "&lt", Str.ofString "&#x0000041;", Str.ofString "&#10;"]
/-- a sign of the law's text -/
def okc (c : Nat) : Bool := c == 9 || (32 ≤ c && c < 127) || c == 233 || c == 20013
theorem pieces_ok : ∀ x ∈ pieceS, x.cps.toList.all okc = true ∧ x.length ≤ 11 := by decide +kernel
/-- a text of the law -/
def Row (l : List Nat) : Prop := l.length ≤ 77 ∧ ∀ c ∈ l, okc c = true
theorem Row.len {l : List Nat} (h : Row l) : l.length ≤ 77 := h.1
theorem Row.unlen {l : List Nat} (h : Row l) : (unL l).length ≤ 77 := Nat.le_trans (unL_len l) h.1
theorem Row.qlen {l : List Nat} (h : Row l) : (S (quoL [47] l)).length ≤ 924 := by
  have := quoL_len [47] l
  have := h.1
  rw [lenS]; omega
theorem Row.slen {l : List Nat} (h : Row l) : (S l).length ≤ 77 := by rw [lenS]; exact h.1
theorem S_eta (x : Str) : x = S x.cps.toList := by apply Str.ext'; simp
theorem row_cat : ∀ (xs : List Str), xs.length ≤ 7 → (∀ x ∈ xs, x ∈ pieceS) → ∃ l, Txt.join (Str.ofString "") xs = S l ∧ Row l := by
  intro xs hl hx
  have h1 : Txt.join (Str.ofString "") xs = S (xs.map (·.cps.toList)).flatten := by
    rw [show Txt.join (Str.ofString "") xs = Str.join (Str.ofString "") xs from StrLaws.glued_eq_join _ _, ← join_empty, List.map_map]
    congr 1
    exact ((List.map_congr_left fun x _ => (S_eta x).symm).trans (List.map_id _)).symm
  refine ⟨_, h1, ?_, ?_⟩
  · have : ∀ xs : List Str, (∀ x ∈ xs, x ∈ pieceS) → (xs.map (·.cps.toList)).flatten.length ≤ 11 * xs.length := by
      intro xs
      induction xs with
      | nil => intro _; simp
      | cons x r ih =>
        intro h
        have h2 := ih fun y hy => h y (List.mem_cons_of_mem _ hy)
        have h3 := (pieces_ok x (h x List.mem_cons_self)).2
        have h4 : x.cps.toList.length = x.length := by simp [Str.length]
        simp only [List.map_cons, List.flatten_cons, List.length_append, List.length_cons, h4] at *
        omega
    have := this xs hx
    omega
  · intro c hc
    obtain ⟨y, hy, hc⟩ := List.mem_flatten.mp hc
    obtain ⟨x, hx2, rfl⟩ := List.mem_map.mp hy
    exact List.all_eq_true.mp (pieces_ok x (hx x hx2)).1 c hc
section
variable {prog : Program} {w : World} {A : Around} {E : Value → Shared → Prop} {s : Shared} {h₀ : Heap} {L : Addr} {m : Str → Option Value} {news : List (Addr × Obj)}
theorem strs_at : ∀ {l : List Value} {xs : List Str} (i : Nat), StrsAre l xs → i < xs.length → ∃ t x, l[i]? = some (.str x t) ∧ x ∈ xs
  | _, _, _, .nil, h => by simp at h
  | _, _, 0, .cons x t r, _ => ⟨t, x, rfl, List.mem_cons_self⟩
  | _, _, i + 1, .cons x t r, h => by
    obtain ⟨t', x', e, hm⟩ := strs_at i r (by simpa using h)
    exact ⟨t', x', by simpa using e, List.mem_cons_of_mem _ hm⟩
theorem item_strs {value slice : PySem.Expr} {l : Addr} {its : Array Value} {n : Nat} {xs : List Str} {k : Int} {u : Tok} {Q : Value → Shared → Prop} (N : News h₀ L s.heap news) (hm : (l, W.listOf its n) ∈ news) (hx : StrsAre its.toList xs) (h0 : 0 ≤ k) (h1 : k < xs.length) (hz : xs.length ≤ 1000)
    (h : ∀ x t, x ∈ xs → Q (.str x t) s)
    (hs : subscripted slice false (.ref l) (.int k u) = operate [.ref l, .int k u] (getItem (.ref l) (.int k u)) := by with_unfolding_all rfl) :
    wpAny (model prog w) A (subscriptTail value slice (.ref l) (.int k u)) Q E s := by
  have hl : s.heap.IsList l its := News.isList N hm
  obtain ⟨t, x, e, hmx⟩ := strs_at k.toNat hx (by omega)
  exact tail_any hl.typeIs slot_list_getitem.lookup (wpAny_getItem_list hl h0 (by omega) (by simpa using e) (h x t hmx)) hs
theorem strs_of {base h : Heap} {l : Addr} {its : Array Value} {n : Nat} {r : List (Addr × Obj)} {xs : List Str} (_ : News base L h ((l, W.listOf its n) :: r)) (hs : StrsAre its.toList xs) : StrsAre its.toList xs := hs
theorem strs_got : ∀ (ys : List Value), (∀ y ∈ ys, ∃ x t, x ∈ pieceS ∧ y = Value.str x t) → ∃ xs, StrsAre ys xs ∧ xs.length = ys.length ∧ ∀ x ∈ xs, x ∈ pieceS
  | [], _ => ⟨[], .nil, rfl, fun x h => by simp at h⟩
  | y :: ys, h => by
    obtain ⟨xs, h1, h2, h3⟩ := strs_got ys fun y hy => h y (List.mem_cons_of_mem _ hy)
    obtain ⟨x, t, hx, rfl⟩ := h y List.mem_cons_self
    refine ⟨x :: xs, .cons x t h1, by simp [h2], ?_⟩
    intro z hz
    rcases List.mem_cons.mp hz with rfl | hz
    · exact hx
    · exact h3 z hz
theorem src_range7 {env : Env} {elt : Expr} {x : Str} {scope : Scope} {cl : List (Str × Addr)} {Fin : Shared → List Value → List (Addr × Obj) → Prop} {r : Addr} {n9 : Int} {t u v : Tok} {s₁ : Shared}
    (hh : A.handled = none) (F : Fr h₀ L s₁.heap m) (N : News h₀ L s₁.heap news) (hr : IsRange s₁.heap r 0 (1 + n9.fmod 7) 1 t u v)
    (h : ∀ (n : Nat) (g : Heap), n ≤ 7 → LCg.CompRest prog w A h₀ L m env elt x scope cl { s₁ with heap := g } (fun _ => True) (fun i v => ∃ t, v = .int (0 + (i : Int)) t) (Fin { s₁ with heap := g }) n 0 [] news) :
    LCg.CompSrc prog w A h₀ L m env elt x scope cl Fin (.ref r) s₁ := by
  have h1 : 0 ≤ n9.fmod 7 := by rw [Int.fmod_eq_emod_of_nonneg _ (by omega)]; omega
  have h2 : n9.fmod 7 < 7 := by rw [Int.fmod_eq_emod_of_nonneg _ (by omega)]; omega
  refine LCg.CompSrc.range hh F N hr (small_one (by omega) (by omega) (by omega) (by omega)) (rangeSize_nat _ _) (by rw [sizeLine_eq]; omega) fun g => h _ g (by omega)
theorem fmod53 (n : Int) : 0 ≤ n.fmod 53 ∧ n.fmod 53 < 53 := by rw [Int.fmod_eq_emod_of_nonneg _ (by omega)]; omega
end
theorem piece_at (n : Int) : pieceS.getD (n.fmod 53).toNat Str.empty ∈ pieceS := by
  have h := fmod53 n
  have h2 : (n.fmod 53).toNat < pieceS.length := by
    rw [show pieceS.length = 53 from by rfl]; omega
  rw [List.getD, List.getElem?_eq_getElem h2]
  exact List.getElem_mem h2
theorem strs_weigh : ∀ {xs : List Str}, (∀ x ∈ xs, x ∈ pieceS) → (xs.map (·.length)).sum + xs.length ≤ 12 * xs.length
  | [], _ => by simp
  | x :: r, h => by
    have h1 := strs_weigh fun y hy => h y (List.mem_cons_of_mem _ hy)
    have h2 := (pieces_ok x (h x List.mem_cons_self)).2
    simp only [List.map_cons, List.sum_cons, List.length_cons] at *
    omega
end Mine
end PartL1
section PartL2
open PySem PySem.W PyProof.Rows PySem.Calls PySem.Builtin
namespace Mine
/-! the label's key -/
abbrev zU : List Nat := [58, 47, 63, 35, 64, 33, 36, 38, 40, 41, 42, 43, 44, 59, 61, 37]
def blank (c : Nat) : Bool := c == 9 || c == 10 || c == 32
/-- words of a text, by a scan: what is whole, and the run -/
def wstep (st : List (List Nat) × List Nat) (c : Nat) : List (List Nat) × List Nat := if blank c then (if st.2 = [] then st else (st.1 ++ [st.2], [])) else (st.1, st.2 ++ [c])
def wfin (st : List (List Nat) × List Nat) : List (List Nat) := if st.2 = [] then st.1 else st.1 ++ [st.2]
def wordsL (l : List Nat) : List (List Nat) := wfin (l.foldl wstep ([], []))
def upc (c : Nat) : Nat := if 97 ≤ c && c ≤ 122 then c - 32 else if c == 233 then 201 else c
def joinL (ws : List (List Nat)) : List Nat := match ws with
  | [] => []
  | [a] => a
  | a :: b :: r => a ++ 32 :: joinL (b :: r)
def keyL (l : List Nat) : List Nat := joinL ((wordsL l).map (·.map upc))
section
variable {prog : Program} {w : World} {A : Around} {E : Value → Shared → Prop} {s : Shared} {x : Str} {t u : Tok} {Q : Value → Shared → Prop}
theorem ne_same (h : Q (.bool false) s) : wpAny (model prog w) A (compareOp .NotEq (.str x t) (.str x u)) Q E s := ne_str (by rw [bne_self_eq_false]; exact h)
theorem eq_same (h : Q (.bool true) s) : wpAny (model prog w) A (compareOp .Eq (.str x t) (.str x u)) Q E s := eq_str (by rw [beq_self_eq_true]; exact h)
def tabL (l : List Nat) : List Nat := l.flatMap (subOne 9 [32])
def spL (l : List Nat) : List Nat := l.flatMap (subOne 32 [32, 10, 32])
theorem tabL_len (l : List Nat) : (tabL l).length ≤ 1 * l.length := flatMap_len _ 1 _ fun c _ => by unfold subOne; split <;> simp
theorem spL_len (l : List Nat) : (spL l).length ≤ 3 * l.length := flatMap_len _ 3 _ fun c _ => by unfold subOne; split <;> simp
theorem rep_tab {l : List Nat} {t u v : Tok} (hl : (S l).length ≤ 77) (hu : @LT.lt Nat _ 0 u) (hv : @LT.lt Nat _ 0 v) (huv : @Ne Nat u v) (hn : 0 < s.toks)
    (hq : ∀ t' k, 0 < k → (S (tabL l)).length ≤ 77 → Q (.str (S (tabL l)) t') { s with toks := k }) : wpAny (model prog w) A (call (.builtin "str.replace") [.str (S l) t, .str (Str.ofString "\t") u, .str (Str.ofString " ") v]) Q E s := by
  refine wpAny_with_toks (n := 1) hn (replaceP 100 1 (by decide) hu hv huv (by decide +kernel) (by omega) (by decide +kernel) fun t' k _ hk => ?_)
  have h := hq t' k hk (by have := tabL_len l; rw [lenS] at hl ⊢; omega)
  rw [show Str.ofString "\t" = ⟨#[9]⟩ from by decide +kernel, show Str.ofString " " = S [32] from by decide +kernel, replace_sub]
  exact h
theorem rep_sp {l : List Nat} {t u v : Tok} (hl : (S l).length ≤ 77) (hu : @LT.lt Nat _ 0 u) (hv : @LT.lt Nat _ 0 v) (huv : @Ne Nat u v) (hn : 0 < s.toks)
    (hq : ∀ t' k, 0 < k → (S (spL l)).length ≤ 231 → Q (.str (S (spL l)) t') { s with toks := k }) : wpAny (model prog w) A (call (.builtin "str.replace") [.str (S l) t, .str (Str.ofString " ") u, .str (Str.ofString " \n ") v]) Q E s := by
  refine wpAny_with_toks (n := 1) hn (replaceP 100 3 (by decide) hu hv huv (by decide +kernel) (by omega) (by decide +kernel) fun t' k _ hk => ?_)
  have h := hq t' k hk (by have := spL_len l; rw [lenS] at hl ⊢; omega)
  rw [show Str.ofString " " = ⟨#[32]⟩ from by decide +kernel, show Str.ofString " \n " = S [32, 10, 32] from by decide +kernel, replace_sub]
  exact h
end
end Mine
end PartL2
section PartL3
open PySem PySem.W PyProof.Rows PySem.Calls PySem.Builtin
namespace Mine
/-- a sign that a key may meet -/
def kc (c : Nat) : Bool := c == 9 || c == 10 || (32 ≤ c && c < 127) || c == 233 || c == 201 || c == 20013
theorem kc_cases {P : Nat → Prop} (h0 : ∀ c, c < 127 → kc c = true → P c) (h1 : P 233) (h2 : P 201) (h3 : P 20013) (c : Nat) (h : kc c = true) : P c := by
  by_cases hc : c < 127
  · exact h0 c hc h
  · have : c = 233 ∨ c = 201 ∨ c = 20013 := by simp [kc] at h; omega
    rcases this with rfl | rfl | rfl <;> assumption
theorem ok_kc {c : Nat} (h : okc c = true) : kc c = true := by simp [okc] at h; simp [kc]; omega
theorem space_kc : ∀ c, kc c = true → Unicode.isSpace c = blank c := kc_cases (by decide +kernel) (by decide +kernel) (by decide +kernel) (by decide +kernel)
def lwc (c : Nat) : Nat := if 65 ≤ c && c ≤ 90 then c + 32 else if c == 201 then 233 else c
theorem lower_kc : ∀ c, kc c = true → Unicode.lowerOf c = [lwc c] := kc_cases (by decide +kernel) (by decide +kernel) (by decide +kernel) (by decide +kernel)
theorem upper_kc : ∀ c, kc c = true → Unicode.upperOf c = [upc c] := kc_cases (by decide +kernel) (by decide +kernel) (by decide +kernel) (by decide +kernel)
theorem kc_lwc : ∀ c, kc c = true → kc (lwc c) = true := kc_cases (by decide +kernel) (by decide +kernel) (by decide +kernel) (by decide +kernel)
theorem kc_upc : ∀ c, kc c = true → kc (upc c) = true := kc_cases (by decide +kernel) (by decide +kernel) (by decide +kernel) (by decide +kernel)
theorem up_lwc : ∀ c, kc c = true → upc (lwc c) = upc c := kc_cases (by decide +kernel) (by decide +kernel) (by decide +kernel) (by decide +kernel)
theorem up_upc : ∀ c, kc c = true → upc (upc c) = upc c := kc_cases (by decide +kernel) (by decide +kernel) (by decide +kernel) (by decide +kernel)
theorem blank_upc : ∀ c, kc c = true → blank c = false → blank (upc c) = false := kc_cases (by decide +kernel) (by decide +kernel) (by decide +kernel) (by decide +kernel)
theorem placed_map {l : List Nat} {f : Nat → Nat → List Nat} {g : Nat → Nat} (h : ∀ i c, l[i]? = some c → f i c = [g c]) : placed (S l) f = (l.map g).toArray := by
  unfold placed
  have : (S l).cps.mapIdx (fun i c => (f i c).toArray) = (l.map fun c => #[g c]).toArray := by
    show l.toArray.mapIdx _ = _
    apply Array.ext
    · simp
    · intro i h1 h2
      simp only [Array.getElem_mapIdx, List.getElem_toArray, List.getElem_map]
      rw [h i _ (List.getElem?_eq_getElem (by simpa using h1))]
  rw [this]
  rw [Array.flatten_toArray]
  congr 1
  clear this h f
  induction l with
  | nil => rfl
  | cons c r ih =>
    simp only [List.map_map] at ih
    simp [ih]
theorem lower_S {l : List Nat} (h : ∀ c ∈ l, kc c = true) : Txt.lower (S l) = S (l.map lwc) := by
  unfold Txt.lower
  congr 1
  refine placed_map fun i c hc => ?_
  have hm : c ∈ l := List.mem_of_getElem? hc
  unfold Unicode.lowerAt
  have e : (S l).cps[i]? = some c := by simpa using hc
  rw [e]
  have : (c == 0x3A3) = false := by have := h c hm; simp [kc] at this; simp; omega
  simp only [this, Bool.false_and, Bool.false_eq_true, if_false]
  exact lower_kc c (h c hm)
theorem upper_S {l : List Nat} (h : ∀ c ∈ l, kc c = true) : Txt.upper (S l) = S (l.map upc) := by
  unfold Txt.upper
  congr 1
  exact placed_map fun i c hc => upper_kc c (h c (List.mem_of_getElem? hc))
theorem uplow_S {l : List Nat} (h : ∀ c ∈ l, kc c = true) : Txt.upper (Txt.lower (S l)) = S (l.map upc) := by
  rw [lower_S h, upper_S (by intro c hc; obtain ⟨d, hd, rfl⟩ := List.mem_map.mp hc; exact kc_lwc d (h d hd)), List.map_map]
  exact congrArg S (List.map_congr_left fun c hc => up_lwc c (h c hc))
/-! words -/
theorem scan_rel : ∀ (l : List Nat) (st : List (List Nat) × List Nat), (∀ c ∈ l, kc c = true) →
    l.foldl KWd.step (st.1.map S, S st.2) = ((l.foldl wstep st).1.map S, S (l.foldl wstep st).2)
  | [], _, _ => rfl
  | c :: r, st, h => by
    have hs := space_kc c (h c List.mem_cons_self)
    have e : KWd.step (st.1.map S, S st.2) c = ((wstep st c).1.map S, S (wstep st c).2) := by
      unfold KWd.step wstep
      rw [hs]
      cases blank c
      · simp only [Bool.false_eq_true, if_false]
        have : S st.2 ++ ⟨#[c]⟩ = S (st.2 ++ [c]) := S_append st.2 [c]
        rw [this]
      · simp only [if_true]
        by_cases h0 : st.2 = []
        · rw [if_pos h0, if_pos (by rw [lenS, h0]; rfl)]
        · rw [if_neg h0, if_neg (by rw [lenS]; intro e; exact h0 (List.length_eq_zero_iff.mp e))]
          simp [Str.empty]
    rw [List.foldl_cons, e, scan_rel r _ fun d hd => h d (List.mem_cons_of_mem _ hd)]
    rfl
theorem words_S {l : List Nat} (h : ∀ c ∈ l, kc c = true) : Txt.words (S l) = (wordsL l).map S := by
  rw [KWd.words_scan]
  have : KWd.scan (S l) = l.foldl KWd.step (([] : List (List Nat)).map S, S []) := rfl
  rw [this, scan_rel l ([], []) h]
  unfold KWd.fin wordsL wfin
  by_cases h0 : (l.foldl wstep ([], [])).2 = []
  · rw [if_pos h0, if_pos (by rw [lenS, h0]; rfl)]
  · rw [if_neg h0, if_neg (by rw [lenS]; intro e; exact h0 (List.length_eq_zero_iff.mp e))]
    simp
/-- words are words: not empty, of signs of the text that are no blanks -/
def Wd (p : Nat → Prop) (st : List (List Nat) × List Nat) : Prop := (∀ w ∈ st.1, w ≠ [] ∧ ∀ c ∈ w, blank c = false ∧ p c) ∧ ∀ c ∈ st.2, blank c = false ∧ p c
theorem wd_run {p : Nat → Prop} : ∀ (l : List Nat) (st : List (List Nat) × List Nat), (∀ c ∈ l, p c) → Wd p st → Wd p (l.foldl wstep st)
  | [], _, _, h => h
  | c :: r, st, hp, h => by
    refine wd_run r _ (fun d hd => hp d (List.mem_cons_of_mem _ hd)) ?_
    unfold wstep
    split
    · split
      · exact h
      · rename_i h0
        refine ⟨fun w hw => ?_, fun c hc => by simp at hc⟩
        rcases List.mem_append.mp hw with hw | hw
        · exact h.1 w hw
        · rw [List.mem_singleton.mp hw]; exact ⟨h0, h.2⟩
    · rename_i hb
      refine ⟨h.1, fun d hd => ?_⟩
      rcases List.mem_append.mp hd with hd | hd
      · exact h.2 d hd
      · rw [List.mem_singleton.mp hd]; exact ⟨by simpa using hb, hp c List.mem_cons_self⟩
theorem words_are {p : Nat → Prop} {l : List Nat} (hp : ∀ c ∈ l, p c) : ∀ w ∈ wordsL l, w ≠ [] ∧ ∀ c ∈ w, blank c = false ∧ p c := by
  have h := wd_run (p := p) l ([], []) hp ⟨fun w hw => by simp at hw, fun c hc => by simp at hc⟩
  unfold wordsL wfin
  split
  · exact h.1
  · rename_i h0
    intro w hw
    rcases List.mem_append.mp hw with hw | hw
    · exact h.1 w hw
    · rw [List.mem_singleton.mp hw]; exact ⟨h0, h.2⟩
theorem run_free : ∀ (q : List Nat) (ws : List (List Nat)) (r : List Nat), (∀ c ∈ q, blank c = false) → q.foldl wstep (ws, r) = (ws, r ++ q)
  | [], ws, r, _ => by simp
  | c :: q, ws, r, h => by
    have : wstep (ws, r) c = (ws, r ++ [c]) := by unfold wstep; rw [h c List.mem_cons_self]; rfl
    rw [List.foldl_cons, this, run_free q ws (r ++ [c]) fun d hd => h d (List.mem_cons_of_mem _ hd)]
    simp
theorem wfin_join : ∀ (ps : List (List Nat)) (ws : List (List Nat)), (∀ q ∈ ps, ∀ c ∈ q, blank c = false) → wfin ((joinL ps).foldl wstep (ws, [])) = ws ++ ps.filter fun q => !q.isEmpty
  | [], ws, _ => by simp [joinL, wfin]
  | [a], ws, h => by
    show wfin (a.foldl wstep (ws, [])) = _
    rw [run_free a ws [] (h a List.mem_cons_self), List.nil_append]
    unfold wfin
    cases a <;> simp
  | a :: b :: r, ws, h => by
    show wfin ((a ++ 32 :: joinL (b :: r)).foldl wstep (ws, [])) = _
    rw [List.foldl_append, run_free a ws [] (h a List.mem_cons_self), List.nil_append, List.foldl_cons]
    have ih := fun ws => wfin_join (b :: r) ws fun q hq => h q (List.mem_cons_of_mem _ hq)
    cases a with
    | nil =>
      have : wstep (ws, []) 32 = (ws, []) := rfl
      rw [this, ih]
      simp
    | cons x y =>
      have : wstep (ws, x :: y) 32 = (ws ++ [x :: y], []) := rfl
      rw [this, ih]
      simp
theorem words_join {ps : List (List Nat)} (h : ∀ q ∈ ps, ∀ c ∈ q, blank c = false) : wordsL (joinL ps) = ps.filter fun q => !q.isEmpty := by
  unfold wordsL; rw [wfin_join ps [] h, List.nil_append]
theorem wstep_two {b1 b2 : Nat} (h1 : blank b1 = true) (h2 : blank b2 = true) (st : List (List Nat) × List Nat) : wstep (wstep st b1) b2 = wstep st b1 := by
  unfold wstep
  rw [h1, h2]
  simp only [if_true]
  split <;> simp [*]
theorem wstep_blank {b1 b2 : Nat} (h1 : blank b1 = true) (h2 : blank b2 = true) (st : List (List Nat) × List Nat) : wstep st b1 = wstep st b2 := by
  unfold wstep
  rw [h1, h2]; rfl
theorem run_tab : ∀ (l : List Nat) (st : List (List Nat) × List Nat), (tabL l).foldl wstep st = l.foldl wstep st
  | [], _ => rfl
  | c :: r, st => by
    unfold tabL
    rw [List.flatMap_cons, List.foldl_append, List.foldl_cons]
    rw [show (subOne 9 [32] c).foldl wstep st = wstep st c from by
      unfold subOne
      split
      · rename_i e; subst e; exact wstep_blank (b1 := 32) (b2 := 9) rfl rfl st
      · rfl]
    exact run_tab r _
theorem run_sp : ∀ (l : List Nat) (st : List (List Nat) × List Nat), (spL l).foldl wstep st = l.foldl wstep st
  | [], _ => rfl
  | c :: r, st => by
    unfold spL
    rw [List.flatMap_cons, List.foldl_append, List.foldl_cons]
    rw [show (subOne 32 [32, 10, 32] c).foldl wstep st = wstep st c from by
      unfold subOne
      split
      · rename_i e; subst e
        show wstep (wstep (wstep st 32) 10) 32 = _
        rw [wstep_two rfl rfl, wstep_two rfl rfl]
      · rfl]
    exact run_sp r _
theorem words_tab (l : List Nat) : wordsL (tabL l) = wordsL l := by unfold wordsL; rw [run_tab]
theorem words_pad (l : List Nat) : wordsL ([32, 32] ++ spL l ++ [9]) = wordsL l := by
  unfold wordsL
  rw [List.foldl_append, List.foldl_append, run_sp]
  show wfin (wstep (l.foldl wstep ([], [])) 9) = _
  generalize l.foldl wstep ([], []) = st
  unfold wstep wfin
  rw [show blank 9 = true from rfl]
  simp only [if_true]
  by_cases h : st.2 = [] <;> simp [h]
/-! joins -/
theorem join_S : ∀ ws : List (List Nat), Txt.join (Str.ofString " ") (ws.map S) = S (joinL ws) := by
  intro ws
  rw [show Txt.join (Str.ofString " ") (ws.map S) = Str.join (Str.ofString " ") (ws.map S) from StrLaws.glued_eq_join _ _]
  rw [show Str.ofString " " = S [32] from by decide +kernel]
  induction ws with
  | nil => rfl
  | cons a r ih =>
    cases r with
    | nil => rfl
    | cons b r =>
      rw [List.map_cons, List.map_cons, join_cons_cons, ← List.map_cons, ih, S_append, S_append]
      exact congrArg S (List.append_assoc a [32] (joinL (b :: r)))
theorem joinL_map {f : Nat → Nat} (h : f 32 = 32) : ∀ ws : List (List Nat), (joinL ws).map f = joinL (ws.map (·.map f))
  | [] => rfl
  | [a] => rfl
  | a :: b :: r => by
    show (a ++ 32 :: joinL (b :: r)).map f = a.map f ++ 32 :: joinL ((b :: r).map (·.map f))
    rw [List.map_append, List.map_cons, h, joinL_map h (b :: r)]
theorem joinL_mem : ∀ (ws : List (List Nat)) (c : Nat), c ∈ joinL ws → c = 32 ∨ ∃ w ∈ ws, c ∈ w
  | [], c, h => by simp [joinL] at h
  | [a], c, h => .inr ⟨a, List.mem_cons_self, h⟩
  | a :: b :: r, c, h => by
    have h : c ∈ a ++ 32 :: joinL (b :: r) := h
    rcases List.mem_append.mp h with h | h
    · exact .inr ⟨a, List.mem_cons_self, h⟩
    · rcases List.mem_cons.mp h with h | h
      · exact .inl h
      · rcases joinL_mem (b :: r) c h with h | ⟨w, hw, hc⟩
        · exact .inl h
        · exact .inr ⟨w, List.mem_cons_of_mem _ hw, hc⟩
theorem joinL_head : ∀ (ws : List (List Nat)) (c : Nat), (∀ w ∈ ws, w ≠ []) → (joinL ws).head? = some c → ∃ w ∈ ws, c ∈ w
  | [], c, _, h => by simp [joinL] at h
  | [a], c, _, h => ⟨a, List.mem_cons_self, List.mem_of_head? h⟩
  | a :: b :: r, c, hn, h => by
    have h : (a ++ 32 :: joinL (b :: r)).head? = some c := h
    cases a with
    | nil => exact absurd rfl (hn [] List.mem_cons_self)
    | cons x y =>
      refine ⟨x :: y, List.mem_cons_self, ?_⟩
      simp at h
      rw [← h]; exact List.mem_cons_self
theorem joinL_last : ∀ (ws : List (List Nat)) (c : Nat), (∀ w ∈ ws, w ≠ []) → (joinL ws).getLast? = some c → ∃ w ∈ ws, c ∈ w
  | [], c, _, h => by simp [joinL] at h
  | [a], c, _, h => ⟨a, List.mem_cons_self, List.mem_of_getLast? h⟩
  | a :: b :: r, c, hn, h => by
    have h : (a ++ 32 :: joinL (b :: r)).getLast? = some c := h
    have hne : joinL (b :: r) ≠ [] := by
      have hb := hn b (List.mem_cons_of_mem _ List.mem_cons_self)
      cases r with
      | nil => exact hb
      | cons d r =>
        show b ++ 32 :: joinL (d :: r) ≠ []
        simp
    have h2 : (joinL (b :: r)).getLast? = some c := by
      rw [List.getLast?_append, List.getLast?_cons] at h
      cases hq : (joinL (b :: r)).getLast? with
      | none => exact absurd (List.getLast?_eq_none_iff.mp hq) hne
      | some d => rw [hq] at h; simpa using h
    obtain ⟨w, hw, hc⟩ := joinL_last (b :: r) c (fun w hw => hn w (List.mem_cons_of_mem _ hw)) h2
    exact ⟨w, List.mem_cons_of_mem _ hw, hc⟩
theorem strip_tight {l : List Nat} (h1 : ∀ c, l.head? = some c → Unicode.isSpace c = false) (h2 : ∀ c, l.getLast? = some c → Unicode.isSpace c = false) : Txt.strip (S l) = S l := by
  have lo : stripLo Unicode.isSpace true (S l) = 0 := by
    simp only [stripLo, if_true]
    show (l.takeWhile _).length = 0
    cases l with
    | nil => rfl
    | cons c r => rw [List.takeWhile_cons, h1 c rfl]; rfl
  have hi : stripHi Unicode.isSpace true (S l) 0 = (S l).length := by
    simp only [stripHi, if_true, List.drop_zero]
    show _ - (l.reverse.takeWhile _).length = _
    cases hr : l.reverse with
    | nil => rfl
    | cons c r =>
      have : l.getLast? = some c := by rw [← List.head?_reverse, hr]; rfl
      rw [List.takeWhile_cons, h2 c this]; rfl
  have hsame : stripSame Unicode.isSpace true true (S l) = true := by
    unfold stripSame
    rw [lo, hi]
    simp
  unfold Txt.strip Txt.stripBy
  rw [if_pos hsame]
theorem words_strip {l : List Nat} (h : ∀ c ∈ l, kc c = true) : Txt.strip (S (joinL (wordsL l))) = S (joinL (wordsL l)) := by
  have hw := words_are (p := fun c => kc c = true) h
  refine strip_tight (fun c hc => ?_) (fun c hc => ?_)
  · obtain ⟨w, hm, hcm⟩ := joinL_head _ c (fun w hm => (hw w hm).1) hc
    have := (hw w hm).2 c hcm
    rw [space_kc c this.2]; exact this.1
  · obtain ⟨w, hm, hcm⟩ := joinL_last _ c (fun w hm => (hw w hm).1) hc
    have := (hw w hm).2 c hcm
    rw [space_kc c this.2]; exact this.1
theorem uni_text {l : List Nat} (h : ∀ c ∈ l, kc c = true) : Txt.upper (Txt.lower (Txt.strip (Txt.join (Str.ofString " ") (Txt.words (S l))))) = S (keyL l) := by
  have hw := words_are (p := fun c => kc c = true) h
  rw [words_S h, join_S, words_strip h, uplow_S (fun c hc => ?_), joinL_map rfl]
  · rfl
  · rcases joinL_mem _ c hc with rfl | ⟨w, hm, hcm⟩
    · rfl
    · exact ((hw w hm).2 c hcm).2
theorem keyL_kc {l : List Nat} (h : ∀ c ∈ l, kc c = true) : ∀ c ∈ keyL l, kc c = true := by
  have hw := words_are (p := fun c => kc c = true) h
  intro c hc
  rcases joinL_mem _ c hc with rfl | ⟨w, hm, hcm⟩
  · rfl
  · obtain ⟨v, hv, rfl⟩ := List.mem_map.mp hm
    obtain ⟨d, hd, rfl⟩ := List.mem_map.mp hcm
    exact kc_upc d ((hw v hv).2 d hd).2
theorem keyL_key {l : List Nat} (h : ∀ c ∈ l, kc c = true) : keyL (keyL l) = keyL l := by
  have hw := words_are (p := fun c => kc c = true) h
  have e : wordsL (keyL l) = (wordsL l).map (·.map upc) := by
    show wordsL (joinL _) = _
    rw [words_join (fun q hq c hc => ?_)]
    · refine List.filter_eq_self.mpr fun q hq => ?_
      obtain ⟨v, hv, rfl⟩ := List.mem_map.mp hq
      have := (hw v hv).1
      cases v with
      | nil => exact absurd rfl this
      | cons x y => rfl
    · obtain ⟨v, hv, rfl⟩ := List.mem_map.mp hq
      obtain ⟨d, hd, rfl⟩ := List.mem_map.mp hc
      have := (hw v hv).2 d hd
      exact blank_upc d this.2 this.1
  show joinL ((wordsL (keyL l)).map (·.map upc)) = _
  rw [e, List.map_map]
  show _ = joinL ((wordsL l).map (·.map upc))
  congr 1
  refine List.map_congr_left fun v hv => ?_
  show (v.map upc).map upc = v.map upc
  rw [List.map_map]
  exact List.map_congr_left fun d hd => up_upc d ((hw v hv).2 d hd).2
theorem keyL_pad (l : List Nat) : keyL ([32, 32] ++ spL l ++ [9]) = keyL l := by unfold keyL; rw [words_pad]
/-! lengths -/
def wmeas (st : List (List Nat) × List Nat) : Nat := (st.1.map fun w => w.length + 1).sum + st.2.length + (if st.2 = [] then 0 else 1)
theorem wmeas_step (st : List (List Nat) × List Nat) (c : Nat) : wmeas (wstep st c) ≤ wmeas st + 2 := by
  unfold wstep
  split
  · split
    · omega
    · rename_i h
      unfold wmeas
      simp [h]; omega
  · unfold wmeas
    dsimp only
    rw [if_neg (by simp)]
    rw [List.length_append, List.length_singleton]
    split <;> omega
theorem wmeas_run : ∀ (l : List Nat) (st : List (List Nat) × List Nat), wmeas (l.foldl wstep st) ≤ wmeas st + 2 * l.length
  | [], _ => Nat.le_refl _
  | c :: r, st => by
    have h1 := wmeas_run r (wstep st c)
    have h2 := wmeas_step st c
    simp only [List.foldl_cons, List.length_cons] at *
    omega
theorem joinL_len : ∀ ws : List (List Nat), (joinL ws).length ≤ (ws.map fun w => w.length + 1).sum
  | [] => Nat.le_refl _
  | [a] => by simp [joinL]
  | a :: b :: r => by
    have := joinL_len (b :: r)
    show (a ++ 32 :: joinL (b :: r)).length ≤ _
    simp only [List.length_append, List.length_cons, List.map_cons, List.sum_cons] at *
    omega
theorem words_sum (l : List Nat) : ((wordsL l).map fun w => w.length + 1).sum ≤ 2 * l.length := by
  have h := wmeas_run l ([], [])
  rw [show wmeas ([], []) = 0 from rfl] at h
  unfold wordsL wfin
  unfold wmeas at h
  split
  · rename_i h0
    rw [if_pos h0] at h
    omega
  · rename_i h0
    rw [if_neg h0] at h
    rw [List.map_append, List.sum_append]
    simp only [List.map_cons, List.map_nil, List.sum_cons, List.sum_nil]
    omega
theorem words_sum_up (l : List Nat) : (((wordsL l).map (·.map upc)).map fun w => w.length + 1).sum ≤ 2 * l.length := by
  have := words_sum l
  rw [List.map_map]
  refine Nat.le_trans (Nat.le_of_eq ?_) this
  congr 1
  exact List.map_congr_left fun w _ => by simp
theorem keyL_len (l : List Nat) : (keyL l).length ≤ 2 * l.length := Nat.le_trans (joinL_len _) (words_sum_up l)
/-! the law's own split -/
theorem join_toList : ∀ ps : List Str, (Str.join ⟨#[32]⟩ ps).cps.toList = joinL (ps.map (·.cps.toList))
  | [] => rfl
  | [a] => rfl
  | a :: b :: r => by
    rw [join_cons_cons]
    simp only [Str.cps_append, Array.toList_append, join_toList (b :: r)]
    show _ = a.cps.toList ++ 32 :: joinL ((b :: r).map (·.cps.toList))
    simp
theorem joinL_sub : ∀ (ps : List (List Nat)) (q : List Nat) (c : Nat), q ∈ ps → c ∈ q → c ∈ joinL ps
  | [], q, c, h, _ => by simp at h
  | [a], q, c, h, hc => by rw [List.mem_singleton.mp h] at hc; exact hc
  | a :: b :: r, q, c, h, hc => by
    show c ∈ a ++ 32 :: joinL (b :: r)
    rcases List.mem_cons.mp h with rfl | h
    · exact List.mem_append.mpr (.inl hc)
    · exact List.mem_append.mpr (.inr (List.mem_cons_of_mem _ (joinL_sub (b :: r) q c h hc)))
theorem tabL_mem {l : List Nat} {c : Nat} (h : c ∈ tabL l) : c = 32 ∨ (c ∈ l ∧ c ≠ 9) := by
  obtain ⟨d, hd, hc⟩ := List.mem_flatMap.mp h
  unfold subOne at hc
  split at hc
  · exact .inl (List.mem_singleton.mp hc)
  · rename_i hne
    rw [List.mem_singleton.mp hc]; exact .inr ⟨hd, hne⟩
theorem split_words {l : List Nat} (h : ∀ c ∈ l, okc c = true) : ∃ xs : List (List Nat), Txt.split (S (tabL l)) (Str.ofString " ") = xs.map S ∧ (xs.filter fun q => !q.isEmpty) = wordsL l := by
  refine ⟨(Txt.split (S (tabL l)) (Str.ofString " ")).map (·.cps.toList), ?_, ?_⟩
  · rw [List.map_map]
    exact ((List.map_congr_left fun x _ => (S_eta x).symm).trans (List.map_id _)).symm
  · rw [show Str.ofString " " = ⟨#[32]⟩ from by decide +kernel]
    have hj : joinL ((Txt.split (S (tabL l)) ⟨#[32]⟩).map (·.cps.toList)) = tabL l := by
      rw [← join_toList, StrLaws.join_split]
    rw [← words_tab, ← hj, words_join]
    · rw [hj]
    · intro q hq c hc
      have hm : c ∈ tabL l := by rw [← hj]; exact joinL_sub _ q c hq hc
      obtain ⟨p, hp, rfl⟩ := List.mem_map.mp hq
      have hfree := StrLaws.split_free (S (tabL l)) 32 p hp
      have h32 : c ≠ 32 := fun e => hfree (e ▸ hc)
      rcases tabL_mem hm with e | ⟨h1, h2⟩
      · exact absurd e h32
      · have := h c h1
        simp [okc] at this
        simp [blank]; omega
end Mine
end PartL3
section PartL4
open PySem PySem.W PyProof.Rows PySem.Calls PySem.Builtin
namespace Mine
/-! quoting -/
theorem safe_mem : ∀ c : Nat, safeL.contains c = ((decide (c < 128) && alnumA c) || [95, 46, 45, 126].contains c) := by
  intro c
  by_cases h : c < 128
  · revert h; revert c; decide +kernel
  · have h1 : safeL.contains c = false := by
      rw [Bool.eq_false_iff]; intro hc
      have hm : c ∈ safeL := List.contains_iff_mem.mp hc
      exact h ((by decide : ∀ x ∈ safeL, x < 128) c hm)
    have h2 : [95, 46, 45, 126].contains c = false := by
      rw [Bool.eq_false_iff]; intro hc
      have hm : c ∈ [95, 46, 45, 126] := List.contains_iff_mem.mp hc
      exact h ((by decide : ∀ x ∈ [95, 46, 45, 126], x < 128) c hm)
    rw [h1, h2]; simp [h]
theorem cod_quo (z l : List Nat) : codL z l = quoL z l := by
  unfold codL quoL
  congr 1
  funext c
  unfold codOne quoOne
  have h := safe_mem c
  simp only [List.contains_eq_mem, List.mem_append, Bool.or_eq_true, Bool.and_eq_true, decide_eq_true_eq] at h ⊢
  by_cases h1 : (c < 128 ∧ alnumA c = true) ∨ c ∈ [95, 46, 45, 126] ∨ c ∈ z
  · have h2 : c ∈ safeL ∨ c ∈ z := by
      rcases h1 with h1 | h1 | h1
      · exact .inl (of_decide_eq_true (by rw [h]; simp [h1]))
      · exact .inl (of_decide_eq_true (by rw [h]; simp [h1]))
      · exact .inr h1
    rw [if_pos h1, if_pos h2]
  · have h2 : ¬ (c ∈ safeL ∨ c ∈ z) := by
      rintro (h2 | h2)
      · have h3 : decide (c ∈ safeL) = true := decide_eq_true h2
        rw [h] at h3
        apply h1
        simp only [Bool.or_eq_true, Bool.and_eq_true, decide_eq_true_eq] at h3
        rcases h3 with h3 | h3
        · exact .inl h3
        · exact .inr (.inl h3)
      · exact h1 (.inr (.inr h2))
    rw [if_neg h1, if_neg h2]
theorem pct_hex : ∀ n : Nat, n < 256 → hexd (hexU (n / 16)) = true ∧ hexd (hexU (n % 16)) = true ∧ (natOf 16 [hexU (n / 16), hexU (n % 16)]).toUInt8 = n.toUInt8 := by decide +kernel
theorem oct_pct (b : UInt8) (r : List Nat) : octL (pct b ++ r) = b :: octL r := by
  obtain ⟨h1, h2, h3⟩ := pct_hex b.toNat b.toNat_lt
  show octL (37 :: hexU (b.toNat / 16) :: hexU (b.toNat % 16) :: r) = _
  rw [octL_pct h1 h2, h3]
  simp
theorem oct_pcts : ∀ (bs : List UInt8) (r : List Nat), octL (bs.flatMap pct ++ r) = bs ++ octL r
  | [], _ => rfl
  | b :: bs, r => by
    rw [List.flatMap_cons, List.append_assoc, oct_pct, oct_pcts bs r]; rfl
theorem oct_quoOne {z : List Nat} (hz : 37 ∉ z) (c : Nat) (r : List Nat) : octL (quoOne z c ++ r) = Str.utf8Of c ++ octL r := by
  unfold quoOne
  split
  · rename_i h
    have hc : c ≠ 37 := by
      rintro rfl
      have hm : 37 ∈ safeL ++ z := List.contains_iff_mem.mp h
      rcases List.mem_append.mp hm with hm | hm
      · exact absurd hm (by decide)
      · exact hz hm
    exact octL_one fun a b r' _ => by simp [hc]
  · exact oct_pcts _ r
theorem oct_quo {z : List Nat} (hz : 37 ∉ z) : ∀ l : List Nat, octL (quoL z l) = l.flatMap Str.utf8Of
  | [] => rfl
  | c :: l => by
    unfold quoL
    rw [List.flatMap_cons, oct_quoOne hz, List.flatMap_cons]
    exact congrArg (Str.utf8Of c ++ ·) (oct_quo hz l)
/-! the octets read back -/
theorem char_at (pre rest : List UInt8) : ∀ c, okc c = true → Bytes.utf8At (pre ++ (Str.utf8Of c ++ rest)).toArray pre.length = (.char c, pre.length + (Str.utf8Of c).length) := by
  intro c h
  have get0 : ∀ (a : UInt8) (r : List UInt8), (pre ++ a :: r).toArray.getD pre.length 0 = a := by
    intro a r; simp [Array.getD]
  have geti : ∀ (k : Nat) (r : List UInt8), (pre ++ r).toArray[pre.length + k]? = r[k]? := by
    intro k r
    rw [List.getElem?_toArray, List.getElem?_append_right (by omega)]
    congr 1; omega
  by_cases hc : c < 127
  · have e : Str.utf8Of c = [c.toUInt8] := by unfold Str.utf8Of; rw [if_pos (by omega)]
    rw [e]
    unfold Bytes.utf8At
    rw [show [c.toUInt8] ++ rest = c.toUInt8 :: rest from rfl, get0]
    have h2 : c.toUInt8.toNat = c := by simp; omega
    simp only [h2]
    rw [if_pos (by omega)]
    rfl
  · have : c = 233 ∨ c = 20013 := by simp [okc] at h; omega
    rcases this with rfl | rfl
    · rw [show Str.utf8Of 233 = [195, 169] from by decide +kernel]
      unfold Bytes.utf8At
      rw [show ([195, 169] : List UInt8) ++ rest = 195 :: 169 :: rest from rfl, get0]
      have g1 := geti 1 (195 :: 169 :: rest)
      simp only [show (195 : UInt8).toNat = 195 from rfl]
      simp [g1, Except.bind, List.range_succ]
    · rw [show Str.utf8Of 20013 = [228, 184, 173] from by decide +kernel]
      unfold Bytes.utf8At
      rw [show ([228, 184, 173] : List UInt8) ++ rest = 228 :: 184 :: 173 :: rest from rfl, get0]
      have g1 := geti 1 (228 :: 184 :: 173 :: rest)
      have g2 := geti 2 (228 :: 184 :: 173 :: rest)
      simp only [show (228 : UInt8).toNat = 228 from rfl]
      simp [g1, g2, Except.bind, List.range_succ]
theorem dec_from : ∀ (l : List Nat) (pre : List UInt8) (fuel : Nat), (∀ c ∈ l, okc c = true) → l.length ≤ fuel → decFrom (pre ++ l.flatMap Str.utf8Of).toArray fuel pre.length = l
  | [], pre, 0, _, _ => rfl
  | [], pre, fuel + 1, _, _ => by
    unfold decFrom
    rw [if_pos (by simp)]
  | c :: l, pre, 0, _, hf => by simp at hf
  | c :: l, pre, fuel + 1, h, hf => by
    have hl := utf8Of_len c
    have hc := char_at pre (l.flatMap Str.utf8Of) c (h c List.mem_cons_self)
    unfold decFrom
    rw [List.flatMap_cons, if_neg (by simp; omega), hc]
    dsimp only
    have e : pre ++ (Str.utf8Of c ++ l.flatMap Str.utf8Of) = (pre ++ Str.utf8Of c) ++ l.flatMap Str.utf8Of := by rw [List.append_assoc]
    rw [e, ← List.length_append, dec_from l (pre ++ Str.utf8Of c) fuel (fun d hd => h d (List.mem_cons_of_mem _ hd)) (by simp at hf; omega)]
theorem flat_len : ∀ l : List Nat, l.length ≤ (l.flatMap Str.utf8Of).length
  | [] => Nat.le_refl _
  | c :: l => by
    have := utf8Of_len c
    have := flat_len l
    rw [List.flatMap_cons, List.length_append, List.length_cons]; omega
theorem dec_utf8 {l : List Nat} (h : ∀ c ∈ l, okc c = true) : decS (l.flatMap Str.utf8Of) = l := by
  unfold decS
  have := dec_from l [] ((l.flatMap Str.utf8Of).length) h (flat_len l)
  simpa using this
theorem unq_quo {z l : List Nat} (hz : 37 ∉ z) (h : ∀ c ∈ l, okc c = true) : decS (octL (quoL z l)) = l := by rw [oct_quo hz, dec_utf8 h]
theorem unq_const : decS (octL [37, 52, 49, 37, 122, 122, 37, 52]) = [65, 37, 122, 122, 37, 52] := by decide +kernel
theorem unq_acc {l : List Nat} (h : ∀ c ∈ l, okc c = true) : decS (octL ([37, 99, 51, 37, 97, 57] ++ quoL [47] l)) = 233 :: l := by
  have e : octL ([37, 99, 51, 37, 97, 57] ++ quoL [47] l) = (233 :: l).flatMap Str.utf8Of := by
    show octL (37 :: 99 :: 51 :: 37 :: 97 :: 57 :: quoL [47] l) = _
    rw [octL_pct (by rfl) (by rfl), octL_pct (by rfl) (by rfl), oct_quo (by decide), List.flatMap_cons, show Str.utf8Of 233 = [195, 169] from by decide +kernel,
      show (natOf 16 [99, 51]).toUInt8 = 195 from by decide +kernel, show (natOf 16 [97, 57]).toUInt8 = 169 from by decide +kernel]
    rfl
  rw [e, dec_utf8]
  intro c hc
  rcases List.mem_cons.mp hc with rfl | hc
  · rfl
  · exact h c hc
theorem ok_sur {l : List Nat} (h : ∀ c ∈ l, okc c = true) : ∀ c ∈ l, Str.isSurrogate c = false := by
  intro c hc
  have := h c hc
  simp [okc] at this
  unfold Str.isSurrogate
  simp; omega
theorem quo_sur {z l : List Nat} (h : ∀ c ∈ l, Str.isSurrogate c = false) : ∀ c ∈ quoL z l, Str.isSurrogate c = false := by
  intro c hc
  obtain ⟨d, hd, hc⟩ := List.mem_flatMap.mp hc
  unfold quoOne at hc
  split at hc
  · rw [List.mem_singleton.mp hc]; exact h d hd
  · obtain ⟨b, _, hc⟩ := List.mem_flatMap.mp hc
    have hu : ∀ n, n < 16 → Str.isSurrogate (hexU n) = false := by decide +kernel
    have hb := b.toNat_lt
    simp only [pct, List.mem_cons, List.not_mem_nil, or_false] at hc
    rcases hc with rfl | rfl | rfl
    · rfl
    · exact hu _ (by omega)
    · exact hu _ (by omega)
end Mine
end PartL4
section PartL5
open PySem PySem.W PyProof.Rows PySem.Calls PySem.Builtin PyProof.Rows.LCg
namespace Mine
theorem ne_empty (q : List Nat) : (S q != Str.ofString "") = !q.isEmpty := by
  rw [show Str.ofString "" = S [] from rfl, bne, S_beq]
  cases q <;> simp
theorem joinL_count : ∀ ws : List (List Nat), ws.length ≤ (joinL ws).length + 1
  | [] => by simp
  | [a] => by simp
  | a :: b :: r => by
    have := joinL_count (b :: r)
    show _ ≤ (a ++ 32 :: joinL (b :: r)).length + 1
    simp only [List.length_append, List.length_cons] at *
    omega
theorem split_count {l : List Nat} {xs : List (List Nat)} (h : Txt.split (S (tabL l)) (Str.ofString " ") = xs.map S) : xs.length ≤ l.length + 1 := by
  have h1 := tabL_len l
  have hj : joinL xs = tabL l := by
    have e : xs = (Txt.split (S (tabL l)) ⟨#[32]⟩).map (·.cps.toList) := by
      rw [show (⟨#[32]⟩ : Str) = Str.ofString " " from by decide +kernel, h, List.map_map]
      exact (List.map_id _).symm
    rw [e, ← join_toList, StrLaws.join_split]
  have h2 := joinL_count xs
  rw [hj] at h2
  omega
theorem strs_get0 : ∀ {vs : List Value} {ys : List Str} {i : Nat} {v : Value}, StrsAre vs ys → vs[i]? = some v → ∃ y t, ys[i]? = some y ∧ v = .str y t
  | _, _, _, _, .nil, h => by simp at h
  | _, _, 0, v', .cons x t r, h => by
    simp at h
    exact ⟨x, t, rfl, h.symm⟩
  | _, _, i + 1, v', .cons x t r, h => by
    obtain ⟨y, t', h1, h2⟩ := strs_get0 r (by simpa using h)
    exact ⟨y, t', by simpa using h1, h2⟩
theorem strs_get {vs : List Value} {xs : List (List Nat)} {i : Nat} {v : Value} (h : StrsAre vs (xs.map S)) (hv : vs[i]? = some v) : ∃ x t, xs[i]? = some x ∧ v = .str (S x) t := by
  obtain ⟨y, t, h1, h2⟩ := strs_get0 h hv
  rw [List.getElem?_map] at h1
  cases hx : xs[i]? with
  | none => rw [hx] at h1; cases h1
  | some x => rw [hx] at h1; injection h1 with h1; subst h1; exact ⟨x, t, rfl, h2⟩
theorem strs_len : ∀ {vs : List Value} {xs : List Str}, StrsAre vs xs → vs.length = xs.length
  | _, _, .nil => rfl
  | _, _, .cons _ _ r => congrArg (· + 1) (strs_len r)
theorem rel_strs {xs : List (List Nat)} (g : List Nat → List Nat) : ∀ {is : List Nat} {ys : List Value},
    RelL (fun i y => ∀ x, xs[i]? = some x → ∃ t, y = Value.str (S (g x)) t) is ys → (∀ i ∈ is, i < xs.length) → StrsAre ys ((is.filterMap (xs[·]?)).map fun x => S (g x))
  | _, _, .nil, _ => .nil
  | i :: is, y :: ys, .cons h t, hi => by
    have hlt := hi i List.mem_cons_self
    have e : xs[i]? = some xs[i] := List.getElem?_eq_getElem hlt
    obtain ⟨tk, rfl⟩ := h _ e
    rw [List.filterMap_cons, e]
    exact .cons _ tk (rel_strs g t fun j hj => hi j (List.mem_cons_of_mem _ hj))
theorem filter_at {xs : List (List Nat)} {f : List Nat → Bool} : ((List.range xs.length).filter fun i => (xs[i]?).any f).filterMap (xs[·]?) = xs.filter f := by
  induction xs with
  | nil => rfl
  | cons x r ih =>
    rw [List.length_cons, List.range_succ_eq_map, List.filter_cons]
    have e : ∀ l : List Nat, ((l.map Nat.succ).filter fun i => ((x :: r)[i]?).any f).filterMap ((x :: r)[·]?) = (l.filter fun i => (r[i]?).any f).filterMap (r[·]?) := by
      intro l
      induction l with
      | nil => rfl
      | cons i l ih2 =>
        rw [List.map_cons, List.filter_cons, List.filter_cons]
        simp only [Nat.succ_eq_add_one, List.getElem?_cons_succ] at ih2 ⊢
        split
        · rw [List.filterMap_cons, List.filterMap_cons, List.getElem?_cons_succ, ih2]
        · exact ih2
    by_cases h : f x = true
    · rw [if_pos (by simpa using h), List.filterMap_cons, e, ih, List.filter_cons, if_pos h]
      rfl
    · rw [if_neg (by simpa using h), e, ih, List.filter_cons, if_neg h]
section
variable {prog : Program} {w : World} {A : Around} {E : Value → Shared → Prop} {s : Shared} {h₀ : Heap} {L : Addr} {m : Str → Option Value} {news : List (Addr × Obj)} {t u : Tok} {Q : Value → Shared → Prop}
theorem split_law {l : List Nat} (hr : Row l) (F : Fr h₀ L s.heap m) (N : News h₀ L s.heap news)
    (h : ∀ (D : Addr) (vs : List Value) (xs : List (List Nat)) h' k, StrsAre vs (xs.map S) → (xs.filter fun q => !q.isEmpty) = wordsL l → xs.length ≤ 100 → Fr h₀ L h' m → News h₀ L h' ((D, { cls := .type "list", data := .seq vs.toArray }) :: news) → Q (.ref D) { s with heap := h', toks := k }) :
    wpAny (model prog w) A (call (.builtin "str.split") [.str (S (tabL l)) t, .str (Str.ofString " ") u]) Q E s := by
  have h1 := tabL_len l
  have h2 := hr.1
  obtain ⟨xs, e, hf⟩ := split_words hr.2
  refine splitN1A F N (by rfl) (fun ls h' k e2 hs _ _ F' N' => ?_) (by rw [sizeLine_eq, lenS]; omega)
  rw [e2, e] at hs
  exact h _ _ xs h' k hs hf (by have := split_count e; omega) F' N'
theorem pad_one {l : List Nat} (hl : (S (spL l)).length ≤ 231) (hn : 0 < s.toks) (h : ∀ t' k, 0 < k → Q (.str (Str.ofString "  " ++ S (spL l)) t') { s with toks := k }) : wpAny (model prog w) A (binaryOp .Add (.str (Str.ofString "  ") t) (.str (S (spL l)) u)) Q E s :=
  wpAny_with_toks (n := 1) hn (add_str (fun t' k hk => h t' k hk) (by rw [sizeLine_eq, show (Str.ofString "  ").length = 2 from by decide +kernel]; omega))
theorem pad_two {l : List Nat} (hl : (S (spL l)).length ≤ 231) (hn : 0 < s.toks) (h : ∀ t' k, 0 < k → Q (.str (Str.ofString "  " ++ S (spL l) ++ Str.ofString "\t") t') { s with toks := k }) : wpAny (model prog w) A (binaryOp .Add (.str (Str.ofString "  " ++ S (spL l)) t) (.str (Str.ofString "\t") u)) Q E s :=
  wpAny_with_toks (n := 1) hn (add_str (fun t' k hk => h t' k hk) (by rw [sizeLine_eq, Str.length_append, show (Str.ofString "  ").length = 2 from by decide +kernel, show (Str.ofString "\t").length = 1 from by decide +kernel]; omega))
theorem acc_one {l : List Nat} (hl : (S (quoL [47] l)).length ≤ 924) (hn : 0 < s.toks) (h : ∀ t' k, 0 < k → Q (.str (Str.ofString "%c3%a9" ++ S (quoL [47] l)) t') { s with toks := k }) : wpAny (model prog w) A (binaryOp .Add (.str (Str.ofString "%c3%a9") t) (.str (S (quoL [47] l)) u)) Q E s :=
  wpAny_with_toks (n := 1) hn (add_str (fun t' k hk => h t' k hk) (by rw [sizeLine_eq, show (Str.ofString "%c3%a9").length = 6 from by decide +kernel]; omega))
theorem acc_two {l : List Nat} (hl : (S l).length ≤ 77) (hn : 0 < s.toks) (h : ∀ t' k, 0 < k → Q (.str (Str.ofString "é" ++ S l) t') { s with toks := k }) : wpAny (model prog w) A (binaryOp .Add (.str (Str.ofString "é") t) (.str (S l) u)) Q E s :=
  wpAny_with_toks (n := 1) hn (add_str (fun t' k hk => h t' k hk) (by rw [sizeLine_eq, show (Str.ofString "é").length = 1 from by decide +kernel]; omega))
theorem low_law {x : List Nat} (hk : ∀ c ∈ x, kc c = true) (hl : x.length ≤ 1000) (h : ∀ t' k, Q (.str (S (x.map lwc)) t') { s with toks := k }) : wpAny (model prog w) A (call (.builtin "str.lower") [.str (S x) t]) Q E s := by
  refine SCL.lower (by rw [lenS]; omega) fun _ => ?_
  rw [lower_S hk]; exact h _ _
theorem up_law {x : List Nat} (hk : ∀ c ∈ x, kc c = true) (hl : x.length ≤ 1000) (h : ∀ t' k, Q (.str (S (x.map upc)) t') { s with toks := k }) : wpAny (model prog w) A (call (.builtin "str.upper") [.str (S (x.map lwc)) t]) Q E s := by
  refine SCL.upper (by rw [lenS]; simp; omega) fun _ => ?_
  rw [upper_S (by intro c hc; obtain ⟨d, hd, rfl⟩ := List.mem_map.mp hc; exact kc_lwc d (hk d hd)), List.map_map,
    show x.map (upc ∘ lwc) = x.map upc from List.map_congr_left fun c hc => up_lwc c (hk c hc)]
  exact h _ _
theorem join_law {l : List Nat} {D : Addr} {items : Array Value} (hl : s.heap.IsList D items) (hi : StrsAre items.toList (((wordsL l).map (·.map upc)).map S)) (hr : l.length ≤ 1000)
    (h : ∀ t' k, Q (.str (S (keyL l)) t') { s with toks := k }) : wpAny (model prog w) A (call (.builtin "str.join") [.str (Str.ofString " ") t, .ref D]) Q E s := by
  refine join_listW hl hi (by decide +kernel) ?_ fun t' k => ?_
  · have h1 := words_sum_up l
    have e : ∀ ws : List (List Nat), ((ws.map S).map (·.length)).sum + (ws.map S).length = (ws.map fun w => w.length + 1).sum := by
      intro ws
      induction ws with
      | nil => rfl
      | cons a r ih =>
        simp only [List.map_cons, List.sum_cons, List.length_cons, lenS] at *
        omega
    rw [e]; omega
  · rw [join_S]; exact h t' k
theorem word_ok {l x : List Nat} {i : Nat} (hr : Row l) (h : (wordsL l)[i]? = some x) : (∀ c ∈ x, kc c = true) ∧ x.length ≤ 1000 := by
  have hm : x ∈ wordsL l := List.mem_of_getElem? h
  refine ⟨fun c hc => ok_kc ((words_are (p := fun c => okc c = true) hr.2 x hm).2 c hc).2, ?_⟩
  have h1 := words_sum l
  have h2 := hr.1
  have h3 : ∀ ws : List (List Nat), x ∈ ws → x.length + 1 ≤ (ws.map fun w => w.length + 1).sum := by
    intro ws
    induction ws with
    | nil => intro h; simp at h
    | cons a r ih =>
      intro h
      rcases List.mem_cons.mp h with rfl | h
      · simp
      · have := ih h; simp only [List.map_cons, List.sum_cons]; omega
  have := h3 _ hm
  omega
theorem words_count {l : List Nat} (hr : Row l) : (wordsL l).length ≤ 200 := by
  have h1 := words_sum l
  have h2 := hr.1
  have : ∀ ws : List (List Nat), ws.length ≤ (ws.map fun w => w.length + 1).sum := by
    intro ws
    induction ws with
    | nil => simp
    | cons a r ih => simp only [List.length_cons, List.map_cons, List.sum_cons]; omega
  have := this (wordsL l)
  omega
variable {I C D : Addr} {s₁ : Shared} {oI oC oD : Obj} {R : Value → Prop} {y : Value} {h' : Heap} {tk : Nat} {all : List (Addr × Obj)} {ax : Addr} {its : Array Value}
theorem compEnd_elS (F : Fr h₀ L h' m) (N : News h₀ L h' all) (sub : ∀ p ∈ (I, oI) :: (C, oC) :: (D, oD) :: news, p ∈ all) (off : Off3 I C D news) (hS : SrcAt h₀ ax its news) (hR : Hold (R y)) : CompEnd h₀ L m s₁ I oI C oC D oD (SrcAt h₀ ax its) (ElIs news R) y { s₁ with heap := h', toks := tk } :=
  ⟨h', tk, news, rfl, F, fun p hp => N p (sub p hp), off, hS, rfl, hR⟩
theorem compEnd_noS (F : Fr h₀ L h' m) (N : News h₀ L h' all) (sub : ∀ p ∈ (I, oI) :: (C, oC) :: (D, oD) :: news, p ∈ all) (off : Off3 I C D news) (hS : SrcAt h₀ ax its news) : CompEnd h₀ L m s₁ I oI C oC D oD (SrcAt h₀ ax its) (fun _ news' => news' = news) y { s₁ with heap := h', toks := tk } :=
  ⟨h', tk, news, rfl, F, fun p hp => N p (sub p hp), off, hS, rfl⟩
theorem compEnd_elN (F : Fr h₀ L h' m) (N : News h₀ L h' ((I, oI) :: (C, oC) :: (D, oD) :: news)) (off : Off3 I C D news) (hS : SrcAt h₀ ax its news) (hR : Hold (R y)) : CompEnd h₀ L m s₁ I oI C oC D oD (SrcAt h₀ ax its) (ElIs news R) y { s₁ with heap := h', toks := tk } :=
  ⟨h', tk, news, rfl, F, N, off, hS, rfl, hR⟩
theorem compEnd_noN (F : Fr h₀ L h' m) (N : News h₀ L h' ((I, oI) :: (C, oC) :: (D, oD) :: news)) (off : Off3 I C D news) (hS : SrcAt h₀ ax its news) : CompEnd h₀ L m s₁ I oI C oC D oD (SrcAt h₀ ax its) (fun _ news' => news' = news) y { s₁ with heap := h', toks := tk } :=
  ⟨h', tk, news, rfl, F, N, off, hS, rfl⟩
theorem srcAt_of {n : Nat} (h : (ax, ({ cls := .type "list", data := .seq its n } : Obj)) ∈ news) : SrcAt h₀ ax its news := .inr ⟨_, h, rfl, _, rfl⟩
end
section
variable {prog : Program} {w : World} {A : Around} {E : Value → Shared → Prop} {s : Shared} {h₀ : Heap} {L : Addr} {m : Str → Option Value} {env : Env} {elt ct : Expr} {x : Str} {scope : Scope} {cl : List (Str × Addr)} {news : List (Addr × Obj)} {Fin : List Value → List (Addr × Obj) → Prop} {SS : List (Addr × Obj) → Prop} {vs : List Value} {xs : List (List Nat)}
theorem turns_words (hs : StrsAre vs (xs.map S)) (f : List Nat → Bool)
    (turn : ∀ (i : Nat) (q : List Nat) (t : Tok) I oI C oC D m₂ ys h tk (E' : Value → Shared → Prop), xs[i]? = some q → NsObj oC m₂ → m₂ x = some (.str (S q) t) → Fr h₀ L h m → News h₀ L h ((I, oI) :: (C, oC) :: (D, lst ys) :: news) → Off3 I C D news → ((@Ne Nat I C) ∧ (@Ne Nat I D) ∧ (@Ne Nat C D)) →
      wpAny (model prog w) A (isTrue ct (compEnvC scope cl C env) (eval ct (compEnvC scope cl C env))) (fun ok s' => ok = f q ∧ if ok = true then
        wpAny (model prog w) A (eval elt (compEnvC scope cl C env)) (CompEnd h₀ L m { s with heap := h, toks := tk } I oI C oC D (lst ys) SS (ElIs news (fun y => ∃ t, y = .str (S q) t))) E' s'
        else CompEnd h₀ L m { s with heap := h, toks := tk } I oI C oC D (lst ys) SS (fun _ news' => news' = news) Value.none s') E' { s with heap := h, toks := tk })
    (fin : ∀ ys : List Value, StrsAre ys ((xs.filter f).map S) → Fin ys news) : LCt.CompRestT prog w A h₀ L m env ct elt x scope cl s SS (fun i v => vs.toArray[i]? = some v) Fin vs.toArray.size 0 [] news := by
  have hn : vs.toArray.size = xs.length := by rw [List.size_toArray, strs_len hs, List.length_map]
  rw [hn]
  refine comp_turnsT (b := fun i => (xs[i]?).any f) (R := fun i y => ∀ q, xs[i]? = some q → ∃ t, y = Value.str (S q) t) (fun i v I oI C oC D m₂ ys h tk E' hi hv hC hx F N off ne => ?_) (fun ys hy => ?_)
  · obtain ⟨q, t, hq, rfl⟩ := strs_get hs (by simpa using hv)
    refine wpAny_mono (turn i q t I oI C oC D m₂ ys h tk E' hq hC hx F N off ne) (fun ok s' hb => ?_) fun _ _ e => e
    obtain ⟨h1, h2⟩ := hb
    refine ⟨by rw [h1, hq]; rfl, ?_⟩
    cases ok with
    | true =>
      simp only [if_true] at h2 ⊢
      refine wpAny_mono h2 (fun y s'' hc => ?_) fun _ _ e => e
      obtain ⟨h', tk', nw, e1, e2, e3, e4, e5, e6, e7⟩ := hc
      exact ⟨h', tk', nw, e1, e2, e3, e4, e5, e6, fun q' hq' => by rw [hq] at hq'; cases hq'; exact e7⟩
    | false => simpa using h2
  · have h2 := rel_strs (xs := xs) (fun q => q) hy fun i hi => List.mem_range.mp (List.mem_filter.mp hi).1
    rw [filter_at] at h2
    exact fin ys h2
theorem turns_map (hs : StrsAre vs (xs.map S)) (g : List Nat → List Nat)
    (turn : ∀ (i : Nat) (q : List Nat) (t : Tok) I oI C oC D m₂ ys h tk (E' : Value → Shared → Prop), xs[i]? = some q → NsObj oC m₂ → m₂ x = some (.str (S q) t) → Fr h₀ L h m → News h₀ L h ((I, oI) :: (C, oC) :: (D, lst ys) :: news) → Off3 I C D news → ((@Ne Nat I C) ∧ (@Ne Nat I D) ∧ (@Ne Nat C D)) →
      wpAny (model prog w) A (eval elt (compEnvC scope cl C env)) (CompEnd h₀ L m { s with heap := h, toks := tk } I oI C oC D (lst ys) SS (ElIs news (fun y => ∃ t, y = .str (S (g q)) t))) E' { s with heap := h, toks := tk })
    (fin : ∀ ys : List Value, StrsAre ys ((xs.map g).map S) → Fin ys news) : CompRest prog w A h₀ L m env elt x scope cl s SS (fun i v => vs.toArray[i]? = some v) Fin vs.toArray.size 0 [] news := by
  have hn : vs.toArray.size = xs.length := by rw [List.size_toArray, strs_len hs, List.length_map]
  rw [hn]
  refine comp_turns (R := fun i y => ∀ q, xs[i]? = some q → ∃ t, y = Value.str (S (g q)) t) (fun i v I oI C oC D m₂ ys h tk E' hi hv hC hx F N off ne => ?_) (fun ys hl hy => ?_)
  · obtain ⟨q, t, hq, rfl⟩ := strs_get hs (by simpa using hv)
    refine wpAny_mono (turn i q t I oI C oC D m₂ ys h tk E' hq hC hx F N off ne) (fun y s' hc => ?_) fun _ _ e => e
    obtain ⟨h', tk', nw, e1, e2, e3, e4, e5, e6, e7⟩ := hc
    exact ⟨h', tk', nw, e1, e2, e3, e4, e5, e6, fun q' hq' => by rw [hq] at hq'; cases hq'; exact e7⟩
  · refine fin ys ?_
    rw [List.map_map]
    exact strsOf hl fun i y hy' c hc => hy i y hy' c hc
end
end Mine
end PartL5
section BodyLEsc
open PySem PySem.W PyProof.Rows PySem.Calls
namespace Mine
local macro_rules | `(tactic| walk_at "M enter") => `(tactic| (
  unfold Con; k_fill
  intro mean mg mb dp un gd cn cs a ccd cl outer A₀ base h₀ L m s Q E B F X T hk hd hu htok hret
  first
  | ((k_dflt (refine' enterS (L := L) ?k1 ?k2 ?k3 ?k4 ?kA ?kF ?kK ?k6 ?k7 ?k8 ?k9 ?kB hret ?_ ?c2 ?c3 ?c4 ?c5; (case kA => exact rfl); (case kF => exact rfl); (case kK => assumption); (case k1 => k_asm); (case k2 => k_asm); (case k3 => k_asm); (case k4 => k_asm); (case k6 => k_is); (case k7 => k_is); (case k8 => ktr_room); (case k9 => first | exact BindsTo.of_eq rfl | (refine' binds_K ?x1 ?x2 ?x3 ?x4 ?x5 ?x6; (case x1 => exact Frag.In.keeps X F.keep); (case x2 => exact rfl); (case x3 => k_is); (case x4 => exact rfl); (case x5 => exact rfl); (case x6 => exact rfl))); (case c5 => decide); (case kB => exact locs rfl); (case c2 => exact rfl); (case c3 => exact rfl); (case c4 => exact rfl); k_whole)); clear hret B F X T; (try (have htok := htok rfl)); intro L' h' F' N' B' X' T'; (try dsimp only); (try k_fold))
  | ((k_dflt (refine' enterSC (L := L) ?k1 ?k2 ?k3 ?k4 ?kA ?kF ?kK ?k6 ?k7 ?k8 ?k9 ?kB ?kD hret ?_ ?c2 ?c3 ?c4; (case kA => exact rfl); (case kF => exact rfl); (case kK => assumption); (case k1 => k_asm); (case k2 => k_asm); (case k3 => k_asm); (case k4 => k_asm); (case k6 => k_is); (case k7 => k_is); (case k8 => ktr_room); (case k9 => first | exact BindsTo.of_eq rfl | (refine' binds_K ?x1 ?x2 ?x3 ?x4 ?x5 ?x6; (case x1 => exact Frag.In.keeps X F.keep); (case x2 => exact rfl); (case x3 => k_is); (case x4 => exact rfl); (case x5 => exact rfl); (case x6 => exact rfl))); (case kB => exact rfl); (case kD => decide +kernel); (case c2 => exact rfl); (case c3 => exact rfl); (case c4 => exact rfl); k_whole)); clear hret B F X T; (try (have htok := htok rfl)); intro L' h' tk' cells' htk' F' N' Y' B' X' T'; k_cells Y'; (try simp only [List.cons_append, List.nil_append, List.append_nil] at N'); (try dsimp only); (try k_fold))))
local macro_rules | `(tactic| walk_at "execs cons") => `(tactic| (k_here; (refine' execs_consP ?k1 ?_; (case k1 => first | assumption | (dsimp only; omega) | omega)); intro tk9 htk9; (try dsimp only)))
local macro_rules | `(tactic| walk_at "forall") => `(tactic| ((with_reducible show (0 < Shared.toks _) → _); intro htk9; (try dsimp only at htk9)))
local macro_rules | `(tactic| walk_at "call builtin:str.replace") => `(tactic| (k_here; (with_reducible show wpAny _ _ (call (Value.builtin "str.replace") [Value.str _ _, Value.str _ _, Value.str _ _]) _ _ _); (first | refine wpAny_with_toks (n := 1) (by first | assumption | (dsimp only; omega)) (replaceP 2000 5 (by decide) (by omega) (by omega) (by omega) (by decide +kernel) (by first | omega | assumption) (Nat.le_of_eq (by rfl)) ?_) | refine wpAny_with_toks (n := 1) (by first | assumption | (dsimp only; omega)) (replaceP 2000 3 (by decide) (by omega) (by omega) (by omega) (by decide +kernel) (by first | omega | assumption) (Nat.le_of_eq (by rfl)) ?_) | refine wpAny_with_toks (n := 1) (by first | assumption | (dsimp only; omega)) (replaceP 12005 4 (by decide) (by omega) (by omega) (by omega) (by decide +kernel) (by first | omega | assumption) (Nat.le_of_eq (by rfl)) ?_) | refine wpAny_with_toks (n := 1) (by first | assumption | (dsimp only; omega)) (replaceP 60029 4 (by decide) (by omega) (by omega) (by omega) (by decide +kernel) (by first | omega | assumption) (Nat.le_of_eq (by rfl)) ?_) | refine wpAny_with_toks (n := 1) (by first | assumption | (dsimp only; omega)) (replaceP 300149 6 (by decide) (by omega) (by omega) (by omega) (by decide +kernel) (by first | omega | assumption) (Nat.le_of_eq (by rfl)) ?_)); intro t9 k9 hl9; (simp only [Nat.reduceMul, Nat.reduceAdd] at hl9)))
local macro_rules | `(tactic| walk_at "M end") => `(tactic| ((try dsimp only); (try (k_unfold; dsimp only)); refine leaveP (by assumption) ?_))
local macro_rules | `(tactic| walk_at "call builtin:str.join") => `(tactic| (k_here; (with_reducible show wpAny _ _ (call (Value.builtin "str.join") [Value.str _ _, Value.ref _]) _ _ _); (refine join_listW (News.isList (by k_asm) (by k_mem)) (show StrsAre (List.toArray _).toList _ by assumption) (by decide) (by assumption) ?_); intro t9 k9))
local macro_rules | `(tactic| walk_at "exec While Compare cons nil") => `(tactic| (k_here; refine hold ?_))
local macro_rules | `(tactic| walk_at "getMethod str") => `(tactic| (k_here; with_reducible refine meth_enc ?_))
local macro_rules | `(tactic| walk_at "call builtin:str.encode") => `(tactic| (k_here; (refine call_enc (by assumption) ?_); intro t9 k9))
local macro_rules | `(tactic| walk_at "formatField int") => `(tactic| (k_here; (refine field_02X (by first | rfl | decide +kernel) (by first | assumption | omega) ?_); intro t9 k9))
local macro_rules | `(tactic| walk_at "CompEnd") => `(tactic| first | refine compEnd_el (by k_asm) (by k_asm) (by kcj_all) (by assumption) ?_ | exact compEnd_no (by k_asm) (by k_asm) (by kcj_all) (by assumption))
local macro_rules | `(tactic| walk_at "exec For Name Name cons nil") => `(tactic| (k_here; refine hold ?_))
local macro_rules | `(tactic| walk_at "M step") => `(tactic| first | (k_unfold; (try dsimp only)) | (k_end; wrow_close) | walk1 | (dsimp only; walk1) | (leave1; walk_say "STEP leave1"; try dsimp only))
local macro_rules | `(tactic| walk_at "call builtin:list.append") => `(tactic| (k_here; (with_reducible show wpAny _ _ (call (Value.builtin _) [Value.ref _, _]) _ _ _); k_dflt (refine' append_K ?k1 ?k2 ?k3 ?_ ?z; (case k1 => k_asm); (case k2 => k_asm); (case k3 => k_upd); (case z => (first | (rw [sizeLine_eq]; omega) | (show _ ≤ 16777216; omega))); k_whole); intro h' F' N'; (try k_sweep)))
local macro_rules | `(tactic| walk_at "binaryOp Add ref ref") => `(tactic| (k_here; (with_reducible show wpAny _ _ (binaryOp _ (Value.ref _) (Value.ref _)) _ _ _); k_dflt (refine' addK ?F ?N ?a ?b ?_ ?z; (case F => k_asm); (case N => k_asm); (case a => exact News.isList (by k_asm) (by k_mem)); (case b => exact News.isList (by k_asm) (by k_mem)); (case z => ((try simp only [List.size_toArray]); rw [sizeLine_eq]; omega))); intro D' h' F' N' l1; (try k_lt l1); (try k_sweep)))
local macro_rules | `(tactic| walk_at "eval ListComp") => `(tactic| (k_here; k_dflt (refine ListComp_S (F₀ := by k_asm) (by with_unfolding_all rfl) (by decide) (by rfl) (by decide) (by rfl) ?_)))
theorem look_esc (c : Nat) (d : PyData) (t1 t2 t3 t4 t5 t6 : Tok) : (Spec.lookup (PyData.str { cps := #[c] }) (strData [(Value.str (Str.ofString "&") t1, Value.str (Str.ofString "&amp;") t2), (Value.str (Str.ofString "<") t3, Value.str (Str.ofString "&lt;") t4), (Value.str (Str.ofString ">") t5, Value.str (Str.ofString "&gt;") t6)])).getD d =
    if c = 38 then .str (S [38, 97, 109, 112, 59]) else if c = 60 then .str (S [38, 108, 116, 59]) else if c = 62 then .str (S [38, 103, 116, 59]) else d := by
  have e1 : Str.ofString "&" = ⟨#[38]⟩ := by decide +kernel
  have e2 : Str.ofString "<" = ⟨#[60]⟩ := by decide +kernel
  have e3 : Str.ofString ">" = ⟨#[62]⟩ := by decide +kernel
  have f1 : Str.ofString "&amp;" = S [38, 97, 109, 112, 59] := by decide +kernel
  have f2 : Str.ofString "&lt;" = S [38, 108, 116, 59] := by decide +kernel
  have f3 : Str.ofString "&gt;" = S [38, 103, 116, 59] := by decide +kernel
  rw [e1, e2, e3, f1, f2, f3]
  simp only [strData, datumOf, Option.getD_some, Spec.lookup, same_str, str_eq1, decide_eq_true_eq, eq_comm (a := c)]
  (repeat' split) <;> rfl
theorem con_lesc (w : World) (l : List Nat) (t : Tok) (b : Bool) (hx : l.length ≤ 2000) : Con w true 1 8 110 [.str (S l) t, .bool b] [] (fun v => ∃ tk, v = .str (S (escL b l)) tk) := by
  w_top off
  walk_at "M enter"
  k_steps
  refine ⟨_, _, _, src_str _ _, by rfl, by k_asm, by k_asm, by (rw [sizeLine_eq]; simp; omega), fun s₂ hs₂ => ?_⟩
  obtain ⟨g, rfl⟩ := hs₂
  refine comp_turns (R := fun i y => ∀ c, l[i]? = some c → ∃ t : Tok, y = .str (S (escOne b c)) t) (fun i v I oI C oC D m₂ ys h tk E' hi hv hC hx F N off ne => ?_) ?_
  · obtain ⟨c, u, hc, rfl⟩ := hv
    have off0 := off
    simp only [LCg.Off3, and_true] at off
    dsimp only
    k_steps
    all_goals (
      (try dsimp only at *)
      unfold Hold
      intro c' hc'
      have e9 : c = c' := by simpa [hc'] using hc.symm
      subst e9
      rename PyProof.V.Flat _ _ => hF
      rw [look_esc] at hF
      have e8 : Str.ofString "\"" = ⟨#[34]⟩ := by decide +kernel
      have e7 : Str.ofString "&quot;" = S [38, 113, 117, 111, 116, 59] := by decide +kernel
      simp only [e8, e7, str_eq1, decide_eq_true_eq, decide_eq_false_iff_not] at *)
    all_goals (refine flat_inv hF ?_; unfold escOne; (repeat' split) <;> simp_all)
  · intro ys hl hy
    have hS : StrsAre ys (l.map fun c => S (escOne b c)) := strsOf (by simpa using hl) hy
    have hw : ((l.map fun c => S (escOne b c)).map (·.length)).sum + (l.map fun c => S (escOne b c)).length ≤ 1048576 := Nat.le_trans (sum_len_le _ 6 l fun c _ => escOne_len b c) (by omega)
    k_steps
    all_goals walk_at "M end"
    exact ⟨_, congrArg (Value.str · _) (tjoin_map _ _)⟩
end Mine
end BodyLEsc
section BodyQuo
open PySem PySem.W PyProof.Rows PySem.Calls
namespace Mine
local macro_rules | `(tactic| walk_at "M enter") => `(tactic| (
  unfold Con; k_fill
  intro mean mg mb dp un gd cn cs a ccd cl outer A₀ base h₀ L m s Q E B F X T hk hd hu htok hret
  first
  | ((k_dflt (refine' enterS (L := L) ?k1 ?k2 ?k3 ?k4 ?kA ?kF ?kK ?k6 ?k7 ?k8 ?k9 ?kB hret ?_ ?c2 ?c3 ?c4 ?c5; (case kA => exact rfl); (case kF => exact rfl); (case kK => assumption); (case k1 => k_asm); (case k2 => k_asm); (case k3 => k_asm); (case k4 => k_asm); (case k6 => k_is); (case k7 => k_is); (case k8 => ktr_room); (case k9 => first | exact BindsTo.of_eq rfl | (refine' binds_K ?x1 ?x2 ?x3 ?x4 ?x5 ?x6; (case x1 => exact Frag.In.keeps X F.keep); (case x2 => exact rfl); (case x3 => k_is); (case x4 => exact rfl); (case x5 => exact rfl); (case x6 => exact rfl))); (case c5 => decide); (case kB => exact locs rfl); (case c2 => exact rfl); (case c3 => exact rfl); (case c4 => exact rfl); k_whole)); clear hret B F X T; (try (have htok := htok rfl)); intro L' h' F' N' B' X' T'; (try dsimp only); (try k_fold))
  | ((k_dflt (refine' enterSC (L := L) ?k1 ?k2 ?k3 ?k4 ?kA ?kF ?kK ?k6 ?k7 ?k8 ?k9 ?kB ?kD hret ?_ ?c2 ?c3 ?c4; (case kA => exact rfl); (case kF => exact rfl); (case kK => assumption); (case k1 => k_asm); (case k2 => k_asm); (case k3 => k_asm); (case k4 => k_asm); (case k6 => k_is); (case k7 => k_is); (case k8 => ktr_room); (case k9 => first | exact BindsTo.of_eq rfl | (refine' binds_K ?x1 ?x2 ?x3 ?x4 ?x5 ?x6; (case x1 => exact Frag.In.keeps X F.keep); (case x2 => exact rfl); (case x3 => k_is); (case x4 => exact rfl); (case x5 => exact rfl); (case x6 => exact rfl))); (case kB => exact rfl); (case kD => decide +kernel); (case c2 => exact rfl); (case c3 => exact rfl); (case c4 => exact rfl); k_whole)); clear hret B F X T; (try (have htok := htok rfl)); intro L' h' tk' cells' htk' F' N' Y' B' X' T'; k_cells Y'; (try simp only [List.cons_append, List.nil_append, List.append_nil] at N'); (try dsimp only); (try k_fold))))
local macro_rules | `(tactic| walk_at "execs cons") => `(tactic| (k_here; (refine' execs_consP ?k1 ?_; (case k1 => first | assumption | (dsimp only; omega) | omega)); intro tk9 htk9; (try dsimp only)))
local macro_rules | `(tactic| walk_at "forall") => `(tactic| ((with_reducible show (0 < Shared.toks _) → _); intro htk9; (try dsimp only at htk9)))
local macro_rules | `(tactic| walk_at "call builtin:str.replace") => `(tactic| (k_here; (with_reducible show wpAny _ _ (call (Value.builtin "str.replace") [Value.str _ _, Value.str _ _, Value.str _ _]) _ _ _); (first | refine wpAny_with_toks (n := 1) (by first | assumption | (dsimp only; omega)) (replaceP 2000 5 (by decide) (by omega) (by omega) (by omega) (by decide +kernel) (by first | omega | assumption) (Nat.le_of_eq (by rfl)) ?_) | refine wpAny_with_toks (n := 1) (by first | assumption | (dsimp only; omega)) (replaceP 2000 3 (by decide) (by omega) (by omega) (by omega) (by decide +kernel) (by first | omega | assumption) (Nat.le_of_eq (by rfl)) ?_) | refine wpAny_with_toks (n := 1) (by first | assumption | (dsimp only; omega)) (replaceP 12005 4 (by decide) (by omega) (by omega) (by omega) (by decide +kernel) (by first | omega | assumption) (Nat.le_of_eq (by rfl)) ?_) | refine wpAny_with_toks (n := 1) (by first | assumption | (dsimp only; omega)) (replaceP 60029 4 (by decide) (by omega) (by omega) (by omega) (by decide +kernel) (by first | omega | assumption) (Nat.le_of_eq (by rfl)) ?_) | refine wpAny_with_toks (n := 1) (by first | assumption | (dsimp only; omega)) (replaceP 300149 6 (by decide) (by omega) (by omega) (by omega) (by decide +kernel) (by first | omega | assumption) (Nat.le_of_eq (by rfl)) ?_)); intro t9 k9 hl9; (simp only [Nat.reduceMul, Nat.reduceAdd] at hl9)))
local macro_rules | `(tactic| walk_at "M end") => `(tactic| ((try dsimp only); (try (k_unfold; dsimp only)); refine leaveP (by assumption) ?_))
local macro_rules | `(tactic| walk_at "call builtin:str.join") => `(tactic| (k_here; (with_reducible show wpAny _ _ (call (Value.builtin "str.join") [Value.str _ _, Value.ref _]) _ _ _); (refine join_listW (News.isList (by k_asm) (by k_mem)) (show StrsAre (List.toArray _).toList _ by assumption) (by decide) (by assumption) ?_); intro t9 k9))
local macro_rules | `(tactic| walk_at "exec While Compare cons nil") => `(tactic| (k_here; refine hold ?_))
local macro_rules | `(tactic| walk_at "getMethod str") => `(tactic| (k_here; with_reducible refine meth_enc ?_))
local macro_rules | `(tactic| walk_at "call builtin:str.encode") => `(tactic| (k_here; (refine call_enc (by assumption) ?_); intro t9 k9))
local macro_rules | `(tactic| walk_at "formatField int") => `(tactic| (k_here; (refine field_02X (by first | rfl | decide +kernel) (by first | assumption | omega) ?_); intro t9 k9))
local macro_rules | `(tactic| walk_at "CompEnd") => `(tactic| first | refine compEnd_el (by k_asm) (by k_asm) (by kcj_all) (by assumption) ?_ | exact compEnd_no (by k_asm) (by k_asm) (by kcj_all) (by assumption))
local macro_rules | `(tactic| walk_at "exec For Name Name cons nil") => `(tactic| (k_here; refine hold ?_))
local macro_rules | `(tactic| walk_at "M step") => `(tactic| first | (k_unfold; (try dsimp only)) | (k_end; wrow_close) | walk1 | (dsimp only; walk1) | (leave1; walk_say "STEP leave1"; try dsimp only))
local macro_rules | `(tactic| walk_at "call builtin:list.append") => `(tactic| (k_here; (with_reducible show wpAny _ _ (call (Value.builtin _) [Value.ref _, _]) _ _ _); k_dflt (refine' append_K ?k1 ?k2 ?k3 ?_ ?z; (case k1 => k_asm); (case k2 => k_asm); (case k3 => k_upd); (case z => (first | (rw [sizeLine_eq]; omega) | (show _ ≤ 16777216; omega))); k_whole); intro h' F' N'; (try k_sweep)))
local macro_rules | `(tactic| walk_at "binaryOp Add ref ref") => `(tactic| (k_here; (with_reducible show wpAny _ _ (binaryOp _ (Value.ref _) (Value.ref _)) _ _ _); k_dflt (refine' addK ?F ?N ?a ?b ?_ ?z; (case F => k_asm); (case N => k_asm); (case a => exact News.isList (by k_asm) (by k_mem)); (case b => exact News.isList (by k_asm) (by k_mem)); (case z => ((try simp only [List.size_toArray]); rw [sizeLine_eq]; omega))); intro D' h' F' N' l1; (try k_lt l1); (try k_sweep)))
local macro_rules | `(tactic| walk_at "eval ListComp") => `(tactic| (k_here; k_dflt (refine ListComp_S (F₀ := by k_asm) (by with_unfolding_all rfl) (by decide) (by rfl) (by decide) (by rfl) ?_)))
local macro_rules | `(tactic| walk_at "exec Assign cons ListComp") => `(tactic| (k_here; k_dflt (refine Assign_ListComp_S (F₀ := by k_asm) (by rfl) (by with_unfolding_all rfl) (by with_unfolding_all rfl) (by decide) (by rfl) (by decide) (by rfl) (by rfl) (by rfl) ?_)))
theorem con_quoK (w : World) (l z : List Nat) (t u : Tok) (hx : l.length ≤ 2000) (hz : z.length ≤ 100) (hg : ∀ c ∈ l, Str.isSurrogate c = false) : Con w false 2 20 38 [.str (S l) t] [(Str.ofString "safe", .str (S z) u)] (fun v => ∃ tk, v = .str (S (quoL z l)) tk) := by
  w_top off
  have hxS := lenS l
  have hzS := lenS z
  walk_at "M enter"
  k_steps
  refine ⟨_, _, _, src_str _ _, by rfl, by k_asm, by k_asm, by (rw [sizeLine_eq]; simp; omega), fun s₂ hs₂ => ?_⟩
  obtain ⟨g, rfl⟩ := hs₂
  refine comp_turns (R := fun i y => ∀ c, l[i]? = some c → ∃ t : Tok, y = .str (S (quoOne z c)) t) (fun i v I oI C oC D m₂ ys h tk E' hi hv hC hx F N off ne => ?_) ?_
  · obtain ⟨c, u, hc, rfl⟩ := hv
    have off0 := off
    simp only [LCg.Off3, and_true] at off
    dsimp only
    have hsur : Str.isSurrogate c = false := hg c (by have := Array.mem_of_getElem? hc; simpa using this)
    k_steps
    · dsimp only
      refine ⟨_, _, _, src_bytes _ _, by rfl, by k_asm, by k_asm, by (rw [sizeLine_eq]; have := utf8Of_len c; simp; omega), fun s₂ hs₂ => ?_⟩
      obtain ⟨g2, rfl⟩ := hs₂
      refine comp_turns (R := fun i y => ∀ c', (Str.utf8Of c)[i]? = some c' → ∃ t : Tok, y = .str (S (pct c')) t) (fun i v I oI C oC D m₂ ys h tk E' hi hv hC hx F N off ne => ?_) ?_
      · obtain ⟨c', u, hc', rfl⟩ := hv
        have hlt := c'.toNat_lt
        have off0 := off
        simp only [LCg.Off3, and_true] at off
        dsimp only
        k_steps
        unfold Hold
        intro c'' hc''
        obtain rfl := getL hc' hc''
        have e9 : Str.empty ++ Str.ofString "%" ++ S [hexU (c'.toNat / 16), hexU (c'.toNat % 16)] = S (pct c') := rfl
        exact ⟨_, congrArg (Value.str · _) e9⟩
      · intro ys2 hl2 hy2
        have hS2 : StrsAre ys2 ((Str.utf8Of c).map fun c' => S (pct c')) := strsOf (by simpa using hl2) hy2
        have hw2 : (((Str.utf8Of c).map fun c' => S (pct c')).map (·.length)).sum + ((Str.utf8Of c).map fun c' => S (pct c')).length ≤ 1048576 := Nat.le_trans (sum_len_le _ 3 _ fun c _ => by simp [pct, Str.length]) (by have := utf8Of_len c; omega)
        k_steps
        unfold Hold
        intro c' hc'
        obtain rfl := getL hc hc'
        rename (_ : Bool) = true => ha
        rw [show (Str.ofString "ABCDEFGHIJKLMNOPQRSTUVWXYZabcdefghijklmnopqrstuvwxyz0123456789_.-~" : Str) = S safeL from by decide +kernel, S_append] at ha
        have hb := occ_one ha
        refine ⟨_, congrArg (Value.str · _) ((tjoin_map _ _).trans ?_)⟩
        unfold quoOne
        rw [if_neg (by simpa using hb)]
    · unfold Hold
      intro c' hc'
      obtain rfl := getL hc hc'
      rename (_ : Bool) = false => ha
      rw [show (Str.ofString "ABCDEFGHIJKLMNOPQRSTUVWXYZabcdefghijklmnopqrstuvwxyz0123456789_.-~" : Str) = S safeL from by decide +kernel, S_append] at ha
      have hb := occ_one ha
      unfold quoOne
      rw [if_pos (by simpa using hb)]
      exact ⟨_, rfl⟩
  · intro ys hl hy
    have hS : StrsAre ys (l.map fun c => S (quoOne z c)) := strsOf (by simpa using hl) hy
    have hw : ((l.map fun c => S (quoOne z c)).map (·.length)).sum + (l.map fun c => S (quoOne z c)).length ≤ 1048576 := Nat.le_trans (sum_len_le _ 12 l fun c _ => quoOne_len z c) (by omega)
    k_steps
    all_goals walk_at "M end"
    exact ⟨_, congrArg (Value.str · _) (tjoin_map _ _)⟩
theorem con_quo1 (w : World) (l : List Nat) (t : Tok) (hx : l.length ≤ 2000) (hg : ∀ c ∈ l, Str.isSurrogate c = false) : Con w false 2 20 38 [.str (S l) t] [] (fun v => ∃ tk, v = .str (S (quoL [47] l)) tk) := by
  w_top off
  have hxS := lenS l
  have hzS : (Str.ofString "/").length ≤ 100 := by decide +kernel
  walk_at "M enter"
  k_steps
  refine ⟨_, _, _, src_str _ _, by rfl, by k_asm, by k_asm, by (rw [sizeLine_eq]; simp; omega), fun s₂ hs₂ => ?_⟩
  obtain ⟨g, rfl⟩ := hs₂
  refine comp_turns (R := fun i y => ∀ c, l[i]? = some c → ∃ t : Tok, y = .str (S (quoOne [47] c)) t) (fun i v I oI C oC D m₂ ys h tk E' hi hv hC hx F N off ne => ?_) ?_
  · obtain ⟨c, u, hc, rfl⟩ := hv
    have off0 := off
    simp only [LCg.Off3, and_true] at off
    dsimp only
    have hsur : Str.isSurrogate c = false := hg c (by have := Array.mem_of_getElem? hc; simpa using this)
    k_steps
    · dsimp only
      refine ⟨_, _, _, src_bytes _ _, by rfl, by k_asm, by k_asm, by (rw [sizeLine_eq]; have := utf8Of_len c; simp; omega), fun s₂ hs₂ => ?_⟩
      obtain ⟨g2, rfl⟩ := hs₂
      refine comp_turns (R := fun i y => ∀ c', (Str.utf8Of c)[i]? = some c' → ∃ t : Tok, y = .str (S (pct c')) t) (fun i v I oI C oC D m₂ ys h tk E' hi hv hC hx F N off ne => ?_) ?_
      · obtain ⟨c', u, hc', rfl⟩ := hv
        have hlt := c'.toNat_lt
        have off0 := off
        simp only [LCg.Off3, and_true] at off
        dsimp only
        k_steps
        unfold Hold
        intro c'' hc''
        obtain rfl := getL hc' hc''
        have e9 : Str.empty ++ Str.ofString "%" ++ S [hexU (c'.toNat / 16), hexU (c'.toNat % 16)] = S (pct c') := rfl
        exact ⟨_, congrArg (Value.str · _) e9⟩
      · intro ys2 hl2 hy2
        have hS2 : StrsAre ys2 ((Str.utf8Of c).map fun c' => S (pct c')) := strsOf (by simpa using hl2) hy2
        have hw2 : (((Str.utf8Of c).map fun c' => S (pct c')).map (·.length)).sum + ((Str.utf8Of c).map fun c' => S (pct c')).length ≤ 1048576 := Nat.le_trans (sum_len_le _ 3 _ fun c _ => by simp [pct, Str.length]) (by have := utf8Of_len c; omega)
        k_steps
        unfold Hold
        intro c' hc'
        obtain rfl := getL hc hc'
        rename (_ : Bool) = true => ha
        rw [show (Str.ofString "ABCDEFGHIJKLMNOPQRSTUVWXYZabcdefghijklmnopqrstuvwxyz0123456789_.-~/" : Str) = S (safeL ++ [47]) from by decide +kernel] at ha
        have hb := occ_one ha
        refine ⟨_, congrArg (Value.str · _) ((tjoin_map _ _).trans ?_)⟩
        unfold quoOne
        rw [if_neg (by simpa using hb)]
    · unfold Hold
      intro c' hc'
      obtain rfl := getL hc hc'
      rename (_ : Bool) = false => ha
      rw [show (Str.ofString "ABCDEFGHIJKLMNOPQRSTUVWXYZabcdefghijklmnopqrstuvwxyz0123456789_.-~/" : Str) = S (safeL ++ [47]) from by decide +kernel] at ha
      have hb := occ_one ha
      unfold quoOne
      rw [if_pos (by simpa using hb)]
      exact ⟨_, rfl⟩
  · intro ys hl hy
    have hS : StrsAre ys (l.map fun c => S (quoOne [47] c)) := strsOf (by simpa using hl) hy
    have hw : ((l.map fun c => S (quoOne [47] c)).map (·.length)).sum + (l.map fun c => S (quoOne [47] c)).length ≤ 1048576 := Nat.le_trans (sum_len_le _ 12 l fun c _ => quoOne_len [47] c) (by omega)
    k_steps
    all_goals walk_at "M end"
    exact ⟨_, congrArg (Value.str · _) (tjoin_map _ _)⟩
end Mine
end BodyQuo
section BodyCod
open PySem PySem.W PyProof.Rows PySem.Calls
namespace Mine
local macro_rules | `(tactic| walk_at "M enter") => `(tactic| (
  unfold Con; k_fill
  intro mean mg mb dp un gd cn cs a ccd cl outer A₀ base h₀ L m s Q E B F X T hk hd hu htok hret
  first
  | ((k_dflt (refine' enterS (L := L) ?k1 ?k2 ?k3 ?k4 ?kA ?kF ?kK ?k6 ?k7 ?k8 ?k9 ?kB hret ?_ ?c2 ?c3 ?c4 ?c5; (case kA => exact rfl); (case kF => exact rfl); (case kK => assumption); (case k1 => k_asm); (case k2 => k_asm); (case k3 => k_asm); (case k4 => k_asm); (case k6 => k_is); (case k7 => k_is); (case k8 => ktr_room); (case k9 => first | exact BindsTo.of_eq rfl | (refine' binds_K ?x1 ?x2 ?x3 ?x4 ?x5 ?x6; (case x1 => exact Frag.In.keeps X F.keep); (case x2 => exact rfl); (case x3 => k_is); (case x4 => exact rfl); (case x5 => exact rfl); (case x6 => exact rfl))); (case c5 => decide); (case kB => exact locs rfl); (case c2 => exact rfl); (case c3 => exact rfl); (case c4 => exact rfl); k_whole)); clear hret B F X T; (try (have htok := htok rfl)); intro L' h' F' N' B' X' T'; (try dsimp only); (try k_fold))
  | ((k_dflt (refine' enterSC (L := L) ?k1 ?k2 ?k3 ?k4 ?kA ?kF ?kK ?k6 ?k7 ?k8 ?k9 ?kB ?kD hret ?_ ?c2 ?c3 ?c4; (case kA => exact rfl); (case kF => exact rfl); (case kK => assumption); (case k1 => k_asm); (case k2 => k_asm); (case k3 => k_asm); (case k4 => k_asm); (case k6 => k_is); (case k7 => k_is); (case k8 => ktr_room); (case k9 => first | exact BindsTo.of_eq rfl | (refine' binds_K ?x1 ?x2 ?x3 ?x4 ?x5 ?x6; (case x1 => exact Frag.In.keeps X F.keep); (case x2 => exact rfl); (case x3 => k_is); (case x4 => exact rfl); (case x5 => exact rfl); (case x6 => exact rfl))); (case kB => exact rfl); (case kD => decide +kernel); (case c2 => exact rfl); (case c3 => exact rfl); (case c4 => exact rfl); k_whole)); clear hret B F X T; (try (have htok := htok rfl)); intro L' h' tk' cells' htk' F' N' Y' B' X' T'; k_cells Y'; (try simp only [List.cons_append, List.nil_append, List.append_nil] at N'); (try dsimp only); (try k_fold))))
local macro_rules | `(tactic| walk_at "execs cons") => `(tactic| (k_here; (refine' execs_consP ?k1 ?_; (case k1 => first | assumption | (dsimp only; omega) | omega)); intro tk9 htk9; (try dsimp only)))
local macro_rules | `(tactic| walk_at "forall") => `(tactic| ((with_reducible show (0 < Shared.toks _) → _); intro htk9; (try dsimp only at htk9)))
local macro_rules | `(tactic| walk_at "call builtin:str.replace") => `(tactic| (k_here; (with_reducible show wpAny _ _ (call (Value.builtin "str.replace") [Value.str _ _, Value.str _ _, Value.str _ _]) _ _ _); (first | refine wpAny_with_toks (n := 1) (by first | assumption | (dsimp only; omega)) (replaceP 2000 5 (by decide) (by omega) (by omega) (by omega) (by decide +kernel) (by first | omega | assumption) (Nat.le_of_eq (by rfl)) ?_) | refine wpAny_with_toks (n := 1) (by first | assumption | (dsimp only; omega)) (replaceP 2000 3 (by decide) (by omega) (by omega) (by omega) (by decide +kernel) (by first | omega | assumption) (Nat.le_of_eq (by rfl)) ?_) | refine wpAny_with_toks (n := 1) (by first | assumption | (dsimp only; omega)) (replaceP 12005 4 (by decide) (by omega) (by omega) (by omega) (by decide +kernel) (by first | omega | assumption) (Nat.le_of_eq (by rfl)) ?_) | refine wpAny_with_toks (n := 1) (by first | assumption | (dsimp only; omega)) (replaceP 60029 4 (by decide) (by omega) (by omega) (by omega) (by decide +kernel) (by first | omega | assumption) (Nat.le_of_eq (by rfl)) ?_) | refine wpAny_with_toks (n := 1) (by first | assumption | (dsimp only; omega)) (replaceP 300149 6 (by decide) (by omega) (by omega) (by omega) (by decide +kernel) (by first | omega | assumption) (Nat.le_of_eq (by rfl)) ?_)); intro t9 k9 hl9; (simp only [Nat.reduceMul, Nat.reduceAdd] at hl9)))
local macro_rules | `(tactic| walk_at "M end") => `(tactic| ((try dsimp only); (try (k_unfold; dsimp only)); refine leaveP (by assumption) ?_))
local macro_rules | `(tactic| walk_at "call builtin:str.join") => `(tactic| (k_here; (with_reducible show wpAny _ _ (call (Value.builtin "str.join") [Value.str _ _, Value.ref _]) _ _ _); (refine join_listW (News.isList (by k_asm) (by k_mem)) (show StrsAre (List.toArray _).toList _ by assumption) (by decide) (by assumption) ?_); intro t9 k9))
local macro_rules | `(tactic| walk_at "exec While Compare cons nil") => `(tactic| (k_here; refine hold ?_))
local macro_rules | `(tactic| walk_at "getMethod str") => `(tactic| (k_here; with_reducible refine meth_enc ?_))
local macro_rules | `(tactic| walk_at "call builtin:str.encode") => `(tactic| (k_here; (refine call_enc (by assumption) ?_); intro t9 k9))
local macro_rules | `(tactic| walk_at "formatField int") => `(tactic| (k_here; (refine field_02X (by first | rfl | decide +kernel) (by first | assumption | omega) ?_); intro t9 k9))
local macro_rules | `(tactic| walk_at "CompEnd") => `(tactic| first | refine compEnd_el (by k_asm) (by k_asm) (by kcj_all) (by assumption) ?_ | exact compEnd_no (by k_asm) (by k_asm) (by kcj_all) (by assumption))
local macro_rules | `(tactic| walk_at "exec For Name Name cons nil") => `(tactic| (k_here; refine hold ?_))
local macro_rules | `(tactic| walk_at "M step") => `(tactic| first | (k_unfold; (try dsimp only)) | (k_end; wrow_close) | walk1 | (dsimp only; walk1) | (leave1; walk_say "STEP leave1"; try dsimp only))
local macro_rules | `(tactic| walk_at "call builtin:list.append") => `(tactic| (k_here; (with_reducible show wpAny _ _ (call (Value.builtin _) [Value.ref _, _]) _ _ _); k_dflt (refine' append_K ?k1 ?k2 ?k3 ?_ ?z; (case k1 => k_asm); (case k2 => k_asm); (case k3 => k_upd); (case z => (first | (rw [sizeLine_eq]; omega) | (show _ ≤ 16777216; omega))); k_whole); intro h' F' N'; (try k_sweep)))
local macro_rules | `(tactic| walk_at "binaryOp Add ref ref") => `(tactic| (k_here; (with_reducible show wpAny _ _ (binaryOp _ (Value.ref _) (Value.ref _)) _ _ _); k_dflt (refine' addK ?F ?N ?a ?b ?_ ?z; (case F => k_asm); (case N => k_asm); (case a => exact News.isList (by k_asm) (by k_mem)); (case b => exact News.isList (by k_asm) (by k_mem)); (case z => ((try simp only [List.size_toArray]); rw [sizeLine_eq]; omega))); intro D' h' F' N' l1; (try k_lt l1); (try k_sweep)))
local macro_rules | `(tactic| walk_at "M pad0") => `(tactic| skip)
local macro_rules | `(tactic| walk_at "M pad1") => `(tactic| skip)
local macro_rules | `(tactic| walk_at "eval ListComp") => `(tactic| (k_here; k_dflt (refine ListComp_S (F₀ := by k_asm) (by with_unfolding_all rfl) (by decide) (by rfl) (by decide) (by rfl) ?_)))
theorem con_cod (w : World) (l z : List Nat) (t u : Tok) (hx : l.length ≤ 2000) (hz : z.length ≤ 100) (hg : ∀ c ∈ l, Str.isSurrogate c = false) : Con w false 2 20 127 [.str (S l) t, .str (S z) u] [] (fun v => ∃ tk, v = .str (S (codL z l)) tk) := by
  w_top off
  have hxS := lenS l
  have hzS := lenS z
  walk_at "M enter"
  k_steps
  unfold Hold
  rename Fr _ _ _ _ => F0
  refine for_inv (n := l.length) (P := SignAt (S l)) (fun i m nx => m (Str.ofString "text") = some (.str (S l) t) ∧ m (Str.ofString "kept") = some (.str (S z) u) ∧ ∃ (D : Addr) (vs : Array Value) (n : Nat) (xs : List (List Nat)), m (Str.ofString "rows") = some (.ref D) ∧ nx = [(D, W.listOf vs n)] ∧ StrsAre vs.toList (xs.map S) ∧ xs.flatten = codL z (l.take i) ∧ xs.length ≤ 4 * i ∧ vs.size = xs.length) F0 (by rfl) (by rfl) (by rfl) ?_
  k_steps
  unfold Hold
  refine ⟨by simpa using src_str (S l) t, _, _, by k_asm, by k_asm, ⟨rfl, rfl, _, _, _, [], rfl, rfl, .nil, rfl, Nat.le_refl _, rfl⟩, ?_, ?_⟩
  · intro i v m nx I oI h tk hi hv hI F N off
    obtain ⟨c, uc, hc, rfl⟩ := hv
    obtain ⟨e1, e2, D, vs, n, xs, e3, rfl, hS, hfl, hn, hvs⟩ := hI
    have e1' : (if Str.ofString "text" = Str.ofString "sign" then some (Value.str ⟨#[c]⟩ uc) else m (Str.ofString "text")) = some (.str (S l) t) := e1
    have off0 := off
    simp only [OffI, and_true] at off
    dsimp only
    replace F := fr_known4 F (x0 := Str.ofString "sign") (x1 := Str.ofString "text") (x2 := Str.ofString "kept") (x3 := Str.ofString "rows") rfl e1 e2 e3
    have hsur : Str.isSurrogate c = false := hg c (by have := Array.mem_of_getElem? hc; simpa using this)
    k_steps
    · dsimp only
      refine forEnd (nx' := [(D, _)]) (by k_asm) (by k_asm) (fun p hp => hp) ⟨off, trivial⟩ ⟨rfl, rfl, D, _, _, xs ++ [[c]], rfl, rfl, ?_, ?_, ?_, ?_⟩
      · rw [Array.toList_push]; exact strs_snoc hS
      · rw [codL_take (by simpa using hc), cod_yes1 (by assumption) (by assumption)]; simp [hfl]
      · simp; omega
      · simp [hvs]
    · dsimp only
      refine ⟨_, _, _, src_bytes _ _, by rfl, by k_asm, by k_asm, by (rw [sizeLine_eq]; have := utf8Of_len c; simp; omega), fun s₂ hs₂ => ?_⟩
      obtain ⟨g2, rfl⟩ := hs₂
      refine comp_turns (R := fun i y => ∀ c', (Str.utf8Of c)[i]? = some c' → ∃ t : Tok, y = .str (S (pct c')) t) (fun i v I oI C oC D m₂ ys h tk E' hi hv hC hx F N off ne => ?_) ?_
      · obtain ⟨c', u, hc', rfl⟩ := hv
        have hlt := c'.toNat_lt
        have off0 := off
        simp only [LCg.Off3, and_true] at off
        dsimp only
        k_steps
        unfold Hold
        intro c'' hc''
        obtain rfl := getL hc' hc''
        exact ⟨_, congrArg (Value.str · _) (dig_ok c'.toNat hlt)⟩
      · intro ys2 hl2 hy2
        have hS2 : StrsAre ys2 ((Str.utf8Of c).map fun c' => S (pct c')) := strsOf (by simpa using hl2) hy2
        have hy3 : ys2.length ≤ 4 := by have := utf8Of_len c; simp at hl2; omega
        k_steps
        dsimp only
        refine forEnd (nx' := [(_, _)]) (by k_asm) (by k_asm) (by kcj_all) ?_ ⟨rfl, rfl, _, _, _, xs ++ (Str.utf8Of c).map pct, rfl, rfl, ?_, ?_, ?_, ?_⟩
        · refine ⟨?_, trivial⟩
          dsimp only; omega
        · rw [List.map_append]
          refine strs_app hS ?_
          rw [List.map_map]; exact hS2
        · rw [codL_take (by simpa using hc), cod_no1 (by assumption) (by assumption) (by assumption)]; simp [hfl, List.flatMap_def]
        · simp; have := utf8Of_len c; omega
        · simp [hvs]; simpa using hl2
    · dsimp only
      refine forEnd (nx' := [(D, _)]) (by k_asm) (by k_asm) (fun p hp => hp) ⟨off, trivial⟩ ⟨rfl, rfl, D, _, _, xs ++ [[c]], rfl, rfl, ?_, ?_, ?_, ?_⟩
      · rw [Array.toList_push]; exact strs_snoc hS
      · rw [codL_take (by simpa using hc), cod_yes2 (by assumption)]; simp [hfl]
      · simp; omega
      · simp [hvs]
    · dsimp only
      refine ⟨_, _, _, src_bytes _ _, by rfl, by k_asm, by k_asm, by (rw [sizeLine_eq]; have := utf8Of_len c; simp; omega), fun s₂ hs₂ => ?_⟩
      obtain ⟨g2, rfl⟩ := hs₂
      refine comp_turns (R := fun i y => ∀ c', (Str.utf8Of c)[i]? = some c' → ∃ t : Tok, y = .str (S (pct c')) t) (fun i v I oI C oC D m₂ ys h tk E' hi hv hC hx F N off ne => ?_) ?_
      · obtain ⟨c', u, hc', rfl⟩ := hv
        have hlt := c'.toNat_lt
        have off0 := off
        simp only [LCg.Off3, and_true] at off
        dsimp only
        k_steps
        unfold Hold
        intro c'' hc''
        obtain rfl := getL hc' hc''
        exact ⟨_, congrArg (Value.str · _) (dig_ok c'.toNat hlt)⟩
      · intro ys2 hl2 hy2
        have hS2 : StrsAre ys2 ((Str.utf8Of c).map fun c' => S (pct c')) := strsOf (by simpa using hl2) hy2
        have hy3 : ys2.length ≤ 4 := by have := utf8Of_len c; simp at hl2; omega
        k_steps
        dsimp only
        refine forEnd (nx' := [(_, _)]) (by k_asm) (by k_asm) (by kcj_all) ?_ ⟨rfl, rfl, _, _, _, xs ++ (Str.utf8Of c).map pct, rfl, rfl, ?_, ?_, ?_, ?_⟩
        · refine ⟨?_, trivial⟩
          dsimp only; omega
        · rw [List.map_append]
          refine strs_app hS ?_
          rw [List.map_map]; exact hS2
        · rw [codL_take (by simpa using hc), cod_no2 (by assumption) (by assumption)]; simp [hfl, List.flatMap_def]
        · simp; have := utf8Of_len c; omega
        · simp [hvs]; simpa using hl2
    · dsimp only
      refine forEnd (nx' := [(D, _)]) (by k_asm) (by k_asm) (fun p hp => hp) ⟨off, trivial⟩ ⟨rfl, rfl, D, _, _, xs ++ [[c]], rfl, rfl, ?_, ?_, ?_, ?_⟩
      · rw [Array.toList_push]; exact strs_snoc hS
      · rw [codL_take (by simpa using hc), cod_yes2 (by assumption)]; simp [hfl]
      · simp; omega
      · simp [hvs]
  · intro m nx h tk hI F N
    obtain ⟨e1, e2, D, vs, n, xs, e3, rfl, hS, hfl, hn, hvs⟩ := hI
    replace F := fr_known3 F e1 e2 e3
    dsimp only
    rw [List.take_length] at hfl
    have hw : ((xs.map S).map (·.length)).sum + (xs.map S).length ≤ 1048576 := by
      rw [sum_map_S, hfl, List.length_map]; have := codL_len z l; omega
    k_steps
    walk_at "M end"
    refine ⟨_, congrArg (Value.str · _) ?_⟩
    rw [← hfl]; exact (StrLaws.glued_eq_join _ _).trans (join_empty xs)
end Mine
end BodyCod
section BodyUnq
open PySem PySem.W PyProof.Rows PySem.Calls
namespace Mine
local macro_rules | `(tactic| walk_at "M enter") => `(tactic| (
  unfold Con; k_fill
  intro mean mg mb dp un gd cn cs a ccd cl outer A₀ base h₀ L m s Q E B F X T hk hd hu htok hret
  first
  | ((k_dflt (refine' enterS (L := L) ?k1 ?k2 ?k3 ?k4 ?kA ?kF ?kK ?k6 ?k7 ?k8 ?k9 ?kB hret ?_ ?c2 ?c3 ?c4 ?c5; (case kA => exact rfl); (case kF => exact rfl); (case kK => assumption); (case k1 => k_asm); (case k2 => k_asm); (case k3 => k_asm); (case k4 => k_asm); (case k6 => k_is); (case k7 => k_is); (case k8 => ktr_room); (case k9 => first | exact BindsTo.of_eq rfl | (refine' binds_K ?x1 ?x2 ?x3 ?x4 ?x5 ?x6; (case x1 => exact Frag.In.keeps X F.keep); (case x2 => exact rfl); (case x3 => k_is); (case x4 => exact rfl); (case x5 => exact rfl); (case x6 => exact rfl))); (case c5 => decide); (case kB => exact locs rfl); (case c2 => exact rfl); (case c3 => exact rfl); (case c4 => exact rfl); k_whole)); clear hret B F X T; (try (have htok := htok rfl)); intro L' h' F' N' B' X' T'; (try dsimp only); (try k_fold))
  | ((k_dflt (refine' enterSC (L := L) ?k1 ?k2 ?k3 ?k4 ?kA ?kF ?kK ?k6 ?k7 ?k8 ?k9 ?kB ?kD hret ?_ ?c2 ?c3 ?c4; (case kA => exact rfl); (case kF => exact rfl); (case kK => assumption); (case k1 => k_asm); (case k2 => k_asm); (case k3 => k_asm); (case k4 => k_asm); (case k6 => k_is); (case k7 => k_is); (case k8 => ktr_room); (case k9 => first | exact BindsTo.of_eq rfl | (refine' binds_K ?x1 ?x2 ?x3 ?x4 ?x5 ?x6; (case x1 => exact Frag.In.keeps X F.keep); (case x2 => exact rfl); (case x3 => k_is); (case x4 => exact rfl); (case x5 => exact rfl); (case x6 => exact rfl))); (case kB => exact rfl); (case kD => decide +kernel); (case c2 => exact rfl); (case c3 => exact rfl); (case c4 => exact rfl); k_whole)); clear hret B F X T; (try (have htok := htok rfl)); intro L' h' tk' cells' htk' F' N' Y' B' X' T'; k_cells Y'; (try simp only [List.cons_append, List.nil_append, List.append_nil] at N'); (try dsimp only); (try k_fold))))
local macro_rules | `(tactic| walk_at "execs cons") => `(tactic| (k_here; (refine' execs_consP ?k1 ?_; (case k1 => first | assumption | (dsimp only; omega) | omega)); intro tk9 htk9; (try dsimp only)))
local macro_rules | `(tactic| walk_at "forall") => `(tactic| ((with_reducible show (0 < Shared.toks _) → _); intro htk9; (try dsimp only at htk9)))
local macro_rules | `(tactic| walk_at "call builtin:str.replace") => `(tactic| (k_here; (with_reducible show wpAny _ _ (call (Value.builtin "str.replace") [Value.str _ _, Value.str _ _, Value.str _ _]) _ _ _); (first | refine wpAny_with_toks (n := 1) (by first | assumption | (dsimp only; omega)) (replaceP 2000 5 (by decide) (by omega) (by omega) (by omega) (by decide +kernel) (by first | omega | assumption) (Nat.le_of_eq (by rfl)) ?_) | refine wpAny_with_toks (n := 1) (by first | assumption | (dsimp only; omega)) (replaceP 2000 3 (by decide) (by omega) (by omega) (by omega) (by decide +kernel) (by first | omega | assumption) (Nat.le_of_eq (by rfl)) ?_) | refine wpAny_with_toks (n := 1) (by first | assumption | (dsimp only; omega)) (replaceP 12005 4 (by decide) (by omega) (by omega) (by omega) (by decide +kernel) (by first | omega | assumption) (Nat.le_of_eq (by rfl)) ?_) | refine wpAny_with_toks (n := 1) (by first | assumption | (dsimp only; omega)) (replaceP 60029 4 (by decide) (by omega) (by omega) (by omega) (by decide +kernel) (by first | omega | assumption) (Nat.le_of_eq (by rfl)) ?_) | refine wpAny_with_toks (n := 1) (by first | assumption | (dsimp only; omega)) (replaceP 300149 6 (by decide) (by omega) (by omega) (by omega) (by decide +kernel) (by first | omega | assumption) (Nat.le_of_eq (by rfl)) ?_)); intro t9 k9 hl9; (simp only [Nat.reduceMul, Nat.reduceAdd] at hl9)))
local macro_rules | `(tactic| walk_at "M end") => `(tactic| ((try dsimp only); (try (k_unfold; dsimp only)); refine leaveP (by assumption) ?_))
local macro_rules | `(tactic| walk_at "call builtin:str.join") => `(tactic| (k_here; (with_reducible show wpAny _ _ (call (Value.builtin "str.join") [Value.str _ _, Value.ref _]) _ _ _); (refine join_listW (News.isList (by k_asm) (by k_mem)) (show StrsAre (List.toArray _).toList _ by assumption) (by decide) (by assumption) ?_); intro t9 k9))
local macro_rules | `(tactic| walk_at "exec While Compare cons nil") => `(tactic| (k_here; refine hold ?_))
local macro_rules | `(tactic| walk_at "getMethod str") => `(tactic| (k_here; with_reducible refine meth_enc ?_))
local macro_rules | `(tactic| walk_at "call builtin:str.encode") => `(tactic| (k_here; (refine call_enc (by assumption) ?_); intro t9 k9))
local macro_rules | `(tactic| walk_at "formatField int") => `(tactic| (k_here; (refine field_02X (by first | rfl | decide +kernel) (by first | assumption | omega) ?_); intro t9 k9))
local macro_rules | `(tactic| walk_at "CompEnd") => `(tactic| first | refine compEnd_el (by k_asm) (by k_asm) (by kcj_all) (by assumption) ?_ | exact compEnd_no (by k_asm) (by k_asm) (by kcj_all) (by assumption))
local macro_rules | `(tactic| walk_at "exec For Name Name cons nil") => `(tactic| (k_here; refine hold ?_))
local macro_rules | `(tactic| walk_at "M step") => `(tactic| first | (k_unfold; (try dsimp only)) | (k_end; wrow_close) | walk1 | (dsimp only; walk1) | (leave1; walk_say "STEP leave1"; try dsimp only))
local macro_rules | `(tactic| walk_at "call builtin:list.append") => `(tactic| (k_here; (with_reducible show wpAny _ _ (call (Value.builtin _) [Value.ref _, _]) _ _ _); k_dflt (refine' append_K ?k1 ?k2 ?k3 ?_ ?z; (case k1 => k_asm); (case k2 => k_asm); (case k3 => k_upd); (case z => (first | (rw [sizeLine_eq]; omega) | (show _ ≤ 16777216; omega))); k_whole); intro h' F' N'; (try k_sweep)))
local macro_rules | `(tactic| walk_at "binaryOp Add ref ref") => `(tactic| (k_here; (with_reducible show wpAny _ _ (binaryOp _ (Value.ref _) (Value.ref _)) _ _ _); k_dflt (refine' addK ?F ?N ?a ?b ?_ ?z; (case F => k_asm); (case N => k_asm); (case a => exact News.isList (by k_asm) (by k_mem)); (case b => exact News.isList (by k_asm) (by k_mem)); (case z => ((try simp only [List.size_toArray]); rw [sizeLine_eq]; omega))); intro D' h' F' N' l1; (try k_lt l1); (try k_sweep)))
local macro_rules | `(tactic| walk_at "getMethod bytes") => `(tactic| (k_here; with_reducible refine KBd.method ?_))
local macro_rules | `(tactic| walk_at "call builtin:str.encode") => `(tactic| (k_here; (refine call_encI (by with_reducible assumption) (by with_reducible assumption) ?_); intro c9 hc9 t9 k9))
local macro_rules | `(tactic| walk_at "call type:bytes") => `(tactic| (k_here; (refine call_bytesO (by k_asm) (by k_asm) (by k_mem) (by with_reducible assumption) (by omega) (by rfl) ?_); intro h9 t9 k9 F9 N9))
local macro_rules | `(tactic| walk_at "call builtin:bytes.decode") => `(tactic| (k_here; (refine call_decode (by omega) (by with_reducible assumption) (by k_asm) (by k_asm) ?_); intro h9 k9 t9 F9 N9))
local macro_rules | `(tactic| walk_at "call builtin:list.extend") => `(tactic| (k_here; (refine call_ext (by k_asm) (by k_asm) (by k_updF) (by rfl) (by refine ext_room ?_; omega) ?_); intro h9 k9 vs9 c9 hv9 F9 N9; (try k_sweep)))
local macro_rules | `(tactic| walk_at "call type:int") => `(tactic| (k_here; refine call_int16 (by with_reducible assumption) (by with_reducible assumption) (by with_reducible assumption) ?_))
theorem con_unq (w : World) (l : List Nat) (t : Tok) (hx : l.length ≤ 2000) (hg : ∀ c ∈ l, Str.isSurrogate c = false) : Con w false 2 20 45 [.str (S l) t] [] (fun v => ∃ tk, v = .str (S (decS (octL l))) tk) := by
  w_top off
  have hxS := lenS l
  walk_at "M enter"
  k_steps
  unfold Hold
  refine while_inv (σ := List UInt8 × Nat) (fun a => l.length - a.2) (fun a m nx => m (Str.ofString "text") = some (.str (S l) t) ∧ (∃ t2, m (Str.ofString "place") = some (.int a.2 t2)) ∧ (∃ (D : Addr) (vs : Array Value) (n : Nat), m (Str.ofString "octets") = some (.ref D) ∧ nx = [(D, W.listOf vs n)] ∧ IntsAre vs.toList (natI a.1)) ∧ a.1 ++ octL (l.drop a.2) = octL l ∧ a.1.length ≤ 4 * a.2 ∧ a.2 ≤ l.length) ([], 0) (by k_asm) (by k_asm) (by first | assumption | (dsimp only; omega)) ?_ ?_
  · exact ⟨rfl, ⟨_, rfl⟩, ⟨_, _, _, rfl, rfl, .nil⟩, rfl, Nat.zero_le _, Nat.zero_le _⟩
  · rintro ⟨o, p⟩ m nx h tk htk ⟨e1, ⟨t2, e2⟩, ⟨D, vs, n, e3, rfl, hv⟩, ho, hol, hp⟩ F N
    dsimp only at *
    replace F := fr_known3 F e1 e2 e3
    have hvs : vs.size = o.length := by have := hv.length; simpa [natI] using this
    have hds : (decS o).length ≤ 16777216 := by have := decS_len o; omega
    k_steps
    · rename l[p]? = some _ => hc
      rename IntsAre _ (KBw.bInts _) => hv9
      rename (Builtin.Str.occurrences _ _ _ _ _).isEmpty = true => hq
      have hlt : p < l.length := (List.getElem?_eq_some_iff.mp hc).1
      have hu8 := utf8Of_len (l[p]'hlt)
      rw [(List.getElem?_eq_some_iff.mp hc).2] at hu8
      refine whEnd (nx' := [(D, _)]) (a' := (_, p + 1)) (by k_asm) (by k_asm) (fun p hp => hp) ?_ ⟨rfl, ⟨_, rfl⟩, ⟨D, _, _, rfl, rfl, ints_snocs hv hv9⟩, turn_one hc (cond0 (pair_slice l p) hq) ho, ?_, ?_⟩
      · dsimp only; omega
      · dsimp only; rw [List.length_append]; omega
      · dsimp only; omega
    · rename l[p]? = some _ => hc
      rename IntsAre _ (KBw.bInts _) => hv9
      rename (Builtin.Str.occurrences _ _ _ _ _).isEmpty = true => hq
      have hlt : p < l.length := (List.getElem?_eq_some_iff.mp hc).1
      have hu8 := utf8Of_len (l[p]'hlt)
      rw [(List.getElem?_eq_some_iff.mp hc).2] at hu8
      refine whEnd (nx' := [(D, _)]) (a' := (_, p + 1)) (by k_asm) (by k_asm) (fun p hp => hp) ?_ ⟨rfl, ⟨_, rfl⟩, ⟨D, _, _, rfl, rfl, ints_snocs hv hv9⟩, turn_one hc (cond1 (pair_slice l p) hq) ho, ?_, ?_⟩
      · dsimp only; omega
      · dsimp only; rw [List.length_append]; omega
      · dsimp only; omega
    · have hlt : (p : Int) < ((S l).length : Int) := by with_reducible assumption
      have h37 : (Txt.item (S l) (p : Int) == Str.ofString "%") = true := by with_reducible assumption
      have h2 : ((Txt.slice (S l) (some ((p : Int) + 1)) (some ((p : Int) + 3))).length : Int) = 2 := by with_reducible assumption
      have ha : (Builtin.Str.occurrences (Str.ofString "0123456789abcdefABCDEF") (Txt.item (Txt.slice (S l) (some ((p : Int) + 1)) (some ((p : Int) + 3))) 0) 0 (Str.ofString "0123456789abcdefABCDEF").length 1).isEmpty = false := by with_reducible assumption
      have hb : (Builtin.Str.occurrences (Str.ofString "0123456789abcdefABCDEF") (Txt.item (Txt.slice (S l) (some ((p : Int) + 1)) (some ((p : Int) + 3))) 1) 0 (Str.ofString "0123456789abcdefABCDEF").length 1).isEmpty = false := by with_reducible assumption
      have hlt' : p < l.length := by rw [lenS] at hlt; omega
      obtain ⟨a, b, r', e, hr, hne, hhx, h640⟩ := pair_ok (pair_slice l p) h2 ha hb
      have hc : l[p]? = some l[p] := by simp [hlt']
      obtain ⟨q1, q2⟩ := turn_pct hc (pct_eq (item_at hc) h37) hr hhx ho
      rw [e]
      k_steps
      refine whEnd (nx' := [(D, _)]) (a' := (_, p + 3)) (by k_asm) (by k_asm) (fun p hp => hp) ?_ ⟨rfl, ⟨_, rfl⟩, ⟨D, _, _, rfl, rfl, ints_push hv hhx⟩, q1, ?_, q2⟩
      · dsimp only; omega
      · dsimp only; rw [List.length_append, List.length_singleton]; omega
    · rename l[p]? = some _ => hc
      rename IntsAre _ (KBw.bInts _) => hv9
      have h2 : ((Txt.slice (S l) (some ((p : Int) + 1)) (some ((p : Int) + 3))).length : Int) ≠ 2 := by with_reducible assumption
      have hlt : p < l.length := (List.getElem?_eq_some_iff.mp hc).1
      have hu8 := utf8Of_len (l[p]'hlt)
      rw [(List.getElem?_eq_some_iff.mp hc).2] at hu8
      refine whEnd (nx' := [(D, _)]) (a' := (_, p + 1)) (by k_asm) (by k_asm) (fun p hp => hp) ?_ ⟨rfl, ⟨_, rfl⟩, ⟨D, _, _, rfl, rfl, ints_snocs hv hv9⟩, turn_one hc (cond2 (pair_slice l p) h2) ho, ?_, ?_⟩
      · dsimp only; omega
      · dsimp only; rw [List.length_append]; omega
      · dsimp only; omega
    · rename l[p]? = some _ => hc
      rename IntsAre _ (KBw.bInts _) => hv9
      have h37 : (Txt.item (S l) (p : Int) == Str.ofString "%") = false := by with_reducible assumption
      have hlt : p < l.length := (List.getElem?_eq_some_iff.mp hc).1
      have hu8 := utf8Of_len (l[p]'hlt)
      rw [(List.getElem?_eq_some_iff.mp hc).2] at hu8
      refine whEnd (nx' := [(D, _)]) (a' := (_, p + 1)) (by k_asm) (by k_asm) (fun p hp => hp) ?_ ⟨rfl, ⟨_, rfl⟩, ⟨D, _, _, rfl, rfl, ints_snocs hv hv9⟩, turn_one hc (cond3 (pct_eq (item_at hc) h37)) ho, ?_, ?_⟩
      · dsimp only; omega
      · dsimp only; rw [List.length_append]; omega
      · dsimp only; omega
    · walk_at "M end"
      have hlt : ¬ (p : Int) < ((S l).length : Int) := by with_reducible assumption
      have : p = l.length := by rw [lenS] at hlt; omega
      rw [this, List.drop_length] at ho
      simp only [octL, List.append_nil] at ho
      rw [ho]
      exact ⟨_, rfl⟩
end Mine
end BodyUnq
section BodyOct
open PySem PySem.W PyProof.Rows PySem.Calls
namespace Mine
local macro_rules | `(tactic| walk_at "M enter") => `(tactic| (
  unfold Con; k_fill
  intro mean mg mb dp un gd cn cs a ccd cl outer A₀ base h₀ L m s Q E B F X T hk hd hu htok hret
  first
  | ((k_dflt (refine' enterS (L := L) ?k1 ?k2 ?k3 ?k4 ?kA ?kF ?kK ?k6 ?k7 ?k8 ?k9 ?kB hret ?_ ?c2 ?c3 ?c4 ?c5; (case kA => exact rfl); (case kF => exact rfl); (case kK => assumption); (case k1 => k_asm); (case k2 => k_asm); (case k3 => k_asm); (case k4 => k_asm); (case k6 => k_is); (case k7 => k_is); (case k8 => ktr_room); (case k9 => first | exact BindsTo.of_eq rfl | (refine' binds_K ?x1 ?x2 ?x3 ?x4 ?x5 ?x6; (case x1 => exact Frag.In.keeps X F.keep); (case x2 => exact rfl); (case x3 => k_is); (case x4 => exact rfl); (case x5 => exact rfl); (case x6 => exact rfl))); (case c5 => decide); (case kB => exact locs rfl); (case c2 => exact rfl); (case c3 => exact rfl); (case c4 => exact rfl); k_whole)); clear hret B F X T; (try (have htok := htok rfl)); intro L' h' F' N' B' X' T'; (try dsimp only); (try k_fold))
  | ((k_dflt (refine' enterSC (L := L) ?k1 ?k2 ?k3 ?k4 ?kA ?kF ?kK ?k6 ?k7 ?k8 ?k9 ?kB ?kD hret ?_ ?c2 ?c3 ?c4; (case kA => exact rfl); (case kF => exact rfl); (case kK => assumption); (case k1 => k_asm); (case k2 => k_asm); (case k3 => k_asm); (case k4 => k_asm); (case k6 => k_is); (case k7 => k_is); (case k8 => ktr_room); (case k9 => first | exact BindsTo.of_eq rfl | (refine' binds_K ?x1 ?x2 ?x3 ?x4 ?x5 ?x6; (case x1 => exact Frag.In.keeps X F.keep); (case x2 => exact rfl); (case x3 => k_is); (case x4 => exact rfl); (case x5 => exact rfl); (case x6 => exact rfl))); (case kB => exact rfl); (case kD => decide +kernel); (case c2 => exact rfl); (case c3 => exact rfl); (case c4 => exact rfl); k_whole)); clear hret B F X T; (try (have htok := htok rfl)); intro L' h' tk' cells' htk' F' N' Y' B' X' T'; k_cells Y'; (try simp only [List.cons_append, List.nil_append, List.append_nil] at N'); (try dsimp only); (try k_fold))))
local macro_rules | `(tactic| walk_at "execs cons") => `(tactic| (k_here; (refine' execs_consP ?k1 ?_; (case k1 => first | assumption | (dsimp only; omega) | omega)); intro tk9 htk9; (try dsimp only)))
local macro_rules | `(tactic| walk_at "forall") => `(tactic| ((with_reducible show (0 < Shared.toks _) → _); intro htk9; (try dsimp only at htk9)))
local macro_rules | `(tactic| walk_at "call builtin:str.replace") => `(tactic| (k_here; (with_reducible show wpAny _ _ (call (Value.builtin "str.replace") [Value.str _ _, Value.str _ _, Value.str _ _]) _ _ _); (first | refine wpAny_with_toks (n := 1) (by first | assumption | (dsimp only; omega)) (replaceP 2000 5 (by decide) (by omega) (by omega) (by omega) (by decide +kernel) (by first | omega | assumption) (Nat.le_of_eq (by rfl)) ?_) | refine wpAny_with_toks (n := 1) (by first | assumption | (dsimp only; omega)) (replaceP 2000 3 (by decide) (by omega) (by omega) (by omega) (by decide +kernel) (by first | omega | assumption) (Nat.le_of_eq (by rfl)) ?_) | refine wpAny_with_toks (n := 1) (by first | assumption | (dsimp only; omega)) (replaceP 12005 4 (by decide) (by omega) (by omega) (by omega) (by decide +kernel) (by first | omega | assumption) (Nat.le_of_eq (by rfl)) ?_) | refine wpAny_with_toks (n := 1) (by first | assumption | (dsimp only; omega)) (replaceP 60029 4 (by decide) (by omega) (by omega) (by omega) (by decide +kernel) (by first | omega | assumption) (Nat.le_of_eq (by rfl)) ?_) | refine wpAny_with_toks (n := 1) (by first | assumption | (dsimp only; omega)) (replaceP 300149 6 (by decide) (by omega) (by omega) (by omega) (by decide +kernel) (by first | omega | assumption) (Nat.le_of_eq (by rfl)) ?_)); intro t9 k9 hl9; (simp only [Nat.reduceMul, Nat.reduceAdd] at hl9)))
local macro_rules | `(tactic| walk_at "M end") => `(tactic| ((try dsimp only); (try (k_unfold; dsimp only)); refine leaveP (by assumption) ?_))
local macro_rules | `(tactic| walk_at "call builtin:str.join") => `(tactic| (k_here; (with_reducible show wpAny _ _ (call (Value.builtin "str.join") [Value.str _ _, Value.ref _]) _ _ _); (refine join_listW (News.isList (by k_asm) (by k_mem)) (show StrsAre (List.toArray _).toList _ by assumption) (by decide) (by assumption) ?_); intro t9 k9))
local macro_rules | `(tactic| walk_at "exec While Compare cons nil") => `(tactic| (k_here; refine hold ?_))
local macro_rules | `(tactic| walk_at "getMethod str") => `(tactic| (k_here; with_reducible refine meth_enc ?_))
local macro_rules | `(tactic| walk_at "call builtin:str.encode") => `(tactic| (k_here; (refine call_enc (by assumption) ?_); intro t9 k9))
local macro_rules | `(tactic| walk_at "formatField int") => `(tactic| (k_here; (refine field_02X (by first | rfl | decide +kernel) (by first | assumption | omega) ?_); intro t9 k9))
local macro_rules | `(tactic| walk_at "CompEnd") => `(tactic| first | refine compEnd_el (by k_asm) (by k_asm) (by kcj_all) (by assumption) ?_ | exact compEnd_no (by k_asm) (by k_asm) (by kcj_all) (by assumption))
local macro_rules | `(tactic| walk_at "exec For Name Name cons nil") => `(tactic| (k_here; refine hold ?_))
local macro_rules | `(tactic| walk_at "M step") => `(tactic| first | (k_unfold; (try dsimp only)) | (k_end; wrow_close) | walk1 | (dsimp only; walk1) | (leave1; walk_say "STEP leave1"; try dsimp only))
local macro_rules | `(tactic| walk_at "call builtin:list.append") => `(tactic| (k_here; (with_reducible show wpAny _ _ (call (Value.builtin _) [Value.ref _, _]) _ _ _); k_dflt (refine' append_K ?k1 ?k2 ?k3 ?_ ?z; (case k1 => k_asm); (case k2 => k_asm); (case k3 => k_upd); (case z => (first | (rw [sizeLine_eq]; omega) | (show _ ≤ 16777216; omega))); k_whole); intro h' F' N'; (try k_sweep)))
local macro_rules | `(tactic| walk_at "binaryOp Add ref ref") => `(tactic| (k_here; (with_reducible show wpAny _ _ (binaryOp _ (Value.ref _) (Value.ref _)) _ _ _); k_dflt (refine' addK ?F ?N ?a ?b ?_ ?z; (case F => k_asm); (case N => k_asm); (case a => exact News.isList (by k_asm) (by k_mem)); (case b => exact News.isList (by k_asm) (by k_mem)); (case z => ((try simp only [List.size_toArray]); rw [sizeLine_eq]; omega))); intro D' h' F' N' l1; (try k_lt l1); (try k_sweep)))
local macro_rules | `(tactic| walk_at "getMethod bytes") => `(tactic| (k_here; with_reducible refine KBd.method ?_))
local macro_rules | `(tactic| walk_at "call builtin:str.encode") => `(tactic| (k_here; (refine call_encI (by with_reducible assumption) (by with_reducible assumption) ?_); intro c9 hc9 t9 k9))
local macro_rules | `(tactic| walk_at "call type:bytes") => `(tactic| (k_here; (refine call_bytesO (by k_asm) (by k_asm) (by k_mem) (by with_reducible assumption) (by omega) (by rfl) ?_); intro h9 t9 k9 F9 N9))
local macro_rules | `(tactic| walk_at "call builtin:bytes.decode") => `(tactic| (k_here; (refine call_decode (by omega) (by with_reducible assumption) (by k_asm) (by k_asm) ?_); intro h9 k9 t9 F9 N9))
local macro_rules | `(tactic| walk_at "call type:list") => `(tactic| (k_here; (refine call_listI (by rfl) (by k_asm) (by k_asm) ?_); intro D9 h9 k9 vs9 c9 F9 N9 hv9 hz9 l9; (try k_lt l9); (try k_sweep)))
local macro_rules | `(tactic| walk_at "eval ListComp") => `(tactic| (k_here; k_dflt (refine ListComp_ST (F₀ := by k_asm) (by with_unfolding_all rfl) (by decide) (by rfl) (by decide) (by rfl) ?_)))
local macro_rules | `(tactic| walk_at "call type:int") => `(tactic| (k_here; refine call_int16 (by with_reducible assumption) (by with_reducible assumption) (by with_reducible assumption) ?_))
local macro_rules | `(tactic| walk_at "compareOp Eq ref ref") => `(tactic| (k_here; refine eqNil (by k_asm) (List.mem_cons_of_mem _ List.mem_cons_self) List.mem_cons_self (by ktr_units) ?_))
theorem con_oct (w : World) (l : List Nat) (t : Tok) (hx : l.length ≤ 2000) (hg : ∀ c ∈ l, Str.isSurrogate c = false) : Con w false 3 20 132 [.str (S l) t] [] (fun v => ∃ tk, v = .str (S (decS (octL l))) tk) := by
  w_top off
  have hxS := lenS l
  walk_at "M enter"
  k_steps
  unfold Hold
  rename News _ _ _ _ => N0
  refine while_inv (σ := List UInt8 × Nat) (nx := [(_, W.listOf #[] 0)]) (fun a => l.length - a.2) (fun a m nx => m (Str.ofString "text") = some (.str (S l) t) ∧ (∃ t2, m (Str.ofString "at") = some (.int a.2 t2)) ∧ (∃ (D : Addr) (vs : Array Value) (n : Nat), m (Str.ofString "octets") = some (.ref D) ∧ nx = [(D, W.listOf vs n)] ∧ IntsAre vs.toList (natI a.1)) ∧ a.1 ++ octL (l.drop a.2) = octL l ∧ a.1.length ≤ 4 * a.2 ∧ a.2 ≤ l.length) ([], 0) (by k_asm) (fun p hp => N0 p (List.mem_cons_of_mem _ hp)) (by first | assumption | (dsimp only; omega)) ?_ ?_
  · exact ⟨rfl, ⟨_, rfl⟩, ⟨_, _, _, rfl, rfl, .nil⟩, rfl, Nat.zero_le _, Nat.zero_le _⟩
  · rintro ⟨o, p⟩ m nx h tk htk ⟨e1, ⟨t2, e2⟩, ⟨D, vs, n, e3, rfl, hv⟩, ho, hol, hp⟩ F N
    dsimp only at *
    replace F := fr_known3 F e1 e2 e3
    have hvs : vs.size = o.length := by have := hv.length; simpa [natI] using this
    have hds : (decS o).length ≤ 16777216 := by have := decS_len o; omega
    k_steps
    · have h2 : ((Txt.slice (S l) (some ((p : Int) + 1)) (some ((p : Int) + 3))).length : Int) = 2 := by with_reducible assumption
      refine ⟨_, _, _, src_str _ _, by rfl, by k_asm, by k_asm, by (rw [sizeLine_eq]; show PySem.Str.length _ ≤ _; omega), fun s₂ hs₂ => ?_⟩
      obtain ⟨g, rfl⟩ := hs₂
      refine comp_turnsT (b := fun i => ((Txt.slice (S l) (some ((p : Int) + 1)) (some ((p : Int) + 3))).cps[i]?).any fun c => !hexd c) (R := fun i y => True) (fun i v I oI C oC D m₂ ys h tk E' hi hv hC hx F N off ne => ?_) ?_
      · obtain ⟨c, u, hc, rfl⟩ := hv
        have off0 := off
        simp only [LCg.Off3, and_true] at off
        dsimp only
        k_steps
        · rw [hc, Option.any_some, hex_occ (c := c) (b := _) rfl rfl]
        · trivial
      · intro ys hy
        k_steps
        · have hb : (ys.toArray.size == 0) = true := by with_reducible assumption
          rw [List.size_toArray] at hb
          have h37 : (Txt.item (S l) (p : Int) == Str.ofString "%") = true := by with_reducible assumption
          have hlt : (p : Int) < ((S l).length : Int) := by with_reducible assumption
          have hlt' : p < l.length := by rw [lenS] at hlt; omega
          have hc : l[p]? = some l[p] := by simp [hlt']
          obtain ⟨a, b, r', e, hr, hab⟩ := pair_hex (pair_slice l p) h2 hy hb
          rw [Bool.and_eq_true] at hab
          have hhx : ∀ c ∈ [a, b], hexd c = true := by simp [hab.1, hab.2]
          have hne : [a, b] ≠ [] := by simp
          have h640 : [a, b].length ≤ 640 := by simp
          obtain ⟨q1, q2⟩ := turn_pct hc (pct_eq (item_at hc) h37) hr hhx ho
          rw [e]
          k_steps
          refine whEnd (nx' := [(D, _)]) (a' := (_, p + 3)) (by k_asm) (by k_asm) (by kcj_all) ?_ ⟨rfl, ⟨_, rfl⟩, ⟨D, _, _, rfl, rfl, ints_push hv hhx⟩, q1, ?_, q2⟩
          · dsimp only; omega
          · dsimp only; rw [List.length_append, List.length_singleton]; omega
        · have hb : (ys.toArray.size == 0) = false := by with_reducible assumption
          rw [List.size_toArray] at hb
          rename l[p]? = some _ => hc
          rename IntsAre _ (natI (Str.utf8Of _)) => hv9
          have hlt : p < l.length := (List.getElem?_eq_some_iff.mp hc).1
          have hu8 := utf8Of_len (l[p]'hlt)
          rw [(List.getElem?_eq_some_iff.mp hc).2] at hu8
          refine whEnd (nx' := [(_, _)]) (a' := (_, p + 1)) (by k_asm) (by k_asm) (fun p hp => by rw [List.mem_singleton.mp hp]; exact List.mem_cons_self) ?_ ⟨rfl, ⟨_, rfl⟩, ⟨_, _, _, rfl, rfl, ints_cat hv hv9⟩, turn_one hc (cond4 (pair_slice l p) h2 hy hb) ho, ?_, ?_⟩
          · dsimp only; omega
          · dsimp only; rw [List.length_append]; omega
          · dsimp only; omega
    · have h2 : ((Txt.slice (S l) (some ((p : Int) + 1)) (some ((p : Int) + 3))).length : Int) ≠ 2 := by with_reducible assumption
      rename l[p]? = some _ => hc
      rename IntsAre _ (natI (Str.utf8Of _)) => hv9
      have hlt : p < l.length := (List.getElem?_eq_some_iff.mp hc).1
      have hu8 := utf8Of_len (l[p]'hlt)
      rw [(List.getElem?_eq_some_iff.mp hc).2] at hu8
      refine whEnd (nx' := [(_, _)]) (a' := (_, p + 1)) (by k_asm) (by k_asm) (fun p hp => by rw [List.mem_singleton.mp hp]; exact List.mem_cons_self) ?_ ⟨rfl, ⟨_, rfl⟩, ⟨_, _, _, rfl, rfl, ints_cat hv hv9⟩, turn_one hc (cond2 (pair_slice l p) h2) ho, ?_, ?_⟩
      · dsimp only; omega
      · dsimp only; rw [List.length_append]; omega
      · dsimp only; omega
    · have h37 : (Txt.item (S l) (p : Int) == Str.ofString "%") = false := by with_reducible assumption
      rename l[p]? = some _ => hc
      rename IntsAre _ (natI (Str.utf8Of _)) => hv9
      have hlt : p < l.length := (List.getElem?_eq_some_iff.mp hc).1
      have hu8 := utf8Of_len (l[p]'hlt)
      rw [(List.getElem?_eq_some_iff.mp hc).2] at hu8
      refine whEnd (nx' := [(_, _)]) (a' := (_, p + 1)) (by k_asm) (by k_asm) (fun p hp => by rw [List.mem_singleton.mp hp]; exact List.mem_cons_self) ?_ ⟨rfl, ⟨_, rfl⟩, ⟨_, _, _, rfl, rfl, ints_cat hv hv9⟩, turn_one hc (cond3 (pct_eq (item_at hc) h37)) ho, ?_, ?_⟩
      · dsimp only; omega
      · dsimp only; rw [List.length_append]; omega
      · dsimp only; omega
    · walk_at "M end"
      have hlt : ¬ (p : Int) < ((S l).length : Int) := by with_reducible assumption
      have : p = l.length := by rw [lenS] at hlt; omega
      rw [this, List.drop_length] at ho
      simp only [octL, List.append_nil] at ho
      rw [ho]
      exact ⟨_, rfl⟩
end Mine
end BodyOct
section BodySgn
open PySem PySem.W PyProof.Rows PySem.Calls
namespace Mine
local macro_rules | `(tactic| walk_at "M enter") => `(tactic| (
  unfold Con; k_fill
  intro mean mg mb dp un gd cn cs a ccd cl outer A₀ base h₀ L m s Q E B F X T hk hd hu htok hret
  first
  | ((k_dflt (refine' enterS (L := L) ?k1 ?k2 ?k3 ?k4 ?kA ?kF ?kK ?k6 ?k7 ?k8 ?k9 ?kB hret ?_ ?c2 ?c3 ?c4 ?c5; (case kA => exact rfl); (case kF => exact rfl); (case kK => assumption); (case k1 => k_asm); (case k2 => k_asm); (case k3 => k_asm); (case k4 => k_asm); (case k6 => k_is); (case k7 => k_is); (case k8 => ktr_room); (case k9 => first | exact BindsTo.of_eq rfl | (refine' binds_K ?x1 ?x2 ?x3 ?x4 ?x5 ?x6; (case x1 => exact Frag.In.keeps X F.keep); (case x2 => exact rfl); (case x3 => k_is); (case x4 => exact rfl); (case x5 => exact rfl); (case x6 => exact rfl))); (case c5 => decide); (case kB => exact locs rfl); (case c2 => exact rfl); (case c3 => exact rfl); (case c4 => exact rfl); k_whole)); clear hret B F X T; (try (have htok := htok rfl)); intro L' h' F' N' B' X' T'; (try dsimp only); (try k_fold))
  | ((k_dflt (refine' enterSC (L := L) ?k1 ?k2 ?k3 ?k4 ?kA ?kF ?kK ?k6 ?k7 ?k8 ?k9 ?kB ?kD hret ?_ ?c2 ?c3 ?c4; (case kA => exact rfl); (case kF => exact rfl); (case kK => assumption); (case k1 => k_asm); (case k2 => k_asm); (case k3 => k_asm); (case k4 => k_asm); (case k6 => k_is); (case k7 => k_is); (case k8 => ktr_room); (case k9 => first | exact BindsTo.of_eq rfl | (refine' binds_K ?x1 ?x2 ?x3 ?x4 ?x5 ?x6; (case x1 => exact Frag.In.keeps X F.keep); (case x2 => exact rfl); (case x3 => k_is); (case x4 => exact rfl); (case x5 => exact rfl); (case x6 => exact rfl))); (case kB => exact rfl); (case kD => decide +kernel); (case c2 => exact rfl); (case c3 => exact rfl); (case c4 => exact rfl); k_whole)); clear hret B F X T; (try (have htok := htok rfl)); intro L' h' tk' cells' htk' F' N' Y' B' X' T'; k_cells Y'; (try simp only [List.cons_append, List.nil_append, List.append_nil] at N'); (try dsimp only); (try k_fold))))
local macro_rules | `(tactic| walk_at "execs cons") => `(tactic| (k_here; (refine' execs_consP ?k1 ?_; (case k1 => first | assumption | (dsimp only; omega) | omega)); intro tk9 htk9; (try dsimp only)))
local macro_rules | `(tactic| walk_at "forall") => `(tactic| ((with_reducible show (0 < Shared.toks _) → _); intro htk9; (try dsimp only at htk9)))
local macro_rules | `(tactic| walk_at "call builtin:str.replace") => `(tactic| (k_here; (with_reducible show wpAny _ _ (call (Value.builtin "str.replace") [Value.str _ _, Value.str _ _, Value.str _ _]) _ _ _); (first | refine wpAny_with_toks (n := 1) (by first | assumption | (dsimp only; omega)) (replaceP 2000 5 (by decide) (by omega) (by omega) (by omega) (by decide +kernel) (by first | omega | assumption) (Nat.le_of_eq (by rfl)) ?_) | refine wpAny_with_toks (n := 1) (by first | assumption | (dsimp only; omega)) (replaceP 2000 3 (by decide) (by omega) (by omega) (by omega) (by decide +kernel) (by first | omega | assumption) (Nat.le_of_eq (by rfl)) ?_) | refine wpAny_with_toks (n := 1) (by first | assumption | (dsimp only; omega)) (replaceP 12005 4 (by decide) (by omega) (by omega) (by omega) (by decide +kernel) (by first | omega | assumption) (Nat.le_of_eq (by rfl)) ?_) | refine wpAny_with_toks (n := 1) (by first | assumption | (dsimp only; omega)) (replaceP 60029 4 (by decide) (by omega) (by omega) (by omega) (by decide +kernel) (by first | omega | assumption) (Nat.le_of_eq (by rfl)) ?_) | refine wpAny_with_toks (n := 1) (by first | assumption | (dsimp only; omega)) (replaceP 300149 6 (by decide) (by omega) (by omega) (by omega) (by decide +kernel) (by first | omega | assumption) (Nat.le_of_eq (by rfl)) ?_)); intro t9 k9 hl9; (simp only [Nat.reduceMul, Nat.reduceAdd] at hl9)))
local macro_rules | `(tactic| walk_at "M end") => `(tactic| ((try dsimp only); (try (k_unfold; dsimp only)); refine leaveP (by assumption) ?_))
local macro_rules | `(tactic| walk_at "call builtin:str.join") => `(tactic| (k_here; (with_reducible show wpAny _ _ (call (Value.builtin "str.join") [Value.str _ _, Value.ref _]) _ _ _); (refine join_listW (News.isList (by k_asm) (by k_mem)) (show StrsAre (List.toArray _).toList _ by assumption) (by decide) (by assumption) ?_); intro t9 k9))
local macro_rules | `(tactic| walk_at "exec While Compare cons nil") => `(tactic| (k_here; refine hold ?_))
local macro_rules | `(tactic| walk_at "getMethod str") => `(tactic| (k_here; with_reducible refine meth_enc ?_))
local macro_rules | `(tactic| walk_at "call builtin:str.encode") => `(tactic| (k_here; (refine call_enc (by assumption) ?_); intro t9 k9))
local macro_rules | `(tactic| walk_at "formatField int") => `(tactic| (k_here; (refine field_02X (by first | rfl | decide +kernel) (by first | assumption | omega) ?_); intro t9 k9))
local macro_rules | `(tactic| walk_at "CompEnd") => `(tactic| first | refine compEnd_el (by k_asm) (by k_asm) (by kcj_all) (by assumption) ?_ | exact compEnd_no (by k_asm) (by k_asm) (by kcj_all) (by assumption))
local macro_rules | `(tactic| walk_at "exec For Name Name cons nil") => `(tactic| (k_here; refine hold ?_))
local macro_rules | `(tactic| walk_at "M step") => `(tactic| first | (k_unfold; (try dsimp only)) | (k_end; wrow_close) | walk1 | (dsimp only; walk1) | (leave1; walk_say "STEP leave1"; try dsimp only))
local macro_rules | `(tactic| walk_at "call builtin:list.append") => `(tactic| (k_here; (with_reducible show wpAny _ _ (call (Value.builtin _) [Value.ref _, _]) _ _ _); k_dflt (refine' append_K ?k1 ?k2 ?k3 ?_ ?z; (case k1 => k_asm); (case k2 => k_asm); (case k3 => k_upd); (case z => (first | (rw [sizeLine_eq]; omega) | (show _ ≤ 16777216; omega))); k_whole); intro h' F' N'; (try k_sweep)))
local macro_rules | `(tactic| walk_at "binaryOp Add ref ref") => `(tactic| (k_here; (with_reducible show wpAny _ _ (binaryOp _ (Value.ref _) (Value.ref _)) _ _ _); k_dflt (refine' addK ?F ?N ?a ?b ?_ ?z; (case F => k_asm); (case N => k_asm); (case a => exact News.isList (by k_asm) (by k_mem)); (case b => exact News.isList (by k_asm) (by k_mem)); (case z => ((try simp only [List.size_toArray]); rw [sizeLine_eq]; omega))); intro D' h' F' N' l1; (try k_lt l1); (try k_sweep)))
local macro_rules | `(tactic| walk_at "M pad0") => `(tactic| skip)
local macro_rules | `(tactic| walk_at "eval ListComp") => `(tactic| (k_here; k_dflt (refine ListComp_ST (F₀ := by k_asm) (by with_unfolding_all rfl) (by decide) (by rfl) (by decide) (by rfl) ?_)))
local macro_rules | `(tactic| walk_at "compareOp NotEq ref ref") => `(tactic| (k_here; refine neNil (by k_asm) (List.mem_cons_of_mem _ List.mem_cons_self) List.mem_cons_self (by ktr_units) ?_))
local macro_rules | `(tactic| walk_at "call type:int") => `(tactic| (k_here; first | refine call_int16 (by with_reducible assumption) (by with_reducible assumption) (by with_reducible assumption) ?_ | refine call_int10 (by with_reducible assumption) (by with_reducible assumption) (by with_reducible assumption) ?_))
theorem con_sgn (w : World) (l : List Nat) (t : Tok) (hx : l.length ≤ 640) : Con w true 2 20 115 [.str (S l) t] [] (fun v => OptS (signL l) v) := by
  w_top off
  have hxS := lenS l
  walk_at "M enter"
  k_steps
  · have hno : (Txt.slice (S l) none (some 1) != Str.ofString "#") = true := by with_reducible assumption
    walk_at "M end"
    unfold OptS
    rename PyProof.V.Flat _ _ => hF
    dsimp only at hF
    rw [look_named] at hF
    rw [sgn_no hno]
    cases hnm : namedL l with
    | none => rw [hnm] at hF; exact hF.none_inv
    | some c => rw [hnm] at hF; exact flat_inv hF rfl
  · obtain ⟨x, f, hl, hsl, hs⟩ := sgn_16 (by with_reducible assumption) (by with_reducible assumption)
    have hq : (Txt.slice (S l) (some 2) none == Str.ofString "") = true := by with_reducible assumption
    walk_at "M end"
    unfold OptS
    rw [hs, numL_empty (empty_eq hsl hq)]
  · obtain ⟨x, f, hl, hsl, hs⟩ := sgn_16 (by with_reducible assumption) (by with_reducible assumption)
    have hfl : f.length ≤ 640 := by rw [hl] at hx; simp at hx; omega
    refine ⟨_, _, _, src_str _ _, by rfl, by k_asm, by k_asm, by (rw [sizeLine_eq]; show PySem.Str.length _ ≤ _; rw [hsl, lenS]; omega), fun s₂ hs₂ => ?_⟩
    obtain ⟨g, rfl⟩ := hs₂
    refine comp_turnsT (b := fun i => ((Txt.slice (S l) (some 2) none).cps[i]?).any fun c => !hexd c) (R := fun i y => True) (fun i v I oI C oC D m₂ ys h tk E' hi hv hC hx F N off ne => ?_) ?_
    · obtain ⟨c, u, hc, rfl⟩ := hv
      have off0 := off
      simp only [LCg.Off3, and_true] at off
      dsimp only
      k_steps
      · rw [hc, Option.any_some, hex_occ (c := c) (b := _) rfl rfl]
      · trivial
    · intro ys hy
      k_steps
      · have hb : (ys.toArray.size == 0) = true := by with_reducible assumption
        have hq : (Txt.slice (S l) (some 2) none == Str.ofString "") = false := by with_reducible assumption
        have hem := empty_eq hsl hq
        have hall := none_left hsl hy hb
        have hne : f ≠ [] := by intro e; rw [e] at hem; cases hem
        have hok : ∀ c ∈ f, hexd c = true := List.all_eq_true.mp hall
        have hrd := numL_read (b := 16) (most := 1000000) hem hall (by omega)
        rw [hsl]
        k_steps
        all_goals (walk_at "M end"; unfold OptS)
        all_goals rw [hs, hrd]
        all_goals first
          | (rw [if_pos (ok_small (by with_reducible assumption) (by with_reducible assumption))]; exact ⟨_, rfl⟩)
          | (rw [if_pos (ok_mid (by with_reducible assumption) (by with_reducible assumption) (by with_reducible assumption))]; exact ⟨_, rfl⟩)
          | (rw [if_neg (by rw [no_small (by with_reducible assumption) (by with_reducible assumption) (by omega)]; decide)])
          | (rw [if_pos (ok_low (by with_reducible assumption) (by omega) (by omega))]; exact ⟨_, rfl⟩)
          | (rw [if_pos (ok_big (by with_reducible assumption) (by omega) (by omega) (by omega) (by with_reducible assumption))]; exact ⟨_, rfl⟩)
          | (rw [if_neg (by rw [no_big (by with_reducible assumption) (by omega)]; decide)])
      · have hb : (ys.toArray.size == 0) = false := by with_reducible assumption
        walk_at "M end"
        unfold OptS
        rw [hs, numL_other (none_left hsl hy hb)]
  · obtain ⟨f, hl, hsl, hs⟩ := sgn_10 (by with_reducible assumption) (by with_reducible assumption)
    have hq : (Txt.slice (S l) (some 1) none == Str.ofString "") = true := by with_reducible assumption
    walk_at "M end"
    unfold OptS
    rw [hs, numL_empty (empty_eq hsl hq)]
  · obtain ⟨f, hl, hsl, hs⟩ := sgn_10 (by with_reducible assumption) (by with_reducible assumption)
    have hfl : f.length ≤ 640 := by rw [hl] at hx; simp at hx; omega
    refine ⟨_, _, _, src_str _ _, by rfl, by k_asm, by k_asm, by (rw [sizeLine_eq]; show PySem.Str.length _ ≤ _; rw [hsl, lenS]; omega), fun s₂ hs₂ => ?_⟩
    obtain ⟨g, rfl⟩ := hs₂
    refine comp_turnsT (b := fun i => ((Txt.slice (S l) (some 1) none).cps[i]?).any fun c => !digd c) (R := fun i y => True) (fun i v I oI C oC D m₂ ys h tk E' hi hv hC hx F N off ne => ?_) ?_
    · obtain ⟨c, u, hc, rfl⟩ := hv
      have off0 := off
      simp only [LCg.Off3, and_true] at off
      dsimp only
      k_steps
      · rw [hc, Option.any_some, dig_occ (c := c) (b := _) rfl rfl]
      · trivial
    · intro ys hy
      k_steps
      · have hlong : 7 < ((Txt.slice (S l) (some 1) none).length : Int) := by with_reducible assumption
        rw [hsl, lenS] at hlong
        walk_at "M end"
        unfold OptS
        rw [hs, numL_long (by omega)]
      · have hb : (ys.toArray.size == 0) = true := by with_reducible assumption
        have hq : (Txt.slice (S l) (some 1) none == Str.ofString "") = false := by with_reducible assumption
        have hshort : ¬ 7 < ((Txt.slice (S l) (some 1) none).length : Int) := by with_reducible assumption
        rw [hsl, lenS] at hshort
        have hem := empty_eq hsl hq
        have hall := none_left hsl hy hb
        have hne : f ≠ [] := by intro e; rw [e] at hem; cases hem
        have hok : ∀ c ∈ f, digd c = true := List.all_eq_true.mp hall
        have hrd := numL_read (b := 10) (most := 7) hem hall (by omega)
        rw [hsl]
        k_steps
        all_goals (walk_at "M end"; unfold OptS)
        all_goals rw [hs, hrd]
        all_goals first
          | (rw [if_pos (ok_small (by with_reducible assumption) (by with_reducible assumption))]; exact ⟨_, rfl⟩)
          | (rw [if_pos (ok_mid (by with_reducible assumption) (by with_reducible assumption) (by with_reducible assumption))]; exact ⟨_, rfl⟩)
          | (rw [if_neg (by rw [no_small (by with_reducible assumption) (by with_reducible assumption) (by omega)]; decide)])
          | (rw [if_pos (ok_low (by with_reducible assumption) (by omega) (by omega))]; exact ⟨_, rfl⟩)
          | (rw [if_pos (ok_big (by with_reducible assumption) (by omega) (by omega) (by omega) (by with_reducible assumption))]; exact ⟨_, rfl⟩)
          | (rw [if_neg (by rw [no_big (by with_reducible assumption) (by omega)]; decide)])
      · have hb : (ys.toArray.size == 0) = false := by with_reducible assumption
        walk_at "M end"
        unfold OptS
        rw [hs, numL_other (none_left hsl hy hb)]
end Mine
end BodySgn
section BodyRead
open PySem PySem.W PyProof.Rows PySem.Calls
namespace Mine
local macro_rules | `(tactic| walk_at "M enter") => `(tactic| (
  unfold Con; k_fill
  intro mean mg mb dp un gd cn cs a ccd cl outer A₀ base h₀ L m s Q E B F X T hk hd hu htok hret
  first
  | ((k_dflt (refine' enterS (L := L) ?k1 ?k2 ?k3 ?k4 ?kA ?kF ?kK ?k6 ?k7 ?k8 ?k9 ?kB hret ?_ ?c2 ?c3 ?c4 ?c5; (case kA => exact rfl); (case kF => exact rfl); (case kK => assumption); (case k1 => k_asm); (case k2 => k_asm); (case k3 => k_asm); (case k4 => k_asm); (case k6 => k_is); (case k7 => k_is); (case k8 => ktr_room); (case k9 => first | exact BindsTo.of_eq rfl | (refine' binds_K ?x1 ?x2 ?x3 ?x4 ?x5 ?x6; (case x1 => exact Frag.In.keeps X F.keep); (case x2 => exact rfl); (case x3 => k_is); (case x4 => exact rfl); (case x5 => exact rfl); (case x6 => exact rfl))); (case c5 => decide); (case kB => exact locs rfl); (case c2 => exact rfl); (case c3 => exact rfl); (case c4 => exact rfl); k_whole)); clear hret B F X T; (try (have htok := htok rfl)); intro L' h' F' N' B' X' T'; (try dsimp only); (try k_fold))
  | ((k_dflt (refine' enterSC (L := L) ?k1 ?k2 ?k3 ?k4 ?kA ?kF ?kK ?k6 ?k7 ?k8 ?k9 ?kB ?kD hret ?_ ?c2 ?c3 ?c4; (case kA => exact rfl); (case kF => exact rfl); (case kK => assumption); (case k1 => k_asm); (case k2 => k_asm); (case k3 => k_asm); (case k4 => k_asm); (case k6 => k_is); (case k7 => k_is); (case k8 => ktr_room); (case k9 => first | exact BindsTo.of_eq rfl | (refine' binds_K ?x1 ?x2 ?x3 ?x4 ?x5 ?x6; (case x1 => exact Frag.In.keeps X F.keep); (case x2 => exact rfl); (case x3 => k_is); (case x4 => exact rfl); (case x5 => exact rfl); (case x6 => exact rfl))); (case kB => exact rfl); (case kD => decide +kernel); (case c2 => exact rfl); (case c3 => exact rfl); (case c4 => exact rfl); k_whole)); clear hret B F X T; (try (have htok := htok rfl)); intro L' h' tk' cells' htk' F' N' Y' B' X' T'; k_cells Y'; (try simp only [List.cons_append, List.nil_append, List.append_nil] at N'); (try dsimp only); (try k_fold))))
local macro_rules | `(tactic| walk_at "execs cons") => `(tactic| (k_here; (refine' execs_consP ?k1 ?_; (case k1 => first | assumption | (dsimp only; omega) | omega)); intro tk9 htk9; (try dsimp only)))
local macro_rules | `(tactic| walk_at "forall") => `(tactic| ((with_reducible show (0 < Shared.toks _) → _); intro htk9; (try dsimp only at htk9)))
local macro_rules | `(tactic| walk_at "call builtin:str.replace") => `(tactic| (k_here; (with_reducible show wpAny _ _ (call (Value.builtin "str.replace") [Value.str _ _, Value.str _ _, Value.str _ _]) _ _ _); (first | refine wpAny_with_toks (n := 1) (by first | assumption | (dsimp only; omega)) (replaceP 2000 5 (by decide) (by omega) (by omega) (by omega) (by decide +kernel) (by first | omega | assumption) (Nat.le_of_eq (by rfl)) ?_) | refine wpAny_with_toks (n := 1) (by first | assumption | (dsimp only; omega)) (replaceP 2000 3 (by decide) (by omega) (by omega) (by omega) (by decide +kernel) (by first | omega | assumption) (Nat.le_of_eq (by rfl)) ?_) | refine wpAny_with_toks (n := 1) (by first | assumption | (dsimp only; omega)) (replaceP 12005 4 (by decide) (by omega) (by omega) (by omega) (by decide +kernel) (by first | omega | assumption) (Nat.le_of_eq (by rfl)) ?_) | refine wpAny_with_toks (n := 1) (by first | assumption | (dsimp only; omega)) (replaceP 60029 4 (by decide) (by omega) (by omega) (by omega) (by decide +kernel) (by first | omega | assumption) (Nat.le_of_eq (by rfl)) ?_) | refine wpAny_with_toks (n := 1) (by first | assumption | (dsimp only; omega)) (replaceP 300149 6 (by decide) (by omega) (by omega) (by omega) (by decide +kernel) (by first | omega | assumption) (Nat.le_of_eq (by rfl)) ?_)); intro t9 k9 hl9; (simp only [Nat.reduceMul, Nat.reduceAdd] at hl9)))
local macro_rules | `(tactic| walk_at "M end") => `(tactic| ((try dsimp only); (try (k_unfold; dsimp only)); refine leaveP (by assumption) ?_))
local macro_rules | `(tactic| walk_at "call builtin:str.join") => `(tactic| (k_here; (with_reducible show wpAny _ _ (call (Value.builtin "str.join") [Value.str _ _, Value.ref _]) _ _ _); (refine join_listW (News.isList (by k_asm) (by k_mem)) (show StrsAre (List.toArray _).toList _ by assumption) (by decide) (by assumption) ?_); intro t9 k9))
local macro_rules | `(tactic| walk_at "exec While Compare cons nil") => `(tactic| (k_here; refine hold ?_))
local macro_rules | `(tactic| walk_at "getMethod str") => `(tactic| (k_here; with_reducible refine meth_enc ?_))
local macro_rules | `(tactic| walk_at "call builtin:str.encode") => `(tactic| (k_here; (refine call_enc (by assumption) ?_); intro t9 k9))
local macro_rules | `(tactic| walk_at "formatField int") => `(tactic| (k_here; (refine field_02X (by first | rfl | decide +kernel) (by first | assumption | omega) ?_); intro t9 k9))
local macro_rules | `(tactic| walk_at "CompEnd") => `(tactic| first | refine compEnd_el (by k_asm) (by k_asm) (by kcj_all) (by assumption) ?_ | exact compEnd_no (by k_asm) (by k_asm) (by kcj_all) (by assumption))
local macro_rules | `(tactic| walk_at "exec For Name Name cons nil") => `(tactic| (k_here; refine hold ?_))
local macro_rules | `(tactic| walk_at "M step") => `(tactic| first | (k_unfold; (try dsimp only)) | (k_end; wrow_close) | walk1 | (dsimp only; walk1) | (leave1; walk_say "STEP leave1"; try dsimp only))
local macro_rules | `(tactic| walk_at "call builtin:list.append") => `(tactic| (k_here; (with_reducible show wpAny _ _ (call (Value.builtin _) [Value.ref _, _]) _ _ _); k_dflt (refine' append_K ?k1 ?k2 ?k3 ?_ ?z; (case k1 => k_asm); (case k2 => k_asm); (case k3 => k_upd); (case z => (first | (rw [sizeLine_eq]; omega) | (show _ ≤ 16777216; omega))); k_whole); intro h' F' N'; (try k_sweep)))
local macro_rules | `(tactic| walk_at "binaryOp Add ref ref") => `(tactic| (k_here; (with_reducible show wpAny _ _ (binaryOp _ (Value.ref _) (Value.ref _)) _ _ _); k_dflt (refine' addK ?F ?N ?a ?b ?_ ?z; (case F => k_asm); (case N => k_asm); (case a => exact News.isList (by k_asm) (by k_mem)); (case b => exact News.isList (by k_asm) (by k_mem)); (case z => ((try simp only [List.size_toArray]); rw [sizeLine_eq]; omega))); intro D' h' F' N' l1; (try k_lt l1); (try k_sweep)))
local macro_rules | `(tactic| walk_at "M pad0") => `(tactic| skip)
local macro_rules | `(tactic| walk_at "M pad1") => `(tactic| skip)
local macro_rules | `(tactic| walk_at "M pad2") => `(tactic| skip)
local macro_rules | `(tactic| walk_at "M pad3") => `(tactic| skip)
local macro_rules | `(tactic| walk_at "call ref") => `(tactic| (k_here; (with_reducible show wpAny _ _ (call (Value.ref 115) [Value.str (S _) _] _) _ _ _); k_dflt (refine' con_use (con_sgn _ _ _ ?kl) ?k1 ?k2 ?k3 ?k4 ?k5 ?kK ?kd ?ku ?kt ?_; (case kl => first | with_reducible assumption | decide); (case k1 => k_asm); (case k2 => k_asm); (case k3 => k_asm); (case k4 => k_asm); (case k5 => k_asm); (case kK => first | exact rfl | assumption); (case kd => ktr_room); (case ku => ktr_units); (case kt => first | (intro _; assumption) | (intro _; dsimp only; omega)); k_whole); intro v9 h9 tk9 hv9 F9 N9 htk9; (try dsimp only); refine hold ?_))
theorem con_read (w : World) (l : List Nat) (t : Tok) (hx : l.length ≤ 640) : Con w true 4 40 122 [.str (S l) t] [] (fun v => ∃ tk, v = .str (S (readL l)) tk) := by
  w_top off
  have hxS := lenS l
  walk_at "M enter"
  k_steps
  unfold Hold
  rename News _ _ _ _ => N0
  refine while_inv (σ := List Nat × Nat) (nx := []) (fun a => l.length - a.2) (fun a m nx => nx = [] ∧ m (Str.ofString "text") = some (.str (S l) t) ∧ (∃ t1, m (Str.ofString "out") = some (.str (S a.1) t1)) ∧ (∃ t2, m (Str.ofString "at") = some (.int a.2 t2)) ∧ a.2 ≤ l.length ∧ a.1.length ≤ a.2 ∧ a.1 ++ readL (l.drop a.2) = readL l) ([], 0) (by k_asm) (fun p hp => nomatch hp) (by first | assumption | (dsimp only; omega)) ?_ ?_
  · exact ⟨rfl, rfl, ⟨_, rfl⟩, ⟨_, rfl⟩, Nat.zero_le _, Nat.zero_le _, rfl⟩
  · rintro ⟨o, p⟩ m nx h tk htk ⟨rfl, e1, ⟨t1, e2⟩, ⟨t2, e3⟩, hp, hop, ho⟩ F N
    dsimp only at *
    have hoS := lenS o
    replace F := fr_known3 F e1 e2 e3
    clear e1 e2 e3
    k_steps
    · have hlt : (p : Int) < ((S l).length : Int) := by with_reducible assumption
      have hpl : p < l.length := by rw [lenS] at hlt; omega
      obtain ⟨c, hc, _⟩ := drop_cons hpl
      have h38 := amp_eq (item_at hc) (by with_reducible assumption)
      obtain rfl : c = 38 := by simpa using h38
      obtain ⟨k, e, hk, hkl, hsl⟩ := find_some hc (by with_reducible assumption)
      have hnl : (nameAt (l.drop p)).length ≤ 640 := by omega
      rw [e, hsl]
      walk_at "call ref"
      rename OptS _ _ => hv9
      unfold OptS at hv9
      cases hsg : signL (nameAt (l.drop p)) with
      | none =>
        simp only [hsg] at hv9
        subst hv9
        unfold Hold
        k_steps
        refine whEnd (nx' := []) (a' := (_, p + 1)) (by k_asm) (by k_asm) (fun p hp => nomatch hp) ?_ ⟨rfl, rfl, ⟨_, strEq ?_⟩, ⟨_, rfl⟩, ?_, ?_, read_none hc hsg ho⟩
        · dsimp only; omega
        · rw [item_at hc]; exact S_append _ _
        · dsimp only; omega
        · dsimp only; rw [List.length_append, List.length_singleton]; omega
      | some d =>
        simp only [hsg] at hv9
        obtain ⟨tk8, rfl⟩ := hv9
        unfold Hold
        k_steps
        refine whEnd (nx' := []) (a' := (_, k + 1)) (by k_asm) (by k_asm) (fun p hp => nomatch hp) ?_ ⟨rfl, rfl, ⟨_, strEq ?_⟩, ⟨_, intEq ?_⟩, ?_, ?_, read_some hpl hsg hk ho⟩
        · dsimp only; omega
        · exact S_append _ _
        · rw [e]; dsimp only; omega
        · dsimp only; omega
        · dsimp only; rw [List.length_append, List.length_singleton]; omega
    · have hlt : (p : Int) < ((S l).length : Int) := by with_reducible assumption
      have hpl : p < l.length := by rw [lenS] at hlt; omega
      obtain ⟨c, hc, _⟩ := drop_cons hpl
      have h38 := amp_eq (item_at hc) (by with_reducible assumption)
      obtain rfl : c = 38 := by simpa using h38
      have hnm := find_none (by with_reducible assumption) hc
      have hnl : (nameAt (l.drop p)).length ≤ 640 := by rw [hnm]; decide
      have hsg : signL (nameAt (l.drop p)) = none := by rw [hnm]; rfl
      rename OptS _ _ => hv9
      rw [show signL _ = none from by rfl] at hv9
      unfold OptS at hv9
      dsimp only at hv9
      subst hv9
      unfold Hold
      k_steps
      refine whEnd (nx' := []) (a' := (_, p + 1)) (by k_asm) (by k_asm) (fun p hp => nomatch hp) ?_ ⟨rfl, rfl, ⟨_, strEq ?_⟩, ⟨_, rfl⟩, ?_, ?_, read_none hc hsg ho⟩
      · dsimp only; omega
      · rw [item_at hc]; exact S_append _ _
      · dsimp only; omega
      · dsimp only; rw [List.length_append, List.length_singleton]; omega
    · have hlt : (p : Int) < ((S l).length : Int) := by with_reducible assumption
      have hpl : p < l.length := by rw [lenS] at hlt; omega
      obtain ⟨c, hc, _⟩ := drop_cons hpl
      have h38 := amp_eq (item_at hc) (by with_reducible assumption)
      have hnm := other_name hc h38
      have hnl : (nameAt (l.drop p)).length ≤ 640 := by rw [hnm]; decide
      have hsg : signL (nameAt (l.drop p)) = none := by rw [hnm]; rfl
      rename OptS _ _ => hv9
      rw [show signL _ = none from by rfl] at hv9
      unfold OptS at hv9
      dsimp only at hv9
      subst hv9
      unfold Hold
      k_steps
      refine whEnd (nx' := []) (a' := (_, p + 1)) (by k_asm) (by k_asm) (fun p hp => nomatch hp) ?_ ⟨rfl, rfl, ⟨_, strEq ?_⟩, ⟨_, rfl⟩, ?_, ?_, read_none hc hsg ho⟩
      · dsimp only; omega
      · rw [item_at hc]; exact S_append _ _
      · dsimp only; omega
      · dsimp only; rw [List.length_append, List.length_singleton]; omega
    · walk_at "M end"
      have hlt : ¬ (p : Int) < ((S l).length : Int) := by with_reducible assumption
      have : p = l.length := by rw [lenS] at hlt; omega
      rw [this, List.drop_length] at ho
      rw [← ho]
      exact ⟨_, congrArg (Value.str · _) (by simp [readL, readN])⟩
end Mine
end BodyRead
section BodyEsc
open PySem PySem.W PyProof.Rows PySem.Calls
namespace Mine
local macro_rules | `(tactic| walk_at "M enter") => `(tactic| (
  unfold Con; k_fill
  intro mean mg mb dp un gd cn cs a ccd cl outer A₀ base h₀ L m s Q E B F X T hk hd hu htok hret
  first
  | ((k_dflt (refine' enterS (L := L) ?k1 ?k2 ?k3 ?k4 ?kA ?kF ?kK ?k6 ?k7 ?k8 ?k9 ?kB hret ?_ ?c2 ?c3 ?c4 ?c5; (case kA => exact rfl); (case kF => exact rfl); (case kK => assumption); (case k1 => k_asm); (case k2 => k_asm); (case k3 => k_asm); (case k4 => k_asm); (case k6 => k_is); (case k7 => k_is); (case k8 => ktr_room); (case k9 => first | exact BindsTo.of_eq rfl | (refine' binds_K ?x1 ?x2 ?x3 ?x4 ?x5 ?x6; (case x1 => exact Frag.In.keeps X F.keep); (case x2 => exact rfl); (case x3 => k_is); (case x4 => exact rfl); (case x5 => exact rfl); (case x6 => exact rfl))); (case c5 => decide); (case kB => exact locs rfl); (case c2 => exact rfl); (case c3 => exact rfl); (case c4 => exact rfl); k_whole)); clear hret B F X T; (try (have htok := htok rfl)); intro L' h' F' N' B' X' T'; (try dsimp only); (try k_fold))
  | ((k_dflt (refine' enterSC (L := L) ?k1 ?k2 ?k3 ?k4 ?kA ?kF ?kK ?k6 ?k7 ?k8 ?k9 ?kB ?kD hret ?_ ?c2 ?c3 ?c4; (case kA => exact rfl); (case kF => exact rfl); (case kK => assumption); (case k1 => k_asm); (case k2 => k_asm); (case k3 => k_asm); (case k4 => k_asm); (case k6 => k_is); (case k7 => k_is); (case k8 => ktr_room); (case k9 => first | exact BindsTo.of_eq rfl | (refine' binds_K ?x1 ?x2 ?x3 ?x4 ?x5 ?x6; (case x1 => exact Frag.In.keeps X F.keep); (case x2 => exact rfl); (case x3 => k_is); (case x4 => exact rfl); (case x5 => exact rfl); (case x6 => exact rfl))); (case kB => exact rfl); (case kD => decide +kernel); (case c2 => exact rfl); (case c3 => exact rfl); (case c4 => exact rfl); k_whole)); clear hret B F X T; (try (have htok := htok rfl)); intro L' h' tk' cells' htk' F' N' Y' B' X' T'; k_cells Y'; (try simp only [List.cons_append, List.nil_append, List.append_nil] at N'); (try dsimp only); (try k_fold))))
local macro_rules | `(tactic| walk_at "execs cons") => `(tactic| (k_here; (refine' execs_consP ?k1 ?_; (case k1 => first | assumption | (dsimp only; omega) | omega)); intro tk9 htk9; (try dsimp only)))
local macro_rules | `(tactic| walk_at "forall") => `(tactic| ((with_reducible show (0 < Shared.toks _) → _); intro htk9; (try dsimp only at htk9)))
local macro_rules | `(tactic| walk_at "call builtin:str.replace") => `(tactic| (k_here; (with_reducible show wpAny _ _ (call (Value.builtin "str.replace") [Value.str _ _, Value.str _ _, Value.str _ _]) _ _ _); (first | refine wpAny_with_toks (n := 1) (by first | assumption | (dsimp only; omega)) (replaceP 2000 5 (by decide) (by omega) (by omega) (by omega) (by decide +kernel) (by first | omega | assumption) (Nat.le_of_eq (by rfl)) ?_) | refine wpAny_with_toks (n := 1) (by first | assumption | (dsimp only; omega)) (replaceP 2000 3 (by decide) (by omega) (by omega) (by omega) (by decide +kernel) (by first | omega | assumption) (Nat.le_of_eq (by rfl)) ?_) | refine wpAny_with_toks (n := 1) (by first | assumption | (dsimp only; omega)) (replaceP 12005 4 (by decide) (by omega) (by omega) (by omega) (by decide +kernel) (by first | omega | assumption) (Nat.le_of_eq (by rfl)) ?_) | refine wpAny_with_toks (n := 1) (by first | assumption | (dsimp only; omega)) (replaceP 60029 4 (by decide) (by omega) (by omega) (by omega) (by decide +kernel) (by first | omega | assumption) (Nat.le_of_eq (by rfl)) ?_) | refine wpAny_with_toks (n := 1) (by first | assumption | (dsimp only; omega)) (replaceP 300149 6 (by decide) (by omega) (by omega) (by omega) (by decide +kernel) (by first | omega | assumption) (Nat.le_of_eq (by rfl)) ?_)); intro t9 k9 hl9; (simp only [Nat.reduceMul, Nat.reduceAdd] at hl9)))
local macro_rules | `(tactic| walk_at "M end") => `(tactic| ((try dsimp only); (try (k_unfold; dsimp only)); refine leaveP (by assumption) ?_))
local macro_rules | `(tactic| walk_at "call builtin:str.join") => `(tactic| (k_here; (with_reducible show wpAny _ _ (call (Value.builtin "str.join") [Value.str _ _, Value.ref _]) _ _ _); (refine join_listW (News.isList (by k_asm) (by k_mem)) (show StrsAre (List.toArray _).toList _ by assumption) (by decide) (by assumption) ?_); intro t9 k9))
local macro_rules | `(tactic| walk_at "exec While Compare cons nil") => `(tactic| (k_here; refine hold ?_))
local macro_rules | `(tactic| walk_at "getMethod str") => `(tactic| (k_here; with_reducible refine meth_enc ?_))
local macro_rules | `(tactic| walk_at "call builtin:str.encode") => `(tactic| (k_here; (refine call_enc (by assumption) ?_); intro t9 k9))
local macro_rules | `(tactic| walk_at "formatField int") => `(tactic| (k_here; (refine field_02X (by first | rfl | decide +kernel) (by first | assumption | omega) ?_); intro t9 k9))
local macro_rules | `(tactic| walk_at "CompEnd") => `(tactic| first | refine compEnd_el (by k_asm) (by k_asm) (by kcj_all) (by assumption) ?_ | exact compEnd_no (by k_asm) (by k_asm) (by kcj_all) (by assumption))
local macro_rules | `(tactic| walk_at "exec For Name Name cons nil") => `(tactic| (k_here; refine hold ?_))
local macro_rules | `(tactic| walk_at "M step") => `(tactic| first | (k_unfold; (try dsimp only)) | (k_end; wrow_close) | walk1 | (dsimp only; walk1) | (leave1; walk_say "STEP leave1"; try dsimp only))
local macro_rules | `(tactic| walk_at "call builtin:list.append") => `(tactic| (k_here; (with_reducible show wpAny _ _ (call (Value.builtin _) [Value.ref _, _]) _ _ _); k_dflt (refine' append_K ?k1 ?k2 ?k3 ?_ ?z; (case k1 => k_asm); (case k2 => k_asm); (case k3 => k_upd); (case z => (first | (rw [sizeLine_eq]; omega) | (show _ ≤ 16777216; omega))); k_whole); intro h' F' N'; (try k_sweep)))
local macro_rules | `(tactic| walk_at "binaryOp Add ref ref") => `(tactic| (k_here; (with_reducible show wpAny _ _ (binaryOp _ (Value.ref _) (Value.ref _)) _ _ _); k_dflt (refine' addK ?F ?N ?a ?b ?_ ?z; (case F => k_asm); (case N => k_asm); (case a => exact News.isList (by k_asm) (by k_mem)); (case b => exact News.isList (by k_asm) (by k_mem)); (case z => ((try simp only [List.size_toArray]); rw [sizeLine_eq]; omega))); intro D' h' F' N' l1; (try k_lt l1); (try k_sweep)))
theorem con_esc1 (w : World) (l : List Nat) (t : Tok) (hx : l.length ≤ 2000) : Con w true 1 8 60 [.str (S l) t] [] (fun v => ∃ tk, v = .str (S (escL true l)) tk) := by
  w_top off
  have hxS := lenS l
  walk_at "M enter"
  k_steps
  all_goals walk_at "M end"
  exact ⟨_, congrArg (Value.str · _) (esc_text4 l)⟩
theorem con_esc2 (w : World) (l : List Nat) (t : Tok) (hx : l.length ≤ 2000) : Con w true 1 8 60 [.str (S l) t, .bool false] [] (fun v => ∃ tk, v = .str (S (escL false l)) tk) := by
  w_top off
  have hxS := lenS l
  walk_at "M enter"
  k_steps
  all_goals walk_at "M end"
  exact ⟨_, congrArg (Value.str · _) (esc_text3 l)⟩
theorem con_esc3 (w : World) (l : List Nat) (t : Tok) (hx : l.length ≤ 2000) : Con w true 1 8 60 [.str (S l) t] [(Str.ofString "quote", .bool false)] (fun v => ∃ tk, v = .str (S (escL false l)) tk) := by
  w_top off
  have hxS := lenS l
  walk_at "M enter"
  k_steps
  all_goals walk_at "M end"
  exact ⟨_, congrArg (Value.str · _) (esc_text3 l)⟩
end Mine
end BodyEsc
section BodyRep
open PySem PySem.W PyProof.Rows PySem.Calls
namespace Mine
local macro_rules | `(tactic| walk_at "M enter") => `(tactic| (
  unfold Con; k_fill
  intro mean mg mb dp un gd cn cs a ccd cl outer A₀ base h₀ L m s Q E B F X T hk hd hu htok hret
  first
  | ((k_dflt (refine' enterS (L := L) ?k1 ?k2 ?k3 ?k4 ?kA ?kF ?kK ?k6 ?k7 ?k8 ?k9 ?kB hret ?_ ?c2 ?c3 ?c4 ?c5; (case kA => exact rfl); (case kF => exact rfl); (case kK => assumption); (case k1 => k_asm); (case k2 => k_asm); (case k3 => k_asm); (case k4 => k_asm); (case k6 => k_is); (case k7 => k_is); (case k8 => ktr_room); (case k9 => first | exact BindsTo.of_eq rfl | (refine' binds_K ?x1 ?x2 ?x3 ?x4 ?x5 ?x6; (case x1 => exact Frag.In.keeps X F.keep); (case x2 => exact rfl); (case x3 => k_is); (case x4 => exact rfl); (case x5 => exact rfl); (case x6 => exact rfl))); (case c5 => decide); (case kB => exact locs rfl); (case c2 => exact rfl); (case c3 => exact rfl); (case c4 => exact rfl); k_whole)); clear hret B F X T; (try (have htok := htok rfl)); intro L' h' F' N' B' X' T'; (try dsimp only); (try k_fold))
  | ((k_dflt (refine' enterSC (L := L) ?k1 ?k2 ?k3 ?k4 ?kA ?kF ?kK ?k6 ?k7 ?k8 ?k9 ?kB ?kD hret ?_ ?c2 ?c3 ?c4; (case kA => exact rfl); (case kF => exact rfl); (case kK => assumption); (case k1 => k_asm); (case k2 => k_asm); (case k3 => k_asm); (case k4 => k_asm); (case k6 => k_is); (case k7 => k_is); (case k8 => ktr_room); (case k9 => first | exact BindsTo.of_eq rfl | (refine' binds_K ?x1 ?x2 ?x3 ?x4 ?x5 ?x6; (case x1 => exact Frag.In.keeps X F.keep); (case x2 => exact rfl); (case x3 => k_is); (case x4 => exact rfl); (case x5 => exact rfl); (case x6 => exact rfl))); (case kB => exact rfl); (case kD => decide +kernel); (case c2 => exact rfl); (case c3 => exact rfl); (case c4 => exact rfl); k_whole)); clear hret B F X T; (try (have htok := htok rfl)); intro L' h' tk' cells' htk' F' N' Y' B' X' T'; k_cells Y'; (try simp only [List.cons_append, List.nil_append, List.append_nil] at N'); (try dsimp only); (try k_fold))))
local macro_rules | `(tactic| walk_at "execs cons") => `(tactic| (k_here; (refine' execs_consP ?k1 ?_; (case k1 => first | assumption | (dsimp only; omega) | omega)); intro tk9 htk9; (try dsimp only)))
local macro_rules | `(tactic| walk_at "forall") => `(tactic| ((with_reducible show (0 < Shared.toks _) → _); intro htk9; (try dsimp only at htk9)))
local macro_rules | `(tactic| walk_at "call builtin:str.replace") => `(tactic| (k_here; (with_reducible show wpAny _ _ (call (Value.builtin "str.replace") [Value.str _ _, Value.str _ _, Value.str _ _]) _ _ _); (first | refine wpAny_with_toks (n := 1) (by first | assumption | (dsimp only; omega)) (replaceP 2000 5 (by decide) (by omega) (by omega) (by omega) (by decide +kernel) (by first | omega | assumption) (Nat.le_of_eq (by rfl)) ?_) | refine wpAny_with_toks (n := 1) (by first | assumption | (dsimp only; omega)) (replaceP 2000 3 (by decide) (by omega) (by omega) (by omega) (by decide +kernel) (by first | omega | assumption) (Nat.le_of_eq (by rfl)) ?_) | refine wpAny_with_toks (n := 1) (by first | assumption | (dsimp only; omega)) (replaceP 12005 4 (by decide) (by omega) (by omega) (by omega) (by decide +kernel) (by first | omega | assumption) (Nat.le_of_eq (by rfl)) ?_) | refine wpAny_with_toks (n := 1) (by first | assumption | (dsimp only; omega)) (replaceP 60029 4 (by decide) (by omega) (by omega) (by omega) (by decide +kernel) (by first | omega | assumption) (Nat.le_of_eq (by rfl)) ?_) | refine wpAny_with_toks (n := 1) (by first | assumption | (dsimp only; omega)) (replaceP 300149 6 (by decide) (by omega) (by omega) (by omega) (by decide +kernel) (by first | omega | assumption) (Nat.le_of_eq (by rfl)) ?_)); intro t9 k9 hl9; (simp only [Nat.reduceMul, Nat.reduceAdd] at hl9)))
local macro_rules | `(tactic| walk_at "M end") => `(tactic| ((try dsimp only); (try (k_unfold; dsimp only)); refine leaveP (by assumption) ?_))
local macro_rules | `(tactic| walk_at "call builtin:str.join") => `(tactic| (k_here; (with_reducible show wpAny _ _ (call (Value.builtin "str.join") [Value.str _ _, Value.ref _]) _ _ _); (refine join_listW (News.isList (by k_asm) (by k_mem)) (show StrsAre (List.toArray _).toList _ by assumption) (by decide) (by assumption) ?_); intro t9 k9))
local macro_rules | `(tactic| walk_at "exec While Compare cons nil") => `(tactic| (k_here; refine hold ?_))
local macro_rules | `(tactic| walk_at "getMethod str") => `(tactic| (k_here; with_reducible refine meth_enc ?_))
local macro_rules | `(tactic| walk_at "call builtin:str.encode") => `(tactic| (k_here; (refine call_enc (by assumption) ?_); intro t9 k9))
local macro_rules | `(tactic| walk_at "formatField int") => `(tactic| (k_here; (refine field_02X (by first | rfl | decide +kernel) (by first | assumption | omega) ?_); intro t9 k9))
local macro_rules | `(tactic| walk_at "CompEnd") => `(tactic| first | refine compEnd_el (by k_asm) (by k_asm) (by kcj_all) (by assumption) ?_ | exact compEnd_no (by k_asm) (by k_asm) (by kcj_all) (by assumption))
local macro_rules | `(tactic| walk_at "exec For Name Name cons nil") => `(tactic| (k_here; refine hold ?_))
local macro_rules | `(tactic| walk_at "M step") => `(tactic| first | (k_unfold; (try dsimp only)) | (k_end; wrow_close) | walk1 | (dsimp only; walk1) | (leave1; walk_say "STEP leave1"; try dsimp only))
local macro_rules | `(tactic| walk_at "call builtin:list.append") => `(tactic| (k_here; (with_reducible show wpAny _ _ (call (Value.builtin _) [Value.ref _, _]) _ _ _); k_dflt (refine' append_K ?k1 ?k2 ?k3 ?_ ?z; (case k1 => k_asm); (case k2 => k_asm); (case k3 => k_upd); (case z => (first | (rw [sizeLine_eq]; omega) | (show _ ≤ 16777216; omega))); k_whole); intro h' F' N'; (try k_sweep)))
local macro_rules | `(tactic| walk_at "binaryOp Add ref ref") => `(tactic| (k_here; (with_reducible show wpAny _ _ (binaryOp _ (Value.ref _) (Value.ref _)) _ _ _); k_dflt (refine' addK ?F ?N ?a ?b ?_ ?z; (case F => k_asm); (case N => k_asm); (case a => exact News.isList (by k_asm) (by k_mem)); (case b => exact News.isList (by k_asm) (by k_mem)); (case z => ((try simp only [List.size_toArray]); rw [sizeLine_eq]; omega))); intro D' h' F' N' l1; (try k_lt l1); (try k_sweep)))
local macro_rules | `(tactic| walk_at "MH enter") => `(tactic| (
  unfold ConH; k_fill
  intro mean mg mb dp un gd cn cs a ccd cl outer A₀ base h₀ L m s Q E hH B F X T hk hd hu htok hret
  first
  | ((k_dflt (refine' enterS (L := L) ?k1 ?k2 ?k3 ?k4 ?kA ?kF ?kK ?k6 ?k7 ?k8 ?k9 ?kB hret ?_ ?c2 ?c3 ?c4 ?c5; (case kA => exact rfl); (case kF => exact rfl); (case kK => assumption); (case k1 => k_asm); (case k2 => k_asm); (case k3 => k_asm); (case k4 => k_asm); (case k6 => k_is); (case k7 => k_is); (case k8 => ktr_room); (case k9 => first | exact BindsTo.of_eq rfl | (refine' binds_K ?x1 ?x2 ?x3 ?x4 ?x5 ?x6; (case x1 => exact Frag.In.keeps X F.keep); (case x2 => exact rfl); (case x3 => k_is); (case x4 => exact rfl); (case x5 => exact rfl); (case x6 => exact rfl))); (case c5 => decide); (case kB => exact locs rfl); (case c2 => exact rfl); (case c3 => exact rfl); (case c4 => exact rfl); k_whole)); clear hret B F X T; (try (have htok := htok rfl)); intro L' h' F' N' B' X' T'; (try dsimp only); (try k_fold))
  | ((k_dflt (refine' enterSC (L := L) ?k1 ?k2 ?k3 ?k4 ?kA ?kF ?kK ?k6 ?k7 ?k8 ?k9 ?kB ?kD hret ?_ ?c2 ?c3 ?c4; (case kA => exact rfl); (case kF => exact rfl); (case kK => assumption); (case k1 => k_asm); (case k2 => k_asm); (case k3 => k_asm); (case k4 => k_asm); (case k6 => k_is); (case k7 => k_is); (case k8 => ktr_room); (case k9 => first | exact BindsTo.of_eq rfl | (refine' binds_K ?x1 ?x2 ?x3 ?x4 ?x5 ?x6; (case x1 => exact Frag.In.keeps X F.keep); (case x2 => exact rfl); (case x3 => k_is); (case x4 => exact rfl); (case x5 => exact rfl); (case x6 => exact rfl))); (case kB => exact rfl); (case kD => decide +kernel); (case c2 => exact rfl); (case c3 => exact rfl); (case c4 => exact rfl); k_whole)); clear hret B F X T; (try (have htok := htok rfl)); intro L' h' tk' cells' htk' F' N' Y' B' X' T'; k_cells Y'; (try simp only [List.cons_append, List.nil_append, List.append_nil] at N'); (try dsimp only); (try k_fold))))
local macro_rules | `(tactic| walk_at "M pad0") => `(tactic| skip)
local macro_rules | `(tactic| walk_at "M pad1") => `(tactic| skip)
local macro_rules | `(tactic| walk_at "M pad2") => `(tactic| skip)
local macro_rules | `(tactic| walk_at "getMethod ref") => `(tactic| (k_here; refine meth_groupF (by k_asm) (by with_reducible assumption) ?_))
local macro_rules | `(tactic| walk_at "call builtin:re.Match.group") => `(tactic| (k_here; (refine call_groupF (by k_asm) (by with_reducible assumption) (by omega) (by omega) (by with_reducible assumption) ?_); intro t9 k9))
local macro_rules | `(tactic| walk_at "call type:int") => `(tactic| (k_here; refine hold ?_))
theorem con_rep (w : World) (l : List Nat) (t : Tok) (M : Addr) (b k : Nat) (hx : l.length ≤ 2000) (hk : matL (l.drop (b + 1)) = some k) (hbl : b < l.length) (h640 : k ≤ 640) : ConH w true 3 30 52 [.ref M] [] (fun h => IsMatch h M (S l) t b (b + 1 + k)) (fun v => ∃ tk, v = .str (S (replL ((l.drop (b + 1)).take k))) tk) := by
  w_top off
  have hxS := lenS l
  have hkl := matL_le hk
  rw [List.length_drop] at hkl
  walk_at "MH enter"
  have hsh := matL_shape hk
  have hnl : ((l.drop (b + 1)).take k).length = k := by rw [List.length_take, List.length_drop]; omega
  generalize hnm : (l.drop (b + 1)).take k = nm at hsh hnl
  have hnS := lenS nm
  k_steps
  · obtain ⟨f, e, hne, hok⟩ := shape_name hsh (by with_reducible assumption)
    walk_at "M end"
    rename PyProof.V.Flat _ _ => hF
    rw [hnm, e, repl_name hok]
    rw [e, look_named2] at hF
    cases hnd : namedL f with
    | none => rw [hnd] at hF; rw [← amp_cat]; exact flat_inv hF rfl
    | some c => rw [hnd] at hF; exact flat_inv hF rfl
  · obtain ⟨f, e, hne, hok, hf7⟩ := shape_dig hsh (by with_reducible assumption) (by with_reducible assumption)
    have hfl : f.length ≤ 640 := by omega
    have hsl : Txt.slice (S nm) (some 1) (some (-1)) = S f := by rw [e]; exact slice_dig f
    have hrp := repl_dig hne hok hf7
    rw [← e] at hrp
    rw [hsl]
    unfold Hold
    refine call_int1 hne hok hfl ?_
    k_steps
    all_goals walk_at "M end"
    all_goals rw [hnm, hrp]
    all_goals first
      | (rw [if_pos (ok_small (by with_reducible assumption) (by with_reducible assumption))]; exact ⟨_, rfl⟩)
      | (rw [if_neg (by rw [no_small (by with_reducible assumption) (by with_reducible assumption) (by omega)]; decide)]; exact ⟨_, congrArg (Value.str · _) (amp_cat _)⟩)
      | (rw [if_pos (ok_mid (by with_reducible assumption) (by omega) (by omega))]; exact ⟨_, rfl⟩)
      | (rw [if_pos (ok_low (by with_reducible assumption) (by omega) (by omega))]; exact ⟨_, rfl⟩)
      | (rw [if_pos (ok_big (by with_reducible assumption) (by omega) (by omega) (by omega) (by omega))]; exact ⟨_, rfl⟩)
      | (rw [if_neg (by rw [no_big (by with_reducible assumption) (by omega)]; decide)]; exact ⟨_, congrArg (Value.str · _) (amp_cat _)⟩)
  · obtain ⟨x, f, e, hxx, hne, hok⟩ := shape_hex hsh (by with_reducible assumption) (by with_reducible assumption)
    have hfl : f.length ≤ 640 := by rw [e] at hnl; simp at hnl; omega
    have hsl : Txt.slice (S nm) (some 2) (some (-1)) = S f := by rw [e]; exact slice_hex x f
    have hrp := repl_hex hxx hne hok (by omega)
    rw [← e] at hrp
    rw [hsl]
    unfold Hold
    refine call_int16 hne hok hfl ?_
    k_steps
    all_goals walk_at "M end"
    all_goals rw [hnm, hrp]
    all_goals first
      | (rw [if_pos (ok_small (by with_reducible assumption) (by with_reducible assumption))]; exact ⟨_, rfl⟩)
      | (rw [if_neg (by rw [no_small (by with_reducible assumption) (by with_reducible assumption) (by omega)]; decide)]; exact ⟨_, congrArg (Value.str · _) (amp_cat _)⟩)
      | (rw [if_pos (ok_mid (by with_reducible assumption) (by omega) (by omega))]; exact ⟨_, rfl⟩)
      | (rw [if_pos (ok_low (by with_reducible assumption) (by omega) (by omega))]; exact ⟨_, rfl⟩)
      | (rw [if_pos (ok_big (by with_reducible assumption) (by omega) (by omega) (by omega) (by omega))]; exact ⟨_, rfl⟩)
      | (rw [if_neg (by rw [no_big (by with_reducible assumption) (by omega)]; decide)]; exact ⟨_, congrArg (Value.str · _) (amp_cat _)⟩)
end Mine
end BodyRep
section BodyUne
open PySem PySem.W PyProof.Rows PySem.Calls
namespace Mine
local macro_rules | `(tactic| walk_at "M enter") => `(tactic| (
  unfold Con; k_fill
  intro mean mg mb dp un gd cn cs a ccd cl outer A₀ base h₀ L m s Q E B F X T hk hd hu htok hret
  first
  | ((k_dflt (refine' enterS (L := L) ?k1 ?k2 ?k3 ?k4 ?kA ?kF ?kK ?k6 ?k7 ?k8 ?k9 ?kB hret ?_ ?c2 ?c3 ?c4 ?c5; (case kA => exact rfl); (case kF => exact rfl); (case kK => assumption); (case k1 => k_asm); (case k2 => k_asm); (case k3 => k_asm); (case k4 => k_asm); (case k6 => k_is); (case k7 => k_is); (case k8 => ktr_room); (case k9 => first | exact BindsTo.of_eq rfl | (refine' binds_K ?x1 ?x2 ?x3 ?x4 ?x5 ?x6; (case x1 => exact Frag.In.keeps X F.keep); (case x2 => exact rfl); (case x3 => k_is); (case x4 => exact rfl); (case x5 => exact rfl); (case x6 => exact rfl))); (case c5 => decide); (case kB => exact locs rfl); (case c2 => exact rfl); (case c3 => exact rfl); (case c4 => exact rfl); k_whole)); clear hret B F X T; (try (have htok := htok rfl)); intro L' h' F' N' B' X' T'; (try dsimp only); (try k_fold))
  | ((k_dflt (refine' enterSC (L := L) ?k1 ?k2 ?k3 ?k4 ?kA ?kF ?kK ?k6 ?k7 ?k8 ?k9 ?kB ?kD hret ?_ ?c2 ?c3 ?c4; (case kA => exact rfl); (case kF => exact rfl); (case kK => assumption); (case k1 => k_asm); (case k2 => k_asm); (case k3 => k_asm); (case k4 => k_asm); (case k6 => k_is); (case k7 => k_is); (case k8 => ktr_room); (case k9 => first | exact BindsTo.of_eq rfl | (refine' binds_K ?x1 ?x2 ?x3 ?x4 ?x5 ?x6; (case x1 => exact Frag.In.keeps X F.keep); (case x2 => exact rfl); (case x3 => k_is); (case x4 => exact rfl); (case x5 => exact rfl); (case x6 => exact rfl))); (case kB => exact rfl); (case kD => decide +kernel); (case c2 => exact rfl); (case c3 => exact rfl); (case c4 => exact rfl); k_whole)); clear hret B F X T; (try (have htok := htok rfl)); intro L' h' tk' cells' htk' F' N' Y' B' X' T'; k_cells Y'; (try simp only [List.cons_append, List.nil_append, List.append_nil] at N'); (try dsimp only); (try k_fold))))
local macro_rules | `(tactic| walk_at "execs cons") => `(tactic| (k_here; (refine' execs_consP ?k1 ?_; (case k1 => first | assumption | (dsimp only; omega) | omega)); intro tk9 htk9; (try dsimp only)))
local macro_rules | `(tactic| walk_at "forall") => `(tactic| ((with_reducible show (0 < Shared.toks _) → _); intro htk9; (try dsimp only at htk9)))
local macro_rules | `(tactic| walk_at "call builtin:str.replace") => `(tactic| (k_here; (with_reducible show wpAny _ _ (call (Value.builtin "str.replace") [Value.str _ _, Value.str _ _, Value.str _ _]) _ _ _); (first | refine wpAny_with_toks (n := 1) (by first | assumption | (dsimp only; omega)) (replaceP 2000 5 (by decide) (by omega) (by omega) (by omega) (by decide +kernel) (by first | omega | assumption) (Nat.le_of_eq (by rfl)) ?_) | refine wpAny_with_toks (n := 1) (by first | assumption | (dsimp only; omega)) (replaceP 2000 3 (by decide) (by omega) (by omega) (by omega) (by decide +kernel) (by first | omega | assumption) (Nat.le_of_eq (by rfl)) ?_) | refine wpAny_with_toks (n := 1) (by first | assumption | (dsimp only; omega)) (replaceP 12005 4 (by decide) (by omega) (by omega) (by omega) (by decide +kernel) (by first | omega | assumption) (Nat.le_of_eq (by rfl)) ?_) | refine wpAny_with_toks (n := 1) (by first | assumption | (dsimp only; omega)) (replaceP 60029 4 (by decide) (by omega) (by omega) (by omega) (by decide +kernel) (by first | omega | assumption) (Nat.le_of_eq (by rfl)) ?_) | refine wpAny_with_toks (n := 1) (by first | assumption | (dsimp only; omega)) (replaceP 300149 6 (by decide) (by omega) (by omega) (by omega) (by decide +kernel) (by first | omega | assumption) (Nat.le_of_eq (by rfl)) ?_)); intro t9 k9 hl9; (simp only [Nat.reduceMul, Nat.reduceAdd] at hl9)))
local macro_rules | `(tactic| walk_at "M end") => `(tactic| ((try dsimp only); (try (k_unfold; dsimp only)); refine leaveP (by assumption) ?_))
local macro_rules | `(tactic| walk_at "call builtin:str.join") => `(tactic| (k_here; (with_reducible show wpAny _ _ (call (Value.builtin "str.join") [Value.str _ _, Value.ref _]) _ _ _); (refine join_listW (News.isList (by k_asm) (by k_mem)) (show StrsAre (List.toArray _).toList _ by assumption) (by decide) (by assumption) ?_); intro t9 k9))
local macro_rules | `(tactic| walk_at "exec While Compare cons nil") => `(tactic| (k_here; refine hold ?_))
local macro_rules | `(tactic| walk_at "getMethod str") => `(tactic| (k_here; with_reducible refine meth_enc ?_))
local macro_rules | `(tactic| walk_at "call builtin:str.encode") => `(tactic| (k_here; (refine call_enc (by assumption) ?_); intro t9 k9))
local macro_rules | `(tactic| walk_at "formatField int") => `(tactic| (k_here; (refine field_02X (by first | rfl | decide +kernel) (by first | assumption | omega) ?_); intro t9 k9))
local macro_rules | `(tactic| walk_at "CompEnd") => `(tactic| first | refine compEnd_el (by k_asm) (by k_asm) (by kcj_all) (by assumption) ?_ | exact compEnd_no (by k_asm) (by k_asm) (by kcj_all) (by assumption))
local macro_rules | `(tactic| walk_at "exec For Name Name cons nil") => `(tactic| (k_here; refine hold ?_))
local macro_rules | `(tactic| walk_at "M step") => `(tactic| first | (k_unfold; (try dsimp only)) | (k_end; wrow_close) | walk1 | (dsimp only; walk1) | (leave1; walk_say "STEP leave1"; try dsimp only))
local macro_rules | `(tactic| walk_at "call builtin:list.append") => `(tactic| (k_here; (with_reducible show wpAny _ _ (call (Value.builtin _) [Value.ref _, _]) _ _ _); k_dflt (refine' append_K ?k1 ?k2 ?k3 ?_ ?z; (case k1 => k_asm); (case k2 => k_asm); (case k3 => k_upd); (case z => (first | (rw [sizeLine_eq]; omega) | (show _ ≤ 16777216; omega))); k_whole); intro h' F' N'; (try k_sweep)))
local macro_rules | `(tactic| walk_at "binaryOp Add ref ref") => `(tactic| (k_here; (with_reducible show wpAny _ _ (binaryOp _ (Value.ref _) (Value.ref _)) _ _ _); k_dflt (refine' addK ?F ?N ?a ?b ?_ ?z; (case F => k_asm); (case N => k_asm); (case a => exact News.isList (by k_asm) (by k_mem)); (case b => exact News.isList (by k_asm) (by k_mem)); (case z => ((try simp only [List.size_toArray]); rw [sizeLine_eq]; omega))); intro D' h' F' N' l1; (try k_lt l1); (try k_sweep)))
local macro_rules | `(tactic| walk_at "M pad0") => `(tactic| skip)
local macro_rules | `(tactic| walk_at "M pad1") => `(tactic| skip)
local macro_rules | `(tactic| walk_at "M pad2") => `(tactic| skip)
local macro_rules | `(tactic| walk_at "M pad3") => `(tactic| skip)
local macro_rules | `(tactic| walk_at "M pad4") => `(tactic| skip)
local macro_rules | `(tactic| walk_at "M pad5") => `(tactic| skip)
local macro_rules | `(tactic| walk_at "M pad6") => `(tactic| skip)
local macro_rules | `(tactic| walk_at "getMethod ref") => `(tactic| (k_here; refine meth_sub (by k_asm) (by k_asm) ?_))
local macro_rules | `(tactic| walk_at "call builtin:re.Pattern.sub") => `(tactic| (k_here; (refine call_sub (fun M b k hm hb hk => con_rep _ _ _ M b k (by omega) hm hb hk) (by with_reducible assumption) (by with_reducible assumption) (by k_asm) (by k_asm) (by k_asm) (by first | exact rfl | assumption) (by ktr_room) (by ktr_units) (by k_asm) (by first | assumption | (dsimp only; omega)) ?_); intro h9 k9 t9 F9))
theorem con_une (w : World) (l : List Nat) (t : Tok) (hx : l.length ≤ 640) (hul : (unL l).length ≤ 100000) : Con w true 6 60 93 [.str (S l) t] [] (fun v => ∃ tk, v = .str (S (unL l)) tk) := by
  w_top off
  have hxS := lenS l
  walk_at "M enter"
  k_steps
  · have hno : (Builtin.Str.occurrences (S l) (Str.ofString "&") 0 (S l).length 1).isEmpty = true := by with_reducible assumption
    walk_at "M end"
    rw [no_amp hno]
    exact ⟨_, rfl⟩
  · walk_at "M end"
    exact ⟨_, rfl⟩
end Mine
end BodyUne
section BodySafe
open PySem PySem.W PyProof.Rows PySem.Calls
namespace Mine
local macro_rules | `(tactic| walk_at "M enter") => `(tactic| (
  unfold Con; k_fill
  intro mean mg mb dp un gd cn cs a ccd cl outer A₀ base h₀ L m s Q E B F X T hk hd hu htok hret
  first
  | ((k_dflt (refine' enterS (L := L) ?k1 ?k2 ?k3 ?k4 ?kA ?kF ?kK ?k6 ?k7 ?k8 ?k9 ?kB hret ?_ ?c2 ?c3 ?c4 ?c5; (case kA => exact rfl); (case kF => exact rfl); (case kK => assumption); (case k1 => k_asm); (case k2 => k_asm); (case k3 => k_asm); (case k4 => k_asm); (case k6 => k_is); (case k7 => k_is); (case k8 => ktr_room); (case k9 => first | exact BindsTo.of_eq rfl | (refine' binds_K ?x1 ?x2 ?x3 ?x4 ?x5 ?x6; (case x1 => exact Frag.In.keeps X F.keep); (case x2 => exact rfl); (case x3 => k_is); (case x4 => exact rfl); (case x5 => exact rfl); (case x6 => exact rfl))); (case c5 => decide); (case kB => exact locs rfl); (case c2 => exact rfl); (case c3 => exact rfl); (case c4 => exact rfl); k_whole)); clear hret B F X T; (try (have htok := htok rfl)); intro L' h' F' N' B' X' T'; (try dsimp only); (try k_fold))
  | ((k_dflt (refine' enterSC (L := L) ?k1 ?k2 ?k3 ?k4 ?kA ?kF ?kK ?k6 ?k7 ?k8 ?k9 ?kB ?kD hret ?_ ?c2 ?c3 ?c4; (case kA => exact rfl); (case kF => exact rfl); (case kK => assumption); (case k1 => k_asm); (case k2 => k_asm); (case k3 => k_asm); (case k4 => k_asm); (case k6 => k_is); (case k7 => k_is); (case k8 => ktr_room); (case k9 => first | exact BindsTo.of_eq rfl | (refine' binds_K ?x1 ?x2 ?x3 ?x4 ?x5 ?x6; (case x1 => exact Frag.In.keeps X F.keep); (case x2 => exact rfl); (case x3 => k_is); (case x4 => exact rfl); (case x5 => exact rfl); (case x6 => exact rfl))); (case kB => exact rfl); (case kD => decide +kernel); (case c2 => exact rfl); (case c3 => exact rfl); (case c4 => exact rfl); k_whole)); clear hret B F X T; (try (have htok := htok rfl)); intro L' h' tk' cells' htk' F' N' Y' B' X' T'; k_cells Y'; (try simp only [List.cons_append, List.nil_append, List.append_nil] at N'); (try dsimp only); (try k_fold))))
local macro_rules | `(tactic| walk_at "execs cons") => `(tactic| (k_here; (refine' execs_consP ?k1 ?_; (case k1 => first | assumption | (dsimp only; omega) | omega)); intro tk9 htk9; (try dsimp only)))
local macro_rules | `(tactic| walk_at "forall") => `(tactic| ((with_reducible show (0 < Shared.toks _) → _); intro htk9; (try dsimp only at htk9)))
local macro_rules | `(tactic| walk_at "call builtin:str.replace") => `(tactic| (k_here; (with_reducible show wpAny _ _ (call (Value.builtin "str.replace") [Value.str _ _, Value.str _ _, Value.str _ _]) _ _ _); (first | refine wpAny_with_toks (n := 1) (by first | assumption | (dsimp only; omega)) (replaceP 2000 5 (by decide) (by omega) (by omega) (by omega) (by decide +kernel) (by first | omega | assumption) (Nat.le_of_eq (by rfl)) ?_) | refine wpAny_with_toks (n := 1) (by first | assumption | (dsimp only; omega)) (replaceP 2000 3 (by decide) (by omega) (by omega) (by omega) (by decide +kernel) (by first | omega | assumption) (Nat.le_of_eq (by rfl)) ?_) | refine wpAny_with_toks (n := 1) (by first | assumption | (dsimp only; omega)) (replaceP 12005 4 (by decide) (by omega) (by omega) (by omega) (by decide +kernel) (by first | omega | assumption) (Nat.le_of_eq (by rfl)) ?_) | refine wpAny_with_toks (n := 1) (by first | assumption | (dsimp only; omega)) (replaceP 60029 4 (by decide) (by omega) (by omega) (by omega) (by decide +kernel) (by first | omega | assumption) (Nat.le_of_eq (by rfl)) ?_) | refine wpAny_with_toks (n := 1) (by first | assumption | (dsimp only; omega)) (replaceP 300149 6 (by decide) (by omega) (by omega) (by omega) (by decide +kernel) (by first | omega | assumption) (Nat.le_of_eq (by rfl)) ?_)); intro t9 k9 hl9; (simp only [Nat.reduceMul, Nat.reduceAdd] at hl9)))
local macro_rules | `(tactic| walk_at "M end") => `(tactic| ((try dsimp only); (try (k_unfold; dsimp only)); refine leaveP (by assumption) ?_))
local macro_rules | `(tactic| walk_at "call builtin:str.join") => `(tactic| (k_here; (with_reducible show wpAny _ _ (call (Value.builtin "str.join") [Value.str _ _, Value.ref _]) _ _ _); (refine join_listW (News.isList (by k_asm) (by k_mem)) (show StrsAre (List.toArray _).toList _ by assumption) (by decide) (by assumption) ?_); intro t9 k9))
local macro_rules | `(tactic| walk_at "exec While Compare cons nil") => `(tactic| (k_here; refine hold ?_))
local macro_rules | `(tactic| walk_at "getMethod str") => `(tactic| (k_here; with_reducible refine meth_enc ?_))
local macro_rules | `(tactic| walk_at "call builtin:str.encode") => `(tactic| (k_here; (refine call_enc (by assumption) ?_); intro t9 k9))
local macro_rules | `(tactic| walk_at "formatField int") => `(tactic| (k_here; (refine field_02X (by first | rfl | decide +kernel) (by first | assumption | omega) ?_); intro t9 k9))
local macro_rules | `(tactic| walk_at "CompEnd") => `(tactic| first | refine compEnd_el (by k_asm) (by k_asm) (by kcj_all) (by assumption) ?_ | exact compEnd_no (by k_asm) (by k_asm) (by kcj_all) (by assumption))
local macro_rules | `(tactic| walk_at "exec For Name Name cons nil") => `(tactic| (k_here; refine hold ?_))
local macro_rules | `(tactic| walk_at "M step") => `(tactic| first | (k_unfold; (try dsimp only)) | (k_end; wrow_close) | walk1 | (dsimp only; walk1) | (leave1; walk_say "STEP leave1"; try dsimp only))
local macro_rules | `(tactic| walk_at "call builtin:list.append") => `(tactic| (k_here; (with_reducible show wpAny _ _ (call (Value.builtin _) [Value.ref _, _]) _ _ _); k_dflt (refine' append_K ?k1 ?k2 ?k3 ?_ ?z; (case k1 => k_asm); (case k2 => k_asm); (case k3 => k_upd); (case z => (first | (rw [sizeLine_eq]; omega) | (show _ ≤ 16777216; omega))); k_whole); intro h' F' N'; (try k_sweep)))
local macro_rules | `(tactic| walk_at "binaryOp Add ref ref") => `(tactic| (k_here; (with_reducible show wpAny _ _ (binaryOp _ (Value.ref _) (Value.ref _)) _ _ _); k_dflt (refine' addK ?F ?N ?a ?b ?_ ?z; (case F => k_asm); (case N => k_asm); (case a => exact News.isList (by k_asm) (by k_mem)); (case b => exact News.isList (by k_asm) (by k_mem)); (case z => ((try simp only [List.size_toArray]); rw [sizeLine_eq]; omega))); intro D' h' F' N' l1; (try k_lt l1); (try k_sweep)))
local macro_rules | `(tactic| walk_at "M pad0") => `(tactic| skip)
local macro_rules | `(tactic| walk_at "M pad1") => `(tactic| skip)
local macro_rules | `(tactic| walk_at "M pad2") => `(tactic| skip)
local macro_rules | `(tactic| walk_at "M pad3") => `(tactic| skip)
local macro_rules | `(tactic| walk_at "M pad4") => `(tactic| skip)
local macro_rules | `(tactic| walk_at "M pad5") => `(tactic| skip)
local macro_rules | `(tactic| walk_at "M pad6") => `(tactic| skip)
local macro_rules | `(tactic| walk_at "M pad7") => `(tactic| skip)
local macro_rules | `(tactic| walk_at "call ref") => `(tactic| (k_here; (with_reducible show wpAny _ _ (call (Value.ref 93) [Value.str (S _) _] _) _ _ _); k_dflt (refine' con_use (con_une _ _ _ ?kl ?km) ?k1 ?k2 ?k3 ?k4 ?k5 ?kK ?kd ?ku ?kt ?_; (case kl => with_reducible assumption); (case km => omega); (case k1 => k_asm); (case k2 => k_asm); (case k3 => k_asm); (case k4 => k_asm); (case k5 => k_asm); (case kK => first | exact rfl | assumption); (case kd => ktr_room); (case ku => ktr_units); (case kt => first | (intro _; assumption) | (intro _; dsimp only; omega)); k_whole); intro v9 h9 tk9 hv9 F9 N9 htk9; obtain ⟨u9, e9⟩ := hv9; subst e9; (try dsimp only at htk9); (try dsimp only)))
local macro_rules | `(tactic| walk_at "call ref") => `(tactic| (k_here; (with_reducible show wpAny _ _ (call (Value.ref 60) [Value.str (S _) _] _) _ _ _); k_dflt (refine' con_use (con_esc1 _ _ _ ?kl) ?k1 ?k2 ?k3 ?k4 ?k5 ?kK ?kd ?ku ?kt ?_; (case kl => first | with_reducible assumption | omega); (case k1 => k_asm); (case k2 => k_asm); (case k3 => k_asm); (case k4 => k_asm); (case k5 => k_asm); (case kK => first | exact rfl | assumption); (case kd => ktr_room); (case ku => ktr_units); (case kt => first | (intro _; assumption) | (intro _; dsimp only; omega)); k_whole); intro v9 h9 tk9 hv9 F9 N9 htk9; obtain ⟨u9, e9⟩ := hv9; subst e9; (try dsimp only at htk9); (try dsimp only)))
theorem con_safe (w : World) (l : List Nat) (t : Tok) (hx : l.length ≤ 640) (hul : (unL l).length ≤ 2000) : Con w true 8 80 74 [.str (S l) t] [] (fun v => ∃ tk, v = .str (S (escL true (unL l))) tk) := by
  w_top off
  have hxS := lenS l
  walk_at "M enter"
  k_steps
  all_goals walk_at "M end"
  exact ⟨_, rfl⟩
end Mine
end BodySafe
section BodyEurl
open PySem PySem.W PyProof.Rows PySem.Calls
namespace Mine
local macro_rules | `(tactic| walk_at "M enter") => `(tactic| (
  unfold Con; k_fill
  intro mean mg mb dp un gd cn cs a ccd cl outer A₀ base h₀ L m s Q E B F X T hk hd hu htok hret
  first
  | ((k_dflt (refine' enterS (L := L) ?k1 ?k2 ?k3 ?k4 ?kA ?kF ?kK ?k6 ?k7 ?k8 ?k9 ?kB hret ?_ ?c2 ?c3 ?c4 ?c5; (case kA => exact rfl); (case kF => exact rfl); (case kK => assumption); (case k1 => k_asm); (case k2 => k_asm); (case k3 => k_asm); (case k4 => k_asm); (case k6 => k_is); (case k7 => k_is); (case k8 => ktr_room); (case k9 => first | exact BindsTo.of_eq rfl | (refine' binds_K ?x1 ?x2 ?x3 ?x4 ?x5 ?x6; (case x1 => exact Frag.In.keeps X F.keep); (case x2 => exact rfl); (case x3 => k_is); (case x4 => exact rfl); (case x5 => exact rfl); (case x6 => exact rfl))); (case c5 => decide); (case kB => exact locs rfl); (case c2 => exact rfl); (case c3 => exact rfl); (case c4 => exact rfl); k_whole)); clear hret B F X T; (try (have htok := htok rfl)); intro L' h' F' N' B' X' T'; (try dsimp only); (try k_fold))
  | ((k_dflt (refine' enterSC (L := L) ?k1 ?k2 ?k3 ?k4 ?kA ?kF ?kK ?k6 ?k7 ?k8 ?k9 ?kB ?kD hret ?_ ?c2 ?c3 ?c4; (case kA => exact rfl); (case kF => exact rfl); (case kK => assumption); (case k1 => k_asm); (case k2 => k_asm); (case k3 => k_asm); (case k4 => k_asm); (case k6 => k_is); (case k7 => k_is); (case k8 => ktr_room); (case k9 => first | exact BindsTo.of_eq rfl | (refine' binds_K ?x1 ?x2 ?x3 ?x4 ?x5 ?x6; (case x1 => exact Frag.In.keeps X F.keep); (case x2 => exact rfl); (case x3 => k_is); (case x4 => exact rfl); (case x5 => exact rfl); (case x6 => exact rfl))); (case kB => exact rfl); (case kD => decide +kernel); (case c2 => exact rfl); (case c3 => exact rfl); (case c4 => exact rfl); k_whole)); clear hret B F X T; (try (have htok := htok rfl)); intro L' h' tk' cells' htk' F' N' Y' B' X' T'; k_cells Y'; (try simp only [List.cons_append, List.nil_append, List.append_nil] at N'); (try dsimp only); (try k_fold))))
local macro_rules | `(tactic| walk_at "execs cons") => `(tactic| (k_here; (refine' execs_consP ?k1 ?_; (case k1 => first | assumption | (dsimp only; omega) | omega)); intro tk9 htk9; (try dsimp only)))
local macro_rules | `(tactic| walk_at "forall") => `(tactic| ((with_reducible show (0 < Shared.toks _) → _); intro htk9; (try dsimp only at htk9)))
local macro_rules | `(tactic| walk_at "call builtin:str.replace") => `(tactic| (k_here; (with_reducible show wpAny _ _ (call (Value.builtin "str.replace") [Value.str _ _, Value.str _ _, Value.str _ _]) _ _ _); (first | refine wpAny_with_toks (n := 1) (by first | assumption | (dsimp only; omega)) (replaceP 2000 5 (by decide) (by omega) (by omega) (by omega) (by decide +kernel) (by first | omega | assumption) (Nat.le_of_eq (by rfl)) ?_) | refine wpAny_with_toks (n := 1) (by first | assumption | (dsimp only; omega)) (replaceP 2000 3 (by decide) (by omega) (by omega) (by omega) (by decide +kernel) (by first | omega | assumption) (Nat.le_of_eq (by rfl)) ?_) | refine wpAny_with_toks (n := 1) (by first | assumption | (dsimp only; omega)) (replaceP 12005 4 (by decide) (by omega) (by omega) (by omega) (by decide +kernel) (by first | omega | assumption) (Nat.le_of_eq (by rfl)) ?_) | refine wpAny_with_toks (n := 1) (by first | assumption | (dsimp only; omega)) (replaceP 60029 4 (by decide) (by omega) (by omega) (by omega) (by decide +kernel) (by first | omega | assumption) (Nat.le_of_eq (by rfl)) ?_) | refine wpAny_with_toks (n := 1) (by first | assumption | (dsimp only; omega)) (replaceP 300149 6 (by decide) (by omega) (by omega) (by omega) (by decide +kernel) (by first | omega | assumption) (Nat.le_of_eq (by rfl)) ?_)); intro t9 k9 hl9; (simp only [Nat.reduceMul, Nat.reduceAdd] at hl9)))
local macro_rules | `(tactic| walk_at "M end") => `(tactic| ((try dsimp only); (try (k_unfold; dsimp only)); refine leaveP (by assumption) ?_))
local macro_rules | `(tactic| walk_at "call builtin:str.join") => `(tactic| (k_here; (with_reducible show wpAny _ _ (call (Value.builtin "str.join") [Value.str _ _, Value.ref _]) _ _ _); (refine join_listW (News.isList (by k_asm) (by k_mem)) (show StrsAre (List.toArray _).toList _ by assumption) (by decide) (by assumption) ?_); intro t9 k9))
local macro_rules | `(tactic| walk_at "exec While Compare cons nil") => `(tactic| (k_here; refine hold ?_))
local macro_rules | `(tactic| walk_at "getMethod str") => `(tactic| (k_here; with_reducible refine meth_enc ?_))
local macro_rules | `(tactic| walk_at "call builtin:str.encode") => `(tactic| (k_here; (refine call_enc (by assumption) ?_); intro t9 k9))
local macro_rules | `(tactic| walk_at "formatField int") => `(tactic| (k_here; (refine field_02X (by first | rfl | decide +kernel) (by first | assumption | omega) ?_); intro t9 k9))
local macro_rules | `(tactic| walk_at "CompEnd") => `(tactic| first | refine compEnd_el (by k_asm) (by k_asm) (by kcj_all) (by assumption) ?_ | exact compEnd_no (by k_asm) (by k_asm) (by kcj_all) (by assumption))
local macro_rules | `(tactic| walk_at "exec For Name Name cons nil") => `(tactic| (k_here; refine hold ?_))
local macro_rules | `(tactic| walk_at "M step") => `(tactic| first | (k_unfold; (try dsimp only)) | (k_end; wrow_close) | walk1 | (dsimp only; walk1) | (leave1; walk_say "STEP leave1"; try dsimp only))
local macro_rules | `(tactic| walk_at "call builtin:list.append") => `(tactic| (k_here; (with_reducible show wpAny _ _ (call (Value.builtin _) [Value.ref _, _]) _ _ _); k_dflt (refine' append_K ?k1 ?k2 ?k3 ?_ ?z; (case k1 => k_asm); (case k2 => k_asm); (case k3 => k_upd); (case z => (first | (rw [sizeLine_eq]; omega) | (show _ ≤ 16777216; omega))); k_whole); intro h' F' N'; (try k_sweep)))
local macro_rules | `(tactic| walk_at "binaryOp Add ref ref") => `(tactic| (k_here; (with_reducible show wpAny _ _ (binaryOp _ (Value.ref _) (Value.ref _)) _ _ _); k_dflt (refine' addK ?F ?N ?a ?b ?_ ?z; (case F => k_asm); (case N => k_asm); (case a => exact News.isList (by k_asm) (by k_mem)); (case b => exact News.isList (by k_asm) (by k_mem)); (case z => ((try simp only [List.size_toArray]); rw [sizeLine_eq]; omega))); intro D' h' F' N' l1; (try k_lt l1); (try k_sweep)))
local macro_rules | `(tactic| walk_at "M pad0") => `(tactic| skip)
local macro_rules | `(tactic| walk_at "M pad1") => `(tactic| skip)
local macro_rules | `(tactic| walk_at "M pad2") => `(tactic| skip)
local macro_rules | `(tactic| walk_at "M pad3") => `(tactic| skip)
local macro_rules | `(tactic| walk_at "M pad4") => `(tactic| skip)
local macro_rules | `(tactic| walk_at "M pad5") => `(tactic| skip)
local macro_rules | `(tactic| walk_at "M pad6") => `(tactic| skip)
local macro_rules | `(tactic| walk_at "M pad7") => `(tactic| skip)
local macro_rules | `(tactic| walk_at "M pad8") => `(tactic| skip)
theorem con_quoU (w : World) (l : List Nat) (t u : Tok) (hx : l.length ≤ 2000) (hg : ∀ c ∈ l, Str.isSurrogate c = false) : Con w false 2 20 38 [.str (S l) t] [(Str.ofString "safe", .str (Str.ofString ":/?#@!$&()*+,;=%") u)] (fun v => ∃ tk, v = .str (S (quoL [58, 47, 63, 35, 64, 33, 36, 38, 40, 41, 42, 43, 44, 59, 61, 37] l)) tk) := by
  w_top off
  have h := con_quoK w l [58, 47, 63, 35, 64, 33, 36, 38, 40, 41, 42, 43, 44, 59, 61, 37] t u hx (by decide) hg
  rw [show Str.ofString ":/?#@!$&()*+,;=%" = S [58, 47, 63, 35, 64, 33, 36, 38, 40, 41, 42, 43, 44, 59, 61, 37] from by decide +kernel]; exact h
local macro_rules | `(tactic| walk_at "call ref") => `(tactic| (k_here; (with_reducible show wpAny _ _ (call (Value.ref 93) [Value.str (S _) _] _) _ _ _); k_dflt (refine' con_use (con_une _ _ _ ?kl ?km) ?k1 ?k2 ?k3 ?k4 ?k5 ?kK ?kd ?ku ?kt ?_; (case kl => with_reducible assumption); (case km => omega); (case k1 => k_asm); (case k2 => k_asm); (case k3 => k_asm); (case k4 => k_asm); (case k5 => k_asm); (case kK => first | exact rfl | assumption); (case kd => ktr_room); (case ku => ktr_units); (case kt => first | (intro _; assumption) | (intro _; dsimp only; omega)); k_whole); intro v9 h9 tk9 hv9 F9 N9 htk9; obtain ⟨u9, e9⟩ := hv9; subst e9; (try dsimp only at htk9); (try dsimp only)))
local macro_rules | `(tactic| walk_at "call ref") => `(tactic| (k_here; (with_reducible show wpAny _ _ (call (Value.ref 38) [Value.str (S _) _] _) _ _ _); k_dflt (refine' con_use (con_quoU _ _ _ _ ?kl ?kg) ?k1 ?k2 ?k3 ?k4 ?k5 ?kK ?kd ?ku ?kt ?_; (case kl => first | with_reducible assumption | omega); (case kg => first | with_reducible assumption | assumption); (case k1 => k_asm); (case k2 => k_asm); (case k3 => k_asm); (case k4 => k_asm); (case k5 => k_asm); (case kK => first | exact rfl | assumption); (case kd => ktr_room); (case ku => ktr_units); (case kt => first | (intro _; assumption) | (intro _; dsimp only; omega)); k_whole); intro v9 h9 tk9 hv9 F9 N9 htk9; obtain ⟨u9, e9⟩ := hv9; subst e9; (try dsimp only at htk9); (try dsimp only)))
theorem con_eurl (w : World) (l : List Nat) (t : Tok) (hx : l.length ≤ 640) (hul : (unL l).length ≤ 2000) (hg : ∀ c ∈ unL l, Str.isSurrogate c = false) : Con w true 8 80 67 [.str (S l) t] [] (fun v => ∃ tk, v = .str (S (quoL [58, 47, 63, 35, 64, 33, 36, 38, 40, 41, 42, 43, 44, 59, 61, 37] (unL l))) tk) := by
  w_top off
  have hxS := lenS l
  walk_at "M enter"
  k_steps
  all_goals walk_at "M end"
  exact ⟨_, rfl⟩
end Mine
end BodyEurl
section BodyUni
open PySem PySem.W PyProof.Rows PySem.Calls
namespace Mine
local macro_rules | `(tactic| walk_at "M enter") => `(tactic| (
  unfold Con; k_fill
  intro mean mg mb dp un gd cn cs a ccd cl outer A₀ base h₀ L m s Q E B F X T hk hd hu htok hret
  first
  | ((k_dflt (refine' enterS (L := L) ?k1 ?k2 ?k3 ?k4 ?kA ?kF ?kK ?k6 ?k7 ?k8 ?k9 ?kB hret ?_ ?c2 ?c3 ?c4 ?c5; (case kA => exact rfl); (case kF => exact rfl); (case kK => assumption); (case k1 => k_asm); (case k2 => k_asm); (case k3 => k_asm); (case k4 => k_asm); (case k6 => k_is); (case k7 => k_is); (case k8 => ktr_room); (case k9 => first | exact BindsTo.of_eq rfl | (refine' binds_K ?x1 ?x2 ?x3 ?x4 ?x5 ?x6; (case x1 => exact Frag.In.keeps X F.keep); (case x2 => exact rfl); (case x3 => k_is); (case x4 => exact rfl); (case x5 => exact rfl); (case x6 => exact rfl))); (case c5 => decide); (case kB => exact locs rfl); (case c2 => exact rfl); (case c3 => exact rfl); (case c4 => exact rfl); k_whole)); clear hret B F X T; (try (have htok := htok rfl)); intro L' h' F' N' B' X' T'; (try dsimp only); (try k_fold))
  | ((k_dflt (refine' enterSC (L := L) ?k1 ?k2 ?k3 ?k4 ?kA ?kF ?kK ?k6 ?k7 ?k8 ?k9 ?kB ?kD hret ?_ ?c2 ?c3 ?c4; (case kA => exact rfl); (case kF => exact rfl); (case kK => assumption); (case k1 => k_asm); (case k2 => k_asm); (case k3 => k_asm); (case k4 => k_asm); (case k6 => k_is); (case k7 => k_is); (case k8 => ktr_room); (case k9 => first | exact BindsTo.of_eq rfl | (refine' binds_K ?x1 ?x2 ?x3 ?x4 ?x5 ?x6; (case x1 => exact Frag.In.keeps X F.keep); (case x2 => exact rfl); (case x3 => k_is); (case x4 => exact rfl); (case x5 => exact rfl); (case x6 => exact rfl))); (case kB => exact rfl); (case kD => decide +kernel); (case c2 => exact rfl); (case c3 => exact rfl); (case c4 => exact rfl); k_whole)); clear hret B F X T; (try (have htok := htok rfl)); intro L' h' tk' cells' htk' F' N' Y' B' X' T'; k_cells Y'; (try simp only [List.cons_append, List.nil_append, List.append_nil] at N'); (try dsimp only); (try k_fold))))
local macro_rules | `(tactic| walk_at "execs cons") => `(tactic| (k_here; (refine' execs_consP ?k1 ?_; (case k1 => first | assumption | (dsimp only; omega) | omega)); intro tk9 htk9; (try dsimp only)))
local macro_rules | `(tactic| walk_at "forall") => `(tactic| ((with_reducible show (0 < Shared.toks _) → _); intro htk9; (try dsimp only at htk9)))
local macro_rules | `(tactic| walk_at "call builtin:str.replace") => `(tactic| (k_here; (with_reducible show wpAny _ _ (call (Value.builtin "str.replace") [Value.str _ _, Value.str _ _, Value.str _ _]) _ _ _); (first | refine wpAny_with_toks (n := 1) (by first | assumption | (dsimp only; omega)) (replaceP 2000 5 (by decide) (by omega) (by omega) (by omega) (by decide +kernel) (by first | omega | assumption) (Nat.le_of_eq (by rfl)) ?_) | refine wpAny_with_toks (n := 1) (by first | assumption | (dsimp only; omega)) (replaceP 2000 3 (by decide) (by omega) (by omega) (by omega) (by decide +kernel) (by first | omega | assumption) (Nat.le_of_eq (by rfl)) ?_) | refine wpAny_with_toks (n := 1) (by first | assumption | (dsimp only; omega)) (replaceP 12005 4 (by decide) (by omega) (by omega) (by omega) (by decide +kernel) (by first | omega | assumption) (Nat.le_of_eq (by rfl)) ?_) | refine wpAny_with_toks (n := 1) (by first | assumption | (dsimp only; omega)) (replaceP 60029 4 (by decide) (by omega) (by omega) (by omega) (by decide +kernel) (by first | omega | assumption) (Nat.le_of_eq (by rfl)) ?_) | refine wpAny_with_toks (n := 1) (by first | assumption | (dsimp only; omega)) (replaceP 300149 6 (by decide) (by omega) (by omega) (by omega) (by decide +kernel) (by first | omega | assumption) (Nat.le_of_eq (by rfl)) ?_)); intro t9 k9 hl9; (simp only [Nat.reduceMul, Nat.reduceAdd] at hl9)))
local macro_rules | `(tactic| walk_at "M end") => `(tactic| ((try dsimp only); (try (k_unfold; dsimp only)); refine leaveP (by assumption) ?_))
local macro_rules | `(tactic| walk_at "call builtin:str.join") => `(tactic| (k_here; (with_reducible show wpAny _ _ (call (Value.builtin "str.join") [Value.str _ _, Value.ref _]) _ _ _); (refine join_listW (News.isList (by k_asm) (by k_mem)) (show StrsAre (List.toArray _).toList _ by assumption) (by decide) (by assumption) ?_); intro t9 k9))
local macro_rules | `(tactic| walk_at "exec While Compare cons nil") => `(tactic| (k_here; refine hold ?_))
local macro_rules | `(tactic| walk_at "getMethod str") => `(tactic| (k_here; with_reducible refine meth_enc ?_))
local macro_rules | `(tactic| walk_at "call builtin:str.encode") => `(tactic| (k_here; (refine call_enc (by assumption) ?_); intro t9 k9))
local macro_rules | `(tactic| walk_at "formatField int") => `(tactic| (k_here; (refine field_02X (by first | rfl | decide +kernel) (by first | assumption | omega) ?_); intro t9 k9))
local macro_rules | `(tactic| walk_at "CompEnd") => `(tactic| first | refine compEnd_el (by k_asm) (by k_asm) (by kcj_all) (by assumption) ?_ | exact compEnd_no (by k_asm) (by k_asm) (by kcj_all) (by assumption))
local macro_rules | `(tactic| walk_at "exec For Name Name cons nil") => `(tactic| (k_here; refine hold ?_))
local macro_rules | `(tactic| walk_at "M step") => `(tactic| first | (k_unfold; (try dsimp only)) | (k_end; wrow_close) | walk1 | (dsimp only; walk1) | (leave1; walk_say "STEP leave1"; try dsimp only))
local macro_rules | `(tactic| walk_at "call builtin:list.append") => `(tactic| (k_here; (with_reducible show wpAny _ _ (call (Value.builtin _) [Value.ref _, _]) _ _ _); k_dflt (refine' append_K ?k1 ?k2 ?k3 ?_ ?z; (case k1 => k_asm); (case k2 => k_asm); (case k3 => k_upd); (case z => (first | (rw [sizeLine_eq]; omega) | (show _ ≤ 16777216; omega))); k_whole); intro h' F' N'; (try k_sweep)))
local macro_rules | `(tactic| walk_at "binaryOp Add ref ref") => `(tactic| (k_here; (with_reducible show wpAny _ _ (binaryOp _ (Value.ref _) (Value.ref _)) _ _ _); k_dflt (refine' addK ?F ?N ?a ?b ?_ ?z; (case F => k_asm); (case N => k_asm); (case a => exact News.isList (by k_asm) (by k_mem)); (case b => exact News.isList (by k_asm) (by k_mem)); (case z => ((try simp only [List.size_toArray]); rw [sizeLine_eq]; omega))); intro D' h' F' N' l1; (try k_lt l1); (try k_sweep)))
local macro_rules | `(tactic| walk_at "M pad0") => `(tactic| skip)
local macro_rules | `(tactic| walk_at "M pad1") => `(tactic| skip)
local macro_rules | `(tactic| walk_at "M pad2") => `(tactic| skip)
local macro_rules | `(tactic| walk_at "M pad3") => `(tactic| skip)
local macro_rules | `(tactic| walk_at "M pad4") => `(tactic| skip)
local macro_rules | `(tactic| walk_at "M pad5") => `(tactic| skip)
local macro_rules | `(tactic| walk_at "M pad6") => `(tactic| skip)
local macro_rules | `(tactic| walk_at "M pad7") => `(tactic| skip)
local macro_rules | `(tactic| walk_at "M pad8") => `(tactic| skip)
local macro_rules | `(tactic| walk_at "M pad9") => `(tactic| skip)
local macro_rules | `(tactic| walk_at "M pad10") => `(tactic| skip)
local macro_rules | `(tactic| walk_at "M pad11") => `(tactic| skip)
theorem con_uni (w : World) (l : List Nat) (t : Tok) (hx : l.length ≤ 2000) : Con w true 1 8 81 [.str (S l) t] [] (fun v => ∃ tk, v = .str (Txt.upper (Txt.lower (Txt.strip (Txt.join (Str.ofString " ") (Txt.words (S l)))))) tk) := by
  w_top off
  have hxS := lenS l
  walk_at "M enter"
  k_steps
  walk_at "M end"
  exact ⟨_, rfl⟩
end Mine
end BodyUni
section BodyNum
open PySem PySem.W PyProof.Rows PySem.Calls
namespace Mine
local macro_rules | `(tactic| walk_at "M enter") => `(tactic| (
  unfold Con; k_fill
  intro mean mg mb dp un gd cn cs a ccd cl outer A₀ base h₀ L m s Q E B F X T hk hd hu htok hret
  first
  | ((k_dflt (refine' enterS (L := L) ?k1 ?k2 ?k3 ?k4 ?kA ?kF ?kK ?k6 ?k7 ?k8 ?k9 ?kB hret ?_ ?c2 ?c3 ?c4 ?c5; (case kA => exact rfl); (case kF => exact rfl); (case kK => assumption); (case k1 => k_asm); (case k2 => k_asm); (case k3 => k_asm); (case k4 => k_asm); (case k6 => k_is); (case k7 => k_is); (case k8 => ktr_room); (case k9 => first | exact BindsTo.of_eq rfl | (refine' binds_K ?x1 ?x2 ?x3 ?x4 ?x5 ?x6; (case x1 => exact Frag.In.keeps X F.keep); (case x2 => exact rfl); (case x3 => k_is); (case x4 => exact rfl); (case x5 => exact rfl); (case x6 => exact rfl))); (case c5 => decide); (case kB => exact locs rfl); (case c2 => exact rfl); (case c3 => exact rfl); (case c4 => exact rfl); k_whole)); clear hret B F X T; (try (have htok := htok rfl)); intro L' h' F' N' B' X' T'; (try dsimp only); (try k_fold))
  | ((k_dflt (refine' enterSC (L := L) ?k1 ?k2 ?k3 ?k4 ?kA ?kF ?kK ?k6 ?k7 ?k8 ?k9 ?kB ?kD hret ?_ ?c2 ?c3 ?c4; (case kA => exact rfl); (case kF => exact rfl); (case kK => assumption); (case k1 => k_asm); (case k2 => k_asm); (case k3 => k_asm); (case k4 => k_asm); (case k6 => k_is); (case k7 => k_is); (case k8 => ktr_room); (case k9 => first | exact BindsTo.of_eq rfl | (refine' binds_K ?x1 ?x2 ?x3 ?x4 ?x5 ?x6; (case x1 => exact Frag.In.keeps X F.keep); (case x2 => exact rfl); (case x3 => k_is); (case x4 => exact rfl); (case x5 => exact rfl); (case x6 => exact rfl))); (case kB => exact rfl); (case kD => decide +kernel); (case c2 => exact rfl); (case c3 => exact rfl); (case c4 => exact rfl); k_whole)); clear hret B F X T; (try (have htok := htok rfl)); intro L' h' tk' cells' htk' F' N' Y' B' X' T'; k_cells Y'; (try simp only [List.cons_append, List.nil_append, List.append_nil] at N'); (try dsimp only); (try k_fold))))
local macro_rules | `(tactic| walk_at "execs cons") => `(tactic| (k_here; (refine' execs_consP ?k1 ?_; (case k1 => first | assumption | (dsimp only; omega) | omega)); intro tk9 htk9; (try dsimp only)))
local macro_rules | `(tactic| walk_at "forall") => `(tactic| ((with_reducible show (0 < Shared.toks _) → _); intro htk9; (try dsimp only at htk9)))
local macro_rules | `(tactic| walk_at "call builtin:str.replace") => `(tactic| (k_here; (with_reducible show wpAny _ _ (call (Value.builtin "str.replace") [Value.str _ _, Value.str _ _, Value.str _ _]) _ _ _); (first | refine wpAny_with_toks (n := 1) (by first | assumption | (dsimp only; omega)) (replaceP 2000 5 (by decide) (by omega) (by omega) (by omega) (by decide +kernel) (by first | omega | assumption) (Nat.le_of_eq (by rfl)) ?_) | refine wpAny_with_toks (n := 1) (by first | assumption | (dsimp only; omega)) (replaceP 2000 3 (by decide) (by omega) (by omega) (by omega) (by decide +kernel) (by first | omega | assumption) (Nat.le_of_eq (by rfl)) ?_) | refine wpAny_with_toks (n := 1) (by first | assumption | (dsimp only; omega)) (replaceP 12005 4 (by decide) (by omega) (by omega) (by omega) (by decide +kernel) (by first | omega | assumption) (Nat.le_of_eq (by rfl)) ?_) | refine wpAny_with_toks (n := 1) (by first | assumption | (dsimp only; omega)) (replaceP 60029 4 (by decide) (by omega) (by omega) (by omega) (by decide +kernel) (by first | omega | assumption) (Nat.le_of_eq (by rfl)) ?_) | refine wpAny_with_toks (n := 1) (by first | assumption | (dsimp only; omega)) (replaceP 300149 6 (by decide) (by omega) (by omega) (by omega) (by decide +kernel) (by first | omega | assumption) (Nat.le_of_eq (by rfl)) ?_)); intro t9 k9 hl9; (simp only [Nat.reduceMul, Nat.reduceAdd] at hl9)))
local macro_rules | `(tactic| walk_at "M end") => `(tactic| ((try dsimp only); (try (k_unfold; dsimp only)); refine leaveP (by assumption) ?_))
local macro_rules | `(tactic| walk_at "call builtin:str.join") => `(tactic| (k_here; (with_reducible show wpAny _ _ (call (Value.builtin "str.join") [Value.str _ _, Value.ref _]) _ _ _); (refine join_listW (News.isList (by k_asm) (by k_mem)) (show StrsAre (List.toArray _).toList _ by assumption) (by decide) (by assumption) ?_); intro t9 k9))
local macro_rules | `(tactic| walk_at "exec While Compare cons nil") => `(tactic| (k_here; refine hold ?_))
local macro_rules | `(tactic| walk_at "getMethod str") => `(tactic| (k_here; with_reducible refine meth_enc ?_))
local macro_rules | `(tactic| walk_at "call builtin:str.encode") => `(tactic| (k_here; (refine call_enc (by assumption) ?_); intro t9 k9))
local macro_rules | `(tactic| walk_at "formatField int") => `(tactic| (k_here; (refine field_02X (by first | rfl | decide +kernel) (by first | assumption | omega) ?_); intro t9 k9))
local macro_rules | `(tactic| walk_at "CompEnd") => `(tactic| first | refine compEnd_el (by k_asm) (by k_asm) (by kcj_all) (by assumption) ?_ | exact compEnd_no (by k_asm) (by k_asm) (by kcj_all) (by assumption))
local macro_rules | `(tactic| walk_at "exec For Name Name cons nil") => `(tactic| (k_here; refine hold ?_))
local macro_rules | `(tactic| walk_at "M step") => `(tactic| first | (k_unfold; (try dsimp only)) | (k_end; wrow_close) | walk1 | (dsimp only; walk1) | (leave1; walk_say "STEP leave1"; try dsimp only))
local macro_rules | `(tactic| walk_at "call builtin:list.append") => `(tactic| (k_here; (with_reducible show wpAny _ _ (call (Value.builtin _) [Value.ref _, _]) _ _ _); k_dflt (refine' append_K ?k1 ?k2 ?k3 ?_ ?z; (case k1 => k_asm); (case k2 => k_asm); (case k3 => k_upd); (case z => (first | (rw [sizeLine_eq]; omega) | (show _ ≤ 16777216; omega))); k_whole); intro h' F' N'; (try k_sweep)))
local macro_rules | `(tactic| walk_at "binaryOp Add ref ref") => `(tactic| (k_here; (with_reducible show wpAny _ _ (binaryOp _ (Value.ref _) (Value.ref _)) _ _ _); k_dflt (refine' addK ?F ?N ?a ?b ?_ ?z; (case F => k_asm); (case N => k_asm); (case a => exact News.isList (by k_asm) (by k_mem)); (case b => exact News.isList (by k_asm) (by k_mem)); (case z => ((try simp only [List.size_toArray]); rw [sizeLine_eq]; omega))); intro D' h' F' N' l1; (try k_lt l1); (try k_sweep)))
local macro_rules | `(tactic| walk_at "MH enter") => `(tactic| (
  unfold ConH; k_fill
  intro mean mg mb dp un gd cn cs a ccd cl outer A₀ base h₀ L m s Q E hH B F X T hk hd hu htok hret
  first
  | ((k_dflt (refine' enterS (L := L) ?k1 ?k2 ?k3 ?k4 ?kA ?kF ?kK ?k6 ?k7 ?k8 ?k9 ?kB hret ?_ ?c2 ?c3 ?c4 ?c5; (case kA => exact rfl); (case kF => exact rfl); (case kK => assumption); (case k1 => k_asm); (case k2 => k_asm); (case k3 => k_asm); (case k4 => k_asm); (case k6 => k_is); (case k7 => k_is); (case k8 => ktr_room); (case k9 => first | exact BindsTo.of_eq rfl | (refine' binds_K ?x1 ?x2 ?x3 ?x4 ?x5 ?x6; (case x1 => exact Frag.In.keeps X F.keep); (case x2 => exact rfl); (case x3 => k_is); (case x4 => exact rfl); (case x5 => exact rfl); (case x6 => exact rfl))); (case c5 => decide); (case kB => exact locs rfl); (case c2 => exact rfl); (case c3 => exact rfl); (case c4 => exact rfl); k_whole)); clear hret B F X T; (try (have htok := htok rfl)); intro L' h' F' N' B' X' T'; (try dsimp only); (try k_fold))
  | ((k_dflt (refine' enterSC (L := L) ?k1 ?k2 ?k3 ?k4 ?kA ?kF ?kK ?k6 ?k7 ?k8 ?k9 ?kB ?kD hret ?_ ?c2 ?c3 ?c4; (case kA => exact rfl); (case kF => exact rfl); (case kK => assumption); (case k1 => k_asm); (case k2 => k_asm); (case k3 => k_asm); (case k4 => k_asm); (case k6 => k_is); (case k7 => k_is); (case k8 => ktr_room); (case k9 => first | exact BindsTo.of_eq rfl | (refine' binds_K ?x1 ?x2 ?x3 ?x4 ?x5 ?x6; (case x1 => exact Frag.In.keeps X F.keep); (case x2 => exact rfl); (case x3 => k_is); (case x4 => exact rfl); (case x5 => exact rfl); (case x6 => exact rfl))); (case kB => exact rfl); (case kD => decide +kernel); (case c2 => exact rfl); (case c3 => exact rfl); (case c4 => exact rfl); k_whole)); clear hret B F X T; (try (have htok := htok rfl)); intro L' h' tk' cells' htk' F' N' Y' B' X' T'; k_cells Y'; (try simp only [List.cons_append, List.nil_append, List.append_nil] at N'); (try dsimp only); (try k_fold))))
local macro_rules | `(tactic| walk_at "M pad0") => `(tactic| skip)
local macro_rules | `(tactic| walk_at "M pad1") => `(tactic| skip)
local macro_rules | `(tactic| walk_at "M pad2") => `(tactic| skip)
local macro_rules | `(tactic| walk_at "M pad3") => `(tactic| skip)
local macro_rules | `(tactic| walk_at "M pad4") => `(tactic| skip)
local macro_rules | `(tactic| walk_at "M pad5") => `(tactic| skip)
local macro_rules | `(tactic| walk_at "M pad6") => `(tactic| skip)
local macro_rules | `(tactic| walk_at "M pad7") => `(tactic| skip)
local macro_rules | `(tactic| walk_at "M pad8") => `(tactic| skip)
local macro_rules | `(tactic| walk_at "M pad9") => `(tactic| skip)
local macro_rules | `(tactic| walk_at "M pad10") => `(tactic| skip)
local macro_rules | `(tactic| walk_at "M pad11") => `(tactic| skip)
theorem con_num (w : World) (sc : Addr) (vs : List Value) (ns : List Int) (p : Int) (tk : Tok) (hi : IntsAre vs ns) (hl : ns.length ≤ 63) :
    ConH w true 1 8 100 [.ref sc, .int p tk] [] (fun h => h.IsList sc vs.toArray) GotInt := by
  walk_at "MH enter"
  k_steps
  all_goals (walk_at "M end"; exact ⟨_, _, rfl⟩)
end Mine
end BodyNum
section BodyRow
open PySem PySem.W PyProof.Rows PySem.Calls
namespace Mine
local macro_rules | `(tactic| walk_at "M enter") => `(tactic| (
  unfold Con; k_fill
  intro mean mg mb dp un gd cn cs a ccd cl outer A₀ base h₀ L m s Q E B F X T hk hd hu htok hret
  first
  | ((k_dflt (refine' enterS (L := L) ?k1 ?k2 ?k3 ?k4 ?kA ?kF ?kK ?k6 ?k7 ?k8 ?k9 ?kB hret ?_ ?c2 ?c3 ?c4 ?c5; (case kA => exact rfl); (case kF => exact rfl); (case kK => assumption); (case k1 => k_asm); (case k2 => k_asm); (case k3 => k_asm); (case k4 => k_asm); (case k6 => k_is); (case k7 => k_is); (case k8 => ktr_room); (case k9 => first | exact BindsTo.of_eq rfl | (refine' binds_K ?x1 ?x2 ?x3 ?x4 ?x5 ?x6; (case x1 => exact Frag.In.keeps X F.keep); (case x2 => exact rfl); (case x3 => k_is); (case x4 => exact rfl); (case x5 => exact rfl); (case x6 => exact rfl))); (case c5 => decide); (case kB => exact locs rfl); (case c2 => exact rfl); (case c3 => exact rfl); (case c4 => exact rfl); k_whole)); clear hret B F X T; (try (have htok := htok rfl)); intro L' h' F' N' B' X' T'; (try dsimp only); (try k_fold))
  | ((k_dflt (refine' enterSC (L := L) ?k1 ?k2 ?k3 ?k4 ?kA ?kF ?kK ?k6 ?k7 ?k8 ?k9 ?kB ?kD hret ?_ ?c2 ?c3 ?c4; (case kA => exact rfl); (case kF => exact rfl); (case kK => assumption); (case k1 => k_asm); (case k2 => k_asm); (case k3 => k_asm); (case k4 => k_asm); (case k6 => k_is); (case k7 => k_is); (case k8 => ktr_room); (case k9 => first | exact BindsTo.of_eq rfl | (refine' binds_K ?x1 ?x2 ?x3 ?x4 ?x5 ?x6; (case x1 => exact Frag.In.keeps X F.keep); (case x2 => exact rfl); (case x3 => k_is); (case x4 => exact rfl); (case x5 => exact rfl); (case x6 => exact rfl))); (case kB => exact rfl); (case kD => decide +kernel); (case c2 => exact rfl); (case c3 => exact rfl); (case c4 => exact rfl); k_whole)); clear hret B F X T; (try (have htok := htok rfl)); intro L' h' tk' cells' htk' F' N' Y' B' X' T'; k_cells Y'; (try simp only [List.cons_append, List.nil_append, List.append_nil] at N'); (try dsimp only); (try k_fold))))
local macro_rules | `(tactic| walk_at "execs cons") => `(tactic| (k_here; (refine' execs_consP ?k1 ?_; (case k1 => first | assumption | (dsimp only; omega) | omega)); intro tk9 htk9; (try dsimp only)))
local macro_rules | `(tactic| walk_at "forall") => `(tactic| ((with_reducible show (0 < Shared.toks _) → _); intro htk9; (try dsimp only at htk9)))
local macro_rules | `(tactic| walk_at "call builtin:str.replace") => `(tactic| (k_here; (with_reducible show wpAny _ _ (call (Value.builtin "str.replace") [Value.str _ _, Value.str _ _, Value.str _ _]) _ _ _); (first | refine wpAny_with_toks (n := 1) (by first | assumption | (dsimp only; omega)) (replaceP 2000 5 (by decide) (by omega) (by omega) (by omega) (by decide +kernel) (by first | omega | assumption) (Nat.le_of_eq (by rfl)) ?_) | refine wpAny_with_toks (n := 1) (by first | assumption | (dsimp only; omega)) (replaceP 2000 3 (by decide) (by omega) (by omega) (by omega) (by decide +kernel) (by first | omega | assumption) (Nat.le_of_eq (by rfl)) ?_) | refine wpAny_with_toks (n := 1) (by first | assumption | (dsimp only; omega)) (replaceP 12005 4 (by decide) (by omega) (by omega) (by omega) (by decide +kernel) (by first | omega | assumption) (Nat.le_of_eq (by rfl)) ?_) | refine wpAny_with_toks (n := 1) (by first | assumption | (dsimp only; omega)) (replaceP 60029 4 (by decide) (by omega) (by omega) (by omega) (by decide +kernel) (by first | omega | assumption) (Nat.le_of_eq (by rfl)) ?_) | refine wpAny_with_toks (n := 1) (by first | assumption | (dsimp only; omega)) (replaceP 300149 6 (by decide) (by omega) (by omega) (by omega) (by decide +kernel) (by first | omega | assumption) (Nat.le_of_eq (by rfl)) ?_)); intro t9 k9 hl9; (simp only [Nat.reduceMul, Nat.reduceAdd] at hl9)))
local macro_rules | `(tactic| walk_at "M end") => `(tactic| ((try dsimp only); (try (k_unfold; dsimp only)); refine leaveP (by assumption) ?_))
local macro_rules | `(tactic| walk_at "call builtin:str.join") => `(tactic| (k_here; (with_reducible show wpAny _ _ (call (Value.builtin "str.join") [Value.str _ _, Value.ref _]) _ _ _); (refine join_listW (News.isList (by k_asm) (by k_mem)) (show StrsAre (List.toArray _).toList _ by assumption) (by decide) (by assumption) ?_); intro t9 k9))
local macro_rules | `(tactic| walk_at "exec While Compare cons nil") => `(tactic| (k_here; refine hold ?_))
local macro_rules | `(tactic| walk_at "getMethod str") => `(tactic| (k_here; with_reducible refine meth_enc ?_))
local macro_rules | `(tactic| walk_at "call builtin:str.encode") => `(tactic| (k_here; (refine call_enc (by assumption) ?_); intro t9 k9))
local macro_rules | `(tactic| walk_at "formatField int") => `(tactic| (k_here; (refine field_02X (by first | rfl | decide +kernel) (by first | assumption | omega) ?_); intro t9 k9))
local macro_rules | `(tactic| walk_at "CompEnd") => `(tactic| first | refine compEnd_el (by k_asm) (by k_asm) (by kcj_all) (by assumption) ?_ | exact compEnd_no (by k_asm) (by k_asm) (by kcj_all) (by assumption))
local macro_rules | `(tactic| walk_at "exec For Name Name cons nil") => `(tactic| (k_here; refine hold ?_))
local macro_rules | `(tactic| walk_at "M step") => `(tactic| first | (k_unfold; (try dsimp only)) | (k_end; wrow_close) | walk1 | (dsimp only; walk1) | (leave1; walk_say "STEP leave1"; try dsimp only))
local macro_rules | `(tactic| walk_at "call builtin:list.append") => `(tactic| (k_here; (with_reducible show wpAny _ _ (call (Value.builtin _) [Value.ref _, _]) _ _ _); k_dflt (refine' append_K ?k1 ?k2 ?k3 ?_ ?z; (case k1 => k_asm); (case k2 => k_asm); (case k3 => k_upd); (case z => (first | (rw [sizeLine_eq]; omega) | (show _ ≤ 16777216; omega))); k_whole); intro h' F' N'; (try k_sweep)))
local macro_rules | `(tactic| walk_at "binaryOp Add ref ref") => `(tactic| (k_here; (with_reducible show wpAny _ _ (binaryOp _ (Value.ref _) (Value.ref _)) _ _ _); k_dflt (refine' addK ?F ?N ?a ?b ?_ ?z; (case F => k_asm); (case N => k_asm); (case a => exact News.isList (by k_asm) (by k_mem)); (case b => exact News.isList (by k_asm) (by k_mem)); (case z => ((try simp only [List.size_toArray]); rw [sizeLine_eq]; omega))); intro D' h' F' N' l1; (try k_lt l1); (try k_sweep)))
local macro_rules | `(tactic| walk_at "MH enter") => `(tactic| (
  unfold ConH; k_fill
  intro mean mg mb dp un gd cn cs a ccd cl outer A₀ base h₀ L m s Q E hH B F X T hk hd hu htok hret
  first
  | ((k_dflt (refine' enterS (L := L) ?k1 ?k2 ?k3 ?k4 ?kA ?kF ?kK ?k6 ?k7 ?k8 ?k9 ?kB hret ?_ ?c2 ?c3 ?c4 ?c5; (case kA => exact rfl); (case kF => exact rfl); (case kK => assumption); (case k1 => k_asm); (case k2 => k_asm); (case k3 => k_asm); (case k4 => k_asm); (case k6 => k_is); (case k7 => k_is); (case k8 => ktr_room); (case k9 => first | exact BindsTo.of_eq rfl | (refine' binds_K ?x1 ?x2 ?x3 ?x4 ?x5 ?x6; (case x1 => exact Frag.In.keeps X F.keep); (case x2 => exact rfl); (case x3 => k_is); (case x4 => exact rfl); (case x5 => exact rfl); (case x6 => exact rfl))); (case c5 => decide); (case kB => exact locs rfl); (case c2 => exact rfl); (case c3 => exact rfl); (case c4 => exact rfl); k_whole)); clear hret B F X T; (try (have htok := htok rfl)); intro L' h' F' N' B' X' T'; (try dsimp only); (try k_fold))
  | ((k_dflt (refine' enterSC (L := L) ?k1 ?k2 ?k3 ?k4 ?kA ?kF ?kK ?k6 ?k7 ?k8 ?k9 ?kB ?kD hret ?_ ?c2 ?c3 ?c4; (case kA => exact rfl); (case kF => exact rfl); (case kK => assumption); (case k1 => k_asm); (case k2 => k_asm); (case k3 => k_asm); (case k4 => k_asm); (case k6 => k_is); (case k7 => k_is); (case k8 => ktr_room); (case k9 => first | exact BindsTo.of_eq rfl | (refine' binds_K ?x1 ?x2 ?x3 ?x4 ?x5 ?x6; (case x1 => exact Frag.In.keeps X F.keep); (case x2 => exact rfl); (case x3 => k_is); (case x4 => exact rfl); (case x5 => exact rfl); (case x6 => exact rfl))); (case kB => exact rfl); (case kD => decide +kernel); (case c2 => exact rfl); (case c3 => exact rfl); (case c4 => exact rfl); k_whole)); clear hret B F X T; (try (have htok := htok rfl)); intro L' h' tk' cells' htk' F' N' Y' B' X' T'; k_cells Y'; (try simp only [List.cons_append, List.nil_append, List.append_nil] at N'); (try dsimp only); (try k_fold))))
local macro_rules | `(tactic| walk_at "M pad0") => `(tactic| skip)
local macro_rules | `(tactic| walk_at "M pad1") => `(tactic| skip)
local macro_rules | `(tactic| walk_at "M pad2") => `(tactic| skip)
local macro_rules | `(tactic| walk_at "M pad3") => `(tactic| skip)
local macro_rules | `(tactic| walk_at "M pad4") => `(tactic| skip)
local macro_rules | `(tactic| walk_at "M pad5") => `(tactic| skip)
local macro_rules | `(tactic| walk_at "M pad6") => `(tactic| skip)
local macro_rules | `(tactic| walk_at "M pad7") => `(tactic| skip)
local macro_rules | `(tactic| walk_at "M pad8") => `(tactic| skip)
local macro_rules | `(tactic| walk_at "M pad9") => `(tactic| skip)
local macro_rules | `(tactic| walk_at "M pad10") => `(tactic| skip)
local macro_rules | `(tactic| walk_at "call ref") => `(tactic| (k_here; (with_reducible show wpAny _ _ (call (Value.ref 100) [Value.ref _, Value.int _ _] _) _ _ _); k_dflt (refine' con_useH (con_num _ _ _ _ _ _ ?kl ?km) ?k0 ?k1 ?k2 ?k3 ?k4 ?k5 ?kK ?kd ?ku ?kt ?_; (case kl => with_reducible assumption); (case km => with_reducible assumption); (case k0 => exact isList_keep (by with_reducible assumption) (Fr.keep (by k_asm))); (case k1 => k_asm); (case k2 => k_asm); (case k3 => k_asm); (case k4 => k_asm); (case k5 => k_asm); (case kK => first | exact rfl | assumption); (case kd => ktr_room); (case ku => ktr_units); (case kt => first | (intro _; assumption) | (intro _; dsimp only; omega)); k_whole); intro v9 h9 tk9 hv9 F9 N9 htk9; obtain ⟨n9, u9, e9⟩ := hv9; subst e9; (try dsimp only at htk9); (try dsimp only)))
local macro_rules | `(tactic| walk_at "CompSrc") => `(tactic| (k_here; refine hold ?_))
theorem con_row (w : World) (sc : Addr) (vs : List Value) (ns : List Int) (hi : IntsAre vs ns) (hl : ns.length ≤ 63) :
    ConH w true 3 30 105 [.ref sc] [] (fun h => h.IsList sc vs.toArray) (fun v => ∃ l, Row l ∧ ∃ tk, v = .str (S l) tk) := by
  walk_at "MH enter"
  k_steps
  rename News _ _ _ _ => N0
  unfold Hold
  have hits := strs_of N0 (xs := pieceS) (by (repeat (refine StrsAre.cons _ _ ?_)); exact .nil)
  refine src_range7 (by rfl) (by k_asm) (by k_asm) (by assumption) fun n g hn7 => ?_
  refine comp_turns (R := fun i y => ∃ x t, x ∈ pieceS ∧ y = .str x t) (fun i v I oI C oC D m₂ ys h tk E' hi hv hC hx F N off ne => ?_) ?_
  · obtain ⟨u, rfl⟩ := hv
    have off0 := off
    simp only [LCg.Off3, and_true] at off
    dsimp only
    k_steps
    exact ⟨_, _, piece_at _, rfl⟩
  · intro ys hl hy
    obtain ⟨xs, hS, hxl, hxm⟩ := strs_got ys (fun y hy' => by
      obtain ⟨i, hi, rfl⟩ := List.getElem_of_mem hy'
      exact hy i _ (List.getElem?_eq_getElem hi))
    have hw : (xs.map (·.length)).sum + xs.length ≤ 1048576 := Nat.le_trans (strs_weigh hxm) (by omega)
    k_steps
    all_goals walk_at "M end"
    obtain ⟨l, e, hr⟩ := row_cat xs (by omega) hxm
    exact ⟨l, hr, _, congrArg (Value.str · _) e⟩
end Mine
end BodyRow
section BodyAdapt
open PySem PySem.W PyProof.Rows PySem.Calls
namespace Mine
theorem pad_kc {l : List Nat} (h : ∀ c ∈ l, okc c = true) : ∀ c ∈ [32, 32] ++ spL l ++ [9], kc c = true := by
  w_top off
  intro c hc
  rcases List.mem_append.mp hc with hc | hc
  · rcases List.mem_append.mp hc with hc | hc
    · exact (by decide : ∀ c ∈ [32, 32], kc c = true) c hc
    · obtain ⟨d, hd, hc⟩ := List.mem_flatMap.mp hc
      unfold subOne at hc
      split at hc
      · exact (by decide : ∀ c ∈ [32, 10, 32], kc c = true) c hc
      · rw [List.mem_singleton.mp hc]; exact ok_kc (h d hd)
  · exact (by decide : ∀ c ∈ [9], kc c = true) c hc
theorem lw_esc1 (w : World) {l : List Nat} {t : Tok} (hx : l.length ≤ 700) : Con w true 1 8 60 [.str (S l) t] [] (fun v => ∃ tk, v = .str (S (escL true l)) tk) := con_esc1 w l t (by omega)
theorem lw_esc3 (w : World) {l : List Nat} {t : Tok} (hx : l.length ≤ 700) : Con w true 1 8 60 [.str (S l) t] [(Str.ofString "quote", .bool false)] (fun v => ∃ tk, v = .str (S (escL false l)) tk) := con_esc3 w l t (by omega)
theorem lw_esc2 (w : World) {l : List Nat} {t : Tok} (hx : l.length ≤ 700) : Con w true 1 8 60 [.str (S l) t, .bool false] [] (fun v => ∃ tk, v = .str (S (escL false l)) tk) := con_esc2 w l t (by omega)
theorem lw_lescT (w : World) {l : List Nat} {t : Tok} (hx : l.length ≤ 700) : Con w true 1 8 110 [.str (S l) t, .bool true] [] (fun v => ∃ tk, v = .str (S (escL true l)) tk) := con_lesc w l t true (by omega)
theorem lw_lescF (w : World) {l : List Nat} {t : Tok} (hx : l.length ≤ 700) : Con w true 1 8 110 [.str (S l) t, .bool false] [] (fun v => ∃ tk, v = .str (S (escL false l)) tk) := con_lesc w l t false (by omega)
theorem lw_une (w : World) {l : List Nat} {t : Tok} (hx : l.length ≤ 77) : Con w true 6 60 93 [.str (S l) t] [] (fun v => ∃ tk, v = .str (S (unL l)) tk) := con_une w l t (by omega) (Nat.le_trans (unL_len l) (by omega))
theorem lw_uneE (w : World) {l : List Nat} {t : Tok} {q : Bool} (hx : l.length ≤ 77) : Con w true 6 60 93 [.str (S (escL q l)) t] [] (fun v => ∃ tk, v = .str (S l) tk) := by
  w_top off
  have h1 := escL_len q l
  have h := con_une w (escL q l) t (by omega) (by rw [un_esc]; omega)
  rw [un_esc] at h; exact h
theorem lw_read (w : World) {l : List Nat} {t : Tok} (hx : l.length ≤ 77) : Con w true 4 40 122 [.str (S l) t] [] (fun v => ∃ tk, v = .str (S (unL l)) tk) := by
  w_top off
  have h := con_read w l t (by omega)
  rw [← un_read] at h; exact h
theorem lw_safe (w : World) {l : List Nat} {t : Tok} (hx : l.length ≤ 77) : Con w true 8 80 74 [.str (S l) t] [] (fun v => ∃ tk, v = .str (S (escL true (unL l))) tk) := con_safe w l t (by omega) (Nat.le_trans (unL_len l) (by omega))
theorem lw_safeS (w : World) {l : List Nat} {t : Tok} (hx : l.length ≤ 77) : Con w true 8 80 74 [.str (S (escL true (unL l))) t] [] (fun v => ∃ tk, v = .str (S (escL true (unL l))) tk) := by
  w_top off
  have h0 := unL_len l
  have h1 := escL_len true (unL l)
  have h := con_safe w (escL true (unL l)) t (by omega) (by rw [un_esc]; omega)
  rw [un_esc] at h; exact h
theorem lw_eurl (w : World) {l : List Nat} {t : Tok} (hr : Row l) : Con w true 8 80 67 [.str (S l) t] [] (fun v => ∃ tk, v = .str (S (quoL zU (unL l))) tk) := by
  w_top off
  have h0 := hr.1
  exact con_eurl w l t (by omega) (Nat.le_trans (unL_len l) (by omega)) (by rw [un_read]; exact readL_sur _ _ (Nat.le_refl _) (ok_sur hr.2))
theorem lw_codU (w : World) {l : List Nat} {t : Tok} {u : Tok} (hr : Row l) : Con w false 2 20 127 [.str (S (unL l)) t, .str (Str.ofString ":/?#@!$&()*+,;=%") u] [] (fun v => ∃ tk, v = .str (S (quoL zU (unL l))) tk) := by
  w_top off
  have h0 := hr.1
  have h := con_cod w (unL l) zU t u (Nat.le_trans (unL_len l) (by omega)) (by decide) (by rw [un_read]; exact readL_sur _ _ (Nat.le_refl _) (ok_sur hr.2))
  rw [cod_quo] at h
  rw [show Str.ofString ":/?#@!$&()*+,;=%" = S zU from by decide +kernel]; exact h
theorem lw_quo1 (w : World) {l : List Nat} {t : Tok} (hr : Row l) : Con w false 2 20 38 [.str (S l) t] [] (fun v => ∃ tk, v = .str (S (quoL [47] l)) tk) := con_quo1 w l t (Nat.le_trans hr.1 (by omega)) (ok_sur hr.2)
theorem lw_quo0 (w : World) {l : List Nat} {t : Tok} {u : Tok} (hr : Row l) : Con w false 2 20 38 [.str (S l) t] [(Str.ofString "safe", .str (Str.ofString "") u)] (fun v => ∃ tk, v = .str (S (quoL [] l)) tk) := by
  w_top off
  rw [show Str.ofString "" = S [] from rfl]
  exact con_quoK w l [] t u (Nat.le_trans hr.1 (by omega)) (by decide) (ok_sur hr.2)
theorem lw_cod1 (w : World) {l : List Nat} {t : Tok} {u : Tok} (hr : Row l) : Con w false 2 20 127 [.str (S l) t, .str (Str.ofString "/") u] [] (fun v => ∃ tk, v = .str (S (quoL [47] l)) tk) := by
  w_top off
  have h := con_cod w l [47] t u (Nat.le_trans hr.1 (by omega)) (by decide) (ok_sur hr.2)
  rw [cod_quo] at h
  rw [show Str.ofString "/" = S [47] from by decide +kernel]; exact h
theorem lw_cod0 (w : World) {l : List Nat} {t : Tok} {u : Tok} (hr : Row l) : Con w false 2 20 127 [.str (S l) t, .str (Str.ofString "") u] [] (fun v => ∃ tk, v = .str (S (quoL [] l)) tk) := by
  w_top off
  have h := con_cod w l [] t u (Nat.le_trans hr.1 (by omega)) (by decide) (ok_sur hr.2)
  rw [cod_quo] at h
  rw [show Str.ofString "" = S [] from rfl]; exact h
theorem lw_unq (w : World) {l : List Nat} {t : Tok} (hr : Row l) : Con w false 2 20 45 [.str (S l) t] [] (fun v => ∃ tk, v = .str (S (decS (octL l))) tk) := con_unq w l t (Nat.le_trans hr.1 (by omega)) (ok_sur hr.2)
theorem lw_unqQ1 (w : World) {l : List Nat} {t : Tok} (hr : Row l) : Con w false 2 20 45 [.str (S (quoL [47] l)) t] [] (fun v => ∃ tk, v = .str (S l) tk) := by
  w_top off
  have h0 := hr.1
  have h1 := quoL_len [47] l
  have h := con_unq w (quoL [47] l) t (by omega) (quo_sur (ok_sur hr.2))
  rw [unq_quo (by decide) hr.2] at h; exact h
theorem lw_unqQ0 (w : World) {l : List Nat} {t : Tok} (hr : Row l) : Con w false 2 20 45 [.str (S (quoL [] l)) t] [] (fun v => ∃ tk, v = .str (S l) tk) := by
  w_top off
  have h0 := hr.1
  have h1 := quoL_len [] l
  have h := con_unq w (quoL [] l) t (by omega) (quo_sur (ok_sur hr.2))
  rw [unq_quo (by decide) hr.2] at h; exact h
theorem lw_unqC (w : World) {t : Tok}  : Con w false 2 20 45 [.str (Str.ofString "%41%zz%4") t] [] (fun v => ∃ tk, v = .str (Str.ofString "A%zz%4") tk) := by
  w_top off
  have h := con_unq w [37, 52, 49, 37, 122, 122, 37, 52] t (by decide) (by decide)
  rw [unq_const] at h
  rw [show Str.ofString "%41%zz%4" = S [37, 52, 49, 37, 122, 122, 37, 52] from by decide +kernel, show Str.ofString "A%zz%4" = S [65, 37, 122, 122, 37, 52] from by decide +kernel]; exact h
theorem lw_unqE (w : World) {l : List Nat} {t : Tok} (hr : Row l) : Con w false 2 20 45 [.str (Str.ofString "%c3%a9" ++ S (quoL [47] l)) t] [] (fun v => ∃ tk, v = .str (Str.ofString "é" ++ S l) tk) := by
  w_top off
  have h0 := hr.1
  have h1 := quoL_len [47] l
  have h := con_unq w ([37, 99, 51, 37, 97, 57] ++ quoL [47] l) t (by simp; omega) (fun c hc => by
    rcases List.mem_append.mp hc with hc | hc
    · exact (by decide : ∀ c ∈ [37, 99, 51, 37, 97, 57], Str.isSurrogate c = false) c hc
    · exact quo_sur (ok_sur hr.2) c hc)
  rw [unq_acc hr.2] at h
  rw [show Str.ofString "%c3%a9" = S [37, 99, 51, 37, 97, 57] from by decide +kernel, show Str.ofString "é" = S [233] from by decide +kernel, S_append, S_append]; exact h
theorem lw_oct (w : World) {l : List Nat} {t : Tok} (hr : Row l) : Con w false 3 20 132 [.str (S l) t] [] (fun v => ∃ tk, v = .str (S (decS (octL l))) tk) := con_oct w l t (Nat.le_trans hr.1 (by omega)) (ok_sur hr.2)
theorem lw_uni (w : World) {l : List Nat} {t : Tok} (hr : Row l) : Con w true 1 8 81 [.str (S l) t] [] (fun v => ∃ tk, v = .str (S (keyL l)) tk) := by
  w_top off
  have h := con_uni w l t (Nat.le_trans hr.1 (by omega))
  rw [uni_text (fun c hc => ok_kc (hr.2 c hc))] at h; exact h
theorem lw_uniB (w : World) {l : List Nat} {t : Tok} (hr : Row l) : Con w true 1 8 81 [.str (Str.ofString "  " ++ S (spL l) ++ Str.ofString "\t") t] [] (fun v => ∃ tk, v = .str (S (keyL l)) tk) := by
  w_top off
  have h0 := hr.1
  have h1 := spL_len l
  have h := con_uni w ([32, 32] ++ spL l ++ [9]) t (by simp; omega)
  rw [uni_text (fun c hc => ?_), keyL_pad] at h
  · rw [show Str.ofString "  " = S [32, 32] from by decide +kernel, show Str.ofString "\t" = S [9] from by decide +kernel, S_append, S_append]; exact h
  · exact pad_kc hr.2 c hc
theorem lw_uniC (w : World) {l : List Nat} {t : Tok} (hr : Row l) : Con w true 1 8 81 [.str (S (keyL l)) t] [] (fun v => ∃ tk, v = .str (S (keyL l)) tk) := by
  w_top off
  have h0 := hr.1
  have h1 := keyL_len l
  have h := con_uni w (keyL l) t (by omega)
  rw [uni_text (keyL_kc fun c hc => ok_kc (hr.2 c hc)), keyL_key fun c hc => ok_kc (hr.2 c hc)] at h; exact h
end Mine
end BodyAdapt
section BodyLaw
open PySem PySem.W PyProof.Rows PySem.Calls
namespace Mine
local macro_rules | `(tactic| walk_at "M enter") => `(tactic| (
  unfold Con; k_fill
  intro mean mg mb dp un gd cn cs a ccd cl outer A₀ base h₀ L m s Q E B F X T hk hd hu htok hret
  first
  | ((k_dflt (refine' enterS (L := L) ?k1 ?k2 ?k3 ?k4 ?kA ?kF ?kK ?k6 ?k7 ?k8 ?k9 ?kB hret ?_ ?c2 ?c3 ?c4 ?c5; (case kA => exact rfl); (case kF => exact rfl); (case kK => assumption); (case k1 => k_asm); (case k2 => k_asm); (case k3 => k_asm); (case k4 => k_asm); (case k6 => k_is); (case k7 => k_is); (case k8 => ktr_room); (case k9 => first | exact BindsTo.of_eq rfl | (refine' binds_K ?x1 ?x2 ?x3 ?x4 ?x5 ?x6; (case x1 => exact Frag.In.keeps X F.keep); (case x2 => exact rfl); (case x3 => k_is); (case x4 => exact rfl); (case x5 => exact rfl); (case x6 => exact rfl))); (case c5 => decide); (case kB => exact locs rfl); (case c2 => exact rfl); (case c3 => exact rfl); (case c4 => exact rfl); k_whole)); clear hret B F X T; (try (have htok := htok rfl)); intro L' h' F' N' B' X' T'; (try dsimp only); (try k_fold))
  | ((k_dflt (refine' enterSC (L := L) ?k1 ?k2 ?k3 ?k4 ?kA ?kF ?kK ?k6 ?k7 ?k8 ?k9 ?kB ?kD hret ?_ ?c2 ?c3 ?c4; (case kA => exact rfl); (case kF => exact rfl); (case kK => assumption); (case k1 => k_asm); (case k2 => k_asm); (case k3 => k_asm); (case k4 => k_asm); (case k6 => k_is); (case k7 => k_is); (case k8 => ktr_room); (case k9 => first | exact BindsTo.of_eq rfl | (refine' binds_K ?x1 ?x2 ?x3 ?x4 ?x5 ?x6; (case x1 => exact Frag.In.keeps X F.keep); (case x2 => exact rfl); (case x3 => k_is); (case x4 => exact rfl); (case x5 => exact rfl); (case x6 => exact rfl))); (case kB => exact rfl); (case kD => decide +kernel); (case c2 => exact rfl); (case c3 => exact rfl); (case c4 => exact rfl); k_whole)); clear hret B F X T; (try (have htok := htok rfl)); intro L' h' tk' cells' htk' F' N' Y' B' X' T'; k_cells Y'; (try simp only [List.cons_append, List.nil_append, List.append_nil] at N'); (try dsimp only); (try k_fold))))
local macro_rules | `(tactic| walk_at "execs cons") => `(tactic| (k_here; (refine' execs_consP ?k1 ?_; (case k1 => first | assumption | (dsimp only; omega) | omega)); intro tk9 htk9; (try dsimp only)))
local macro_rules | `(tactic| walk_at "forall") => `(tactic| ((with_reducible show (0 < Shared.toks _) → _); intro htk9; (try dsimp only at htk9)))
local macro_rules | `(tactic| walk_at "call builtin:str.replace") => `(tactic| (k_here; (with_reducible show wpAny _ _ (call (Value.builtin "str.replace") [Value.str _ _, Value.str _ _, Value.str _ _]) _ _ _); (first | refine wpAny_with_toks (n := 1) (by first | assumption | (dsimp only; omega)) (replaceP 2000 5 (by decide) (by omega) (by omega) (by omega) (by decide +kernel) (by first | omega | assumption) (Nat.le_of_eq (by rfl)) ?_) | refine wpAny_with_toks (n := 1) (by first | assumption | (dsimp only; omega)) (replaceP 2000 3 (by decide) (by omega) (by omega) (by omega) (by decide +kernel) (by first | omega | assumption) (Nat.le_of_eq (by rfl)) ?_) | refine wpAny_with_toks (n := 1) (by first | assumption | (dsimp only; omega)) (replaceP 12005 4 (by decide) (by omega) (by omega) (by omega) (by decide +kernel) (by first | omega | assumption) (Nat.le_of_eq (by rfl)) ?_) | refine wpAny_with_toks (n := 1) (by first | assumption | (dsimp only; omega)) (replaceP 60029 4 (by decide) (by omega) (by omega) (by omega) (by decide +kernel) (by first | omega | assumption) (Nat.le_of_eq (by rfl)) ?_) | refine wpAny_with_toks (n := 1) (by first | assumption | (dsimp only; omega)) (replaceP 300149 6 (by decide) (by omega) (by omega) (by omega) (by decide +kernel) (by first | omega | assumption) (Nat.le_of_eq (by rfl)) ?_)); intro t9 k9 hl9; (simp only [Nat.reduceMul, Nat.reduceAdd] at hl9)))
local macro_rules | `(tactic| walk_at "M end") => `(tactic| ((try dsimp only); (try (k_unfold; dsimp only)); refine leaveP (by assumption) ?_))
local macro_rules | `(tactic| walk_at "call builtin:str.join") => `(tactic| (k_here; (with_reducible show wpAny _ _ (call (Value.builtin "str.join") [Value.str _ _, Value.ref _]) _ _ _); (refine join_listW (News.isList (by k_asm) (by k_mem)) (show StrsAre (List.toArray _).toList _ by assumption) (by decide) (by assumption) ?_); intro t9 k9))
local macro_rules | `(tactic| walk_at "exec While Compare cons nil") => `(tactic| (k_here; refine hold ?_))
local macro_rules | `(tactic| walk_at "getMethod str") => `(tactic| (k_here; with_reducible refine meth_enc ?_))
local macro_rules | `(tactic| walk_at "call builtin:str.encode") => `(tactic| (k_here; (refine call_enc (by assumption) ?_); intro t9 k9))
local macro_rules | `(tactic| walk_at "formatField int") => `(tactic| (k_here; (refine field_02X (by first | rfl | decide +kernel) (by first | assumption | omega) ?_); intro t9 k9))
local macro_rules | `(tactic| walk_at "CompEnd") => `(tactic| first | refine compEnd_el (by k_asm) (by k_asm) (by kcj_all) (by assumption) ?_ | exact compEnd_no (by k_asm) (by k_asm) (by kcj_all) (by assumption))
local macro_rules | `(tactic| walk_at "exec For Name Name cons nil") => `(tactic| (k_here; refine hold ?_))
local macro_rules | `(tactic| walk_at "M step") => `(tactic| first | (k_unfold; (try dsimp only)) | (k_end; wrow_close) | walk1 | (dsimp only; walk1) | (leave1; walk_say "STEP leave1"; try dsimp only))
local macro_rules | `(tactic| walk_at "call builtin:list.append") => `(tactic| (k_here; (with_reducible show wpAny _ _ (call (Value.builtin _) [Value.ref _, _]) _ _ _); k_dflt (refine' append_K ?k1 ?k2 ?k3 ?_ ?z; (case k1 => k_asm); (case k2 => k_asm); (case k3 => k_upd); (case z => (first | (rw [sizeLine_eq]; omega) | (show _ ≤ 16777216; omega))); k_whole); intro h' F' N'; (try k_sweep)))
local macro_rules | `(tactic| walk_at "binaryOp Add ref ref") => `(tactic| (k_here; (with_reducible show wpAny _ _ (binaryOp _ (Value.ref _) (Value.ref _)) _ _ _); k_dflt (refine' addK ?F ?N ?a ?b ?_ ?z; (case F => k_asm); (case N => k_asm); (case a => exact News.isList (by k_asm) (by k_mem)); (case b => exact News.isList (by k_asm) (by k_mem)); (case z => ((try simp only [List.size_toArray]); rw [sizeLine_eq]; omega))); intro D' h' F' N' l1; (try k_lt l1); (try k_sweep)))
local macro_rules | `(tactic| walk_at "call ref") => `(tactic| (k_here; (with_reducible show wpAny _ _ (call (Value.ref 60) [Value.str (S _) _] []) _ _ _); k_dflt (refine' con_useT (lw_esc1 _ ?kl) ?k1 ?k2 ?k3 ?k4 ?k5 ?kK ?kd ?ku ?kt ?_; (case kl => first | with_reducible assumption | omega); (case k1 => k_asm); (case k2 => k_asm); (case k3 => k_asm); (case k4 => k_asm); (case k5 => k_asm); (case kK => first | exact rfl | assumption); (case kd => ktr_room); (case ku => ktr_units); (case kt => first | with_reducible assumption | (dsimp only; omega)); k_whole); intro v9 h9 tk9 hv9 F9 N9 htk9; obtain ⟨u9, e9⟩ := hv9; subst e9; (try dsimp only)))
local macro_rules | `(tactic| walk_at "call ref") => `(tactic| (k_here; (with_reducible show wpAny _ _ (call (Value.ref 60) [Value.str (S _) _] _) _ _ _); k_dflt (refine' con_useT (lw_esc3 _ ?kl) ?k1 ?k2 ?k3 ?k4 ?k5 ?kK ?kd ?ku ?kt ?_; (case kl => first | with_reducible assumption | omega); (case k1 => k_asm); (case k2 => k_asm); (case k3 => k_asm); (case k4 => k_asm); (case k5 => k_asm); (case kK => first | exact rfl | assumption); (case kd => ktr_room); (case ku => ktr_units); (case kt => first | with_reducible assumption | (dsimp only; omega)); k_whole); intro v9 h9 tk9 hv9 F9 N9 htk9; obtain ⟨u9, e9⟩ := hv9; subst e9; (try dsimp only)))
local macro_rules | `(tactic| walk_at "call ref") => `(tactic| (k_here; (with_reducible show wpAny _ _ (call (Value.ref 60) [Value.str (S _) _, Value.bool false] []) _ _ _); k_dflt (refine' con_useT (lw_esc2 _ ?kl) ?k1 ?k2 ?k3 ?k4 ?k5 ?kK ?kd ?ku ?kt ?_; (case kl => first | with_reducible assumption | omega); (case k1 => k_asm); (case k2 => k_asm); (case k3 => k_asm); (case k4 => k_asm); (case k5 => k_asm); (case kK => first | exact rfl | assumption); (case kd => ktr_room); (case ku => ktr_units); (case kt => first | with_reducible assumption | (dsimp only; omega)); k_whole); intro v9 h9 tk9 hv9 F9 N9 htk9; obtain ⟨u9, e9⟩ := hv9; subst e9; (try dsimp only)))
local macro_rules | `(tactic| walk_at "call ref") => `(tactic| (k_here; (with_reducible show wpAny _ _ (call (Value.ref 110) [Value.str (S _) _, Value.bool true] []) _ _ _); k_dflt (refine' con_useT (lw_lescT _ ?kl) ?k1 ?k2 ?k3 ?k4 ?k5 ?kK ?kd ?ku ?kt ?_; (case kl => first | with_reducible assumption | omega); (case k1 => k_asm); (case k2 => k_asm); (case k3 => k_asm); (case k4 => k_asm); (case k5 => k_asm); (case kK => first | exact rfl | assumption); (case kd => ktr_room); (case ku => ktr_units); (case kt => first | with_reducible assumption | (dsimp only; omega)); k_whole); intro v9 h9 tk9 hv9 F9 N9 htk9; obtain ⟨u9, e9⟩ := hv9; subst e9; (try dsimp only)))
local macro_rules | `(tactic| walk_at "call ref") => `(tactic| (k_here; (with_reducible show wpAny _ _ (call (Value.ref 110) [Value.str (S _) _, Value.bool false] []) _ _ _); k_dflt (refine' con_useT (lw_lescF _ ?kl) ?k1 ?k2 ?k3 ?k4 ?k5 ?kK ?kd ?ku ?kt ?_; (case kl => first | with_reducible assumption | omega); (case k1 => k_asm); (case k2 => k_asm); (case k3 => k_asm); (case k4 => k_asm); (case k5 => k_asm); (case kK => first | exact rfl | assumption); (case kd => ktr_room); (case ku => ktr_units); (case kt => first | with_reducible assumption | (dsimp only; omega)); k_whole); intro v9 h9 tk9 hv9 F9 N9 htk9; obtain ⟨u9, e9⟩ := hv9; subst e9; (try dsimp only)))
local macro_rules | `(tactic| walk_at "call ref") => `(tactic| (k_here; (with_reducible show wpAny _ _ (call (Value.ref 93) [Value.str (S _) _] []) _ _ _); k_dflt (refine' con_useT (lw_une _ ?kl) ?k1 ?k2 ?k3 ?k4 ?k5 ?kK ?kd ?ku ?kt ?_; (case kl => first | with_reducible assumption | omega); (case k1 => k_asm); (case k2 => k_asm); (case k3 => k_asm); (case k4 => k_asm); (case k5 => k_asm); (case kK => first | exact rfl | assumption); (case kd => ktr_room); (case ku => ktr_units); (case kt => first | with_reducible assumption | (dsimp only; omega)); k_whole); intro v9 h9 tk9 hv9 F9 N9 htk9; obtain ⟨u9, e9⟩ := hv9; subst e9; (try dsimp only)))
local macro_rules | `(tactic| walk_at "call ref") => `(tactic| (k_here; (with_reducible show wpAny _ _ (call (Value.ref 93) [Value.str (S (escL _ _)) _] []) _ _ _); k_dflt (refine' con_useT (lw_uneE _ ?kl) ?k1 ?k2 ?k3 ?k4 ?k5 ?kK ?kd ?ku ?kt ?_; (case kl => first | with_reducible assumption | omega); (case k1 => k_asm); (case k2 => k_asm); (case k3 => k_asm); (case k4 => k_asm); (case k5 => k_asm); (case kK => first | exact rfl | assumption); (case kd => ktr_room); (case ku => ktr_units); (case kt => first | with_reducible assumption | (dsimp only; omega)); k_whole); intro v9 h9 tk9 hv9 F9 N9 htk9; obtain ⟨u9, e9⟩ := hv9; subst e9; (try dsimp only)))
local macro_rules | `(tactic| walk_at "call ref") => `(tactic| (k_here; (with_reducible show wpAny _ _ (call (Value.ref 122) [Value.str (S _) _] []) _ _ _); k_dflt (refine' con_useT (lw_read _ ?kl) ?k1 ?k2 ?k3 ?k4 ?k5 ?kK ?kd ?ku ?kt ?_; (case kl => first | with_reducible assumption | omega); (case k1 => k_asm); (case k2 => k_asm); (case k3 => k_asm); (case k4 => k_asm); (case k5 => k_asm); (case kK => first | exact rfl | assumption); (case kd => ktr_room); (case ku => ktr_units); (case kt => first | with_reducible assumption | (dsimp only; omega)); k_whole); intro v9 h9 tk9 hv9 F9 N9 htk9; obtain ⟨u9, e9⟩ := hv9; subst e9; (try dsimp only)))
local macro_rules | `(tactic| walk_at "call ref") => `(tactic| (k_here; (with_reducible show wpAny _ _ (call (Value.ref 74) [Value.str (S _) _] []) _ _ _); k_dflt (refine' con_useT (lw_safe _ ?kl) ?k1 ?k2 ?k3 ?k4 ?k5 ?kK ?kd ?ku ?kt ?_; (case kl => first | with_reducible assumption | omega); (case k1 => k_asm); (case k2 => k_asm); (case k3 => k_asm); (case k4 => k_asm); (case k5 => k_asm); (case kK => first | exact rfl | assumption); (case kd => ktr_room); (case ku => ktr_units); (case kt => first | with_reducible assumption | (dsimp only; omega)); k_whole); intro v9 h9 tk9 hv9 F9 N9 htk9; obtain ⟨u9, e9⟩ := hv9; subst e9; (try dsimp only)))
local macro_rules | `(tactic| walk_at "call ref") => `(tactic| (k_here; (with_reducible show wpAny _ _ (call (Value.ref 74) [Value.str (S (escL _ _)) _] []) _ _ _); k_dflt (refine' con_useT (lw_safeS _ ?kl) ?k1 ?k2 ?k3 ?k4 ?k5 ?kK ?kd ?ku ?kt ?_; (case kl => first | with_reducible assumption | omega); (case k1 => k_asm); (case k2 => k_asm); (case k3 => k_asm); (case k4 => k_asm); (case k5 => k_asm); (case kK => first | exact rfl | assumption); (case kd => ktr_room); (case ku => ktr_units); (case kt => first | with_reducible assumption | (dsimp only; omega)); k_whole); intro v9 h9 tk9 hv9 F9 N9 htk9; obtain ⟨u9, e9⟩ := hv9; subst e9; (try dsimp only)))
local macro_rules | `(tactic| walk_at "call ref") => `(tactic| (k_here; (with_reducible show wpAny _ _ (call (Value.ref 67) [Value.str (S _) _] []) _ _ _); k_dflt (refine' con_useT (lw_eurl _ ?kl) ?k1 ?k2 ?k3 ?k4 ?k5 ?kK ?kd ?ku ?kt ?_; (case kl => first | with_reducible assumption | omega); (case k1 => k_asm); (case k2 => k_asm); (case k3 => k_asm); (case k4 => k_asm); (case k5 => k_asm); (case kK => first | exact rfl | assumption); (case kd => ktr_room); (case ku => ktr_units); (case kt => first | with_reducible assumption | (dsimp only; omega)); k_whole); intro v9 h9 tk9 hv9 F9 N9 htk9; obtain ⟨u9, e9⟩ := hv9; subst e9; (try dsimp only)))
local macro_rules | `(tactic| walk_at "call ref") => `(tactic| (k_here; (with_reducible show wpAny _ _ (call (Value.ref 127) [Value.str (S (unL _)) _, Value.str _ _] []) _ _ _); k_dflt (refine' con_useT (lw_codU _ ?kl) ?k1 ?k2 ?k3 ?k4 ?k5 ?kK ?kd ?ku ?kt ?_; (case kl => first | with_reducible assumption | omega); (case k1 => k_asm); (case k2 => k_asm); (case k3 => k_asm); (case k4 => k_asm); (case k5 => k_asm); (case kK => first | exact rfl | assumption); (case kd => ktr_room); (case ku => ktr_units); (case kt => first | with_reducible assumption | (dsimp only; omega)); k_whole); intro v9 h9 tk9 hv9 F9 N9 htk9; obtain ⟨u9, e9⟩ := hv9; subst e9; (try dsimp only)))
local macro_rules | `(tactic| walk_at "call ref") => `(tactic| (k_here; (with_reducible show wpAny _ _ (call (Value.ref 38) [Value.str (S _) _] []) _ _ _); k_dflt (refine' con_useT (lw_quo1 _ ?kl) ?k1 ?k2 ?k3 ?k4 ?k5 ?kK ?kd ?ku ?kt ?_; (case kl => first | with_reducible assumption | omega); (case k1 => k_asm); (case k2 => k_asm); (case k3 => k_asm); (case k4 => k_asm); (case k5 => k_asm); (case kK => first | exact rfl | assumption); (case kd => ktr_room); (case ku => ktr_units); (case kt => first | with_reducible assumption | (dsimp only; omega)); k_whole); intro v9 h9 tk9 hv9 F9 N9 htk9; obtain ⟨u9, e9⟩ := hv9; subst e9; (try dsimp only)))
local macro_rules | `(tactic| walk_at "call ref") => `(tactic| (k_here; (with_reducible show wpAny _ _ (call (Value.ref 38) [Value.str (S _) _] _) _ _ _); k_dflt (refine' con_useT (lw_quo0 _ ?kl) ?k1 ?k2 ?k3 ?k4 ?k5 ?kK ?kd ?ku ?kt ?_; (case kl => first | with_reducible assumption | omega); (case k1 => k_asm); (case k2 => k_asm); (case k3 => k_asm); (case k4 => k_asm); (case k5 => k_asm); (case kK => first | exact rfl | assumption); (case kd => ktr_room); (case ku => ktr_units); (case kt => first | with_reducible assumption | (dsimp only; omega)); k_whole); intro v9 h9 tk9 hv9 F9 N9 htk9; obtain ⟨u9, e9⟩ := hv9; subst e9; (try dsimp only)))
local macro_rules | `(tactic| walk_at "call ref") => `(tactic| (k_here; (with_reducible show wpAny _ _ (call (Value.ref 127) [Value.str (S _) _, Value.str (Str.ofString "/") _] []) _ _ _); k_dflt (refine' con_useT (lw_cod1 _ ?kl) ?k1 ?k2 ?k3 ?k4 ?k5 ?kK ?kd ?ku ?kt ?_; (case kl => first | with_reducible assumption | omega); (case k1 => k_asm); (case k2 => k_asm); (case k3 => k_asm); (case k4 => k_asm); (case k5 => k_asm); (case kK => first | exact rfl | assumption); (case kd => ktr_room); (case ku => ktr_units); (case kt => first | with_reducible assumption | (dsimp only; omega)); k_whole); intro v9 h9 tk9 hv9 F9 N9 htk9; obtain ⟨u9, e9⟩ := hv9; subst e9; (try dsimp only)))
local macro_rules | `(tactic| walk_at "call ref") => `(tactic| (k_here; (with_reducible show wpAny _ _ (call (Value.ref 127) [Value.str (S _) _, Value.str (Str.ofString "") _] []) _ _ _); k_dflt (refine' con_useT (lw_cod0 _ ?kl) ?k1 ?k2 ?k3 ?k4 ?k5 ?kK ?kd ?ku ?kt ?_; (case kl => first | with_reducible assumption | omega); (case k1 => k_asm); (case k2 => k_asm); (case k3 => k_asm); (case k4 => k_asm); (case k5 => k_asm); (case kK => first | exact rfl | assumption); (case kd => ktr_room); (case ku => ktr_units); (case kt => first | with_reducible assumption | (dsimp only; omega)); k_whole); intro v9 h9 tk9 hv9 F9 N9 htk9; obtain ⟨u9, e9⟩ := hv9; subst e9; (try dsimp only)))
local macro_rules | `(tactic| walk_at "call ref") => `(tactic| (k_here; (with_reducible show wpAny _ _ (call (Value.ref 45) [Value.str (S _) _] []) _ _ _); k_dflt (refine' con_useT (lw_unq _ ?kl) ?k1 ?k2 ?k3 ?k4 ?k5 ?kK ?kd ?ku ?kt ?_; (case kl => first | with_reducible assumption | omega); (case k1 => k_asm); (case k2 => k_asm); (case k3 => k_asm); (case k4 => k_asm); (case k5 => k_asm); (case kK => first | exact rfl | assumption); (case kd => ktr_room); (case ku => ktr_units); (case kt => first | with_reducible assumption | (dsimp only; omega)); k_whole); intro v9 h9 tk9 hv9 F9 N9 htk9; obtain ⟨u9, e9⟩ := hv9; subst e9; (try dsimp only)))
local macro_rules | `(tactic| walk_at "call ref") => `(tactic| (k_here; (with_reducible show wpAny _ _ (call (Value.ref 45) [Value.str (S (quoL [47] _)) _] []) _ _ _); k_dflt (refine' con_useT (lw_unqQ1 _ ?kl) ?k1 ?k2 ?k3 ?k4 ?k5 ?kK ?kd ?ku ?kt ?_; (case kl => first | with_reducible assumption | omega); (case k1 => k_asm); (case k2 => k_asm); (case k3 => k_asm); (case k4 => k_asm); (case k5 => k_asm); (case kK => first | exact rfl | assumption); (case kd => ktr_room); (case ku => ktr_units); (case kt => first | with_reducible assumption | (dsimp only; omega)); k_whole); intro v9 h9 tk9 hv9 F9 N9 htk9; obtain ⟨u9, e9⟩ := hv9; subst e9; (try dsimp only)))
local macro_rules | `(tactic| walk_at "call ref") => `(tactic| (k_here; (with_reducible show wpAny _ _ (call (Value.ref 45) [Value.str (S (quoL [] _)) _] []) _ _ _); k_dflt (refine' con_useT (lw_unqQ0 _ ?kl) ?k1 ?k2 ?k3 ?k4 ?k5 ?kK ?kd ?ku ?kt ?_; (case kl => first | with_reducible assumption | omega); (case k1 => k_asm); (case k2 => k_asm); (case k3 => k_asm); (case k4 => k_asm); (case k5 => k_asm); (case kK => first | exact rfl | assumption); (case kd => ktr_room); (case ku => ktr_units); (case kt => first | with_reducible assumption | (dsimp only; omega)); k_whole); intro v9 h9 tk9 hv9 F9 N9 htk9; obtain ⟨u9, e9⟩ := hv9; subst e9; (try dsimp only)))
local macro_rules | `(tactic| walk_at "call ref") => `(tactic| (k_here; (with_reducible show wpAny _ _ (call (Value.ref 45) [Value.str (Str.ofString _) _] []) _ _ _); k_dflt (refine' con_useT (lw_unqC _) ?k1 ?k2 ?k3 ?k4 ?k5 ?kK ?kd ?ku ?kt ?_; (case k1 => k_asm); (case k2 => k_asm); (case k3 => k_asm); (case k4 => k_asm); (case k5 => k_asm); (case kK => first | exact rfl | assumption); (case kd => ktr_room); (case ku => ktr_units); (case kt => first | with_reducible assumption | (dsimp only; omega)); k_whole); intro v9 h9 tk9 hv9 F9 N9 htk9; obtain ⟨u9, e9⟩ := hv9; subst e9; (try dsimp only)))
local macro_rules | `(tactic| walk_at "call ref") => `(tactic| (k_here; (with_reducible show wpAny _ _ (call (Value.ref 45) [Value.str (Str.ofString _ ++ _) _] []) _ _ _); k_dflt (refine' con_useT (lw_unqE _ ?kl) ?k1 ?k2 ?k3 ?k4 ?k5 ?kK ?kd ?ku ?kt ?_; (case kl => first | with_reducible assumption | omega); (case k1 => k_asm); (case k2 => k_asm); (case k3 => k_asm); (case k4 => k_asm); (case k5 => k_asm); (case kK => first | exact rfl | assumption); (case kd => ktr_room); (case ku => ktr_units); (case kt => first | with_reducible assumption | (dsimp only; omega)); k_whole); intro v9 h9 tk9 hv9 F9 N9 htk9; obtain ⟨u9, e9⟩ := hv9; subst e9; (try dsimp only)))
local macro_rules | `(tactic| walk_at "call ref") => `(tactic| (k_here; (with_reducible show wpAny _ _ (call (Value.ref 132) [Value.str (S _) _] []) _ _ _); k_dflt (refine' con_useT (lw_oct _ ?kl) ?k1 ?k2 ?k3 ?k4 ?k5 ?kK ?kd ?ku ?kt ?_; (case kl => first | with_reducible assumption | omega); (case k1 => k_asm); (case k2 => k_asm); (case k3 => k_asm); (case k4 => k_asm); (case k5 => k_asm); (case kK => first | exact rfl | assumption); (case kd => ktr_room); (case ku => ktr_units); (case kt => first | with_reducible assumption | (dsimp only; omega)); k_whole); intro v9 h9 tk9 hv9 F9 N9 htk9; obtain ⟨u9, e9⟩ := hv9; subst e9; (try dsimp only)))
local macro_rules | `(tactic| walk_at "call ref") => `(tactic| (k_here; (with_reducible show wpAny _ _ (call (Value.ref 81) [Value.str (S _) _] []) _ _ _); k_dflt (refine' con_useT (lw_uni _ ?kl) ?k1 ?k2 ?k3 ?k4 ?k5 ?kK ?kd ?ku ?kt ?_; (case kl => first | with_reducible assumption | omega); (case k1 => k_asm); (case k2 => k_asm); (case k3 => k_asm); (case k4 => k_asm); (case k5 => k_asm); (case kK => first | exact rfl | assumption); (case kd => ktr_room); (case ku => ktr_units); (case kt => first | with_reducible assumption | (dsimp only; omega)); k_whole); intro v9 h9 tk9 hv9 F9 N9 htk9; obtain ⟨u9, e9⟩ := hv9; subst e9; (try dsimp only)))
local macro_rules | `(tactic| walk_at "call ref") => `(tactic| (k_here; (with_reducible show wpAny _ _ (call (Value.ref 81) [Value.str (_ ++ _ ++ _) _] []) _ _ _); k_dflt (refine' con_useT (lw_uniB _ ?kl) ?k1 ?k2 ?k3 ?k4 ?k5 ?kK ?kd ?ku ?kt ?_; (case kl => first | with_reducible assumption | omega); (case k1 => k_asm); (case k2 => k_asm); (case k3 => k_asm); (case k4 => k_asm); (case k5 => k_asm); (case kK => first | exact rfl | assumption); (case kd => ktr_room); (case ku => ktr_units); (case kt => first | with_reducible assumption | (dsimp only; omega)); k_whole); intro v9 h9 tk9 hv9 F9 N9 htk9; obtain ⟨u9, e9⟩ := hv9; subst e9; (try dsimp only)))
local macro_rules | `(tactic| walk_at "call ref") => `(tactic| (k_here; (with_reducible show wpAny _ _ (call (Value.ref 81) [Value.str (S (keyL _)) _] []) _ _ _); k_dflt (refine' con_useT (lw_uniC _ ?kl) ?k1 ?k2 ?k3 ?k4 ?k5 ?kK ?kd ?ku ?kt ?_; (case kl => first | with_reducible assumption | omega); (case k1 => k_asm); (case k2 => k_asm); (case k3 => k_asm); (case k4 => k_asm); (case k5 => k_asm); (case kK => first | exact rfl | assumption); (case kd => ktr_room); (case ku => ktr_units); (case kt => first | with_reducible assumption | (dsimp only; omega)); k_whole); intro v9 h9 tk9 hv9 F9 N9 htk9; obtain ⟨u9, e9⟩ := hv9; subst e9; (try dsimp only)))
local macro_rules | `(tactic| walk_at "call builtin:str.replace") => `(tactic| (k_here; (first | (with_reducible refine rep_tab ?ka ?kb ?kc ?kd ?ke ?_) | (with_reducible refine rep_sp ?ka ?kb ?kc ?kd ?ke ?_)); (case ka => with_reducible assumption); (case kb => omega); (case kc => omega); (case kd => omega); (case ke => first | with_reducible assumption | (dsimp only; omega)); intro t9 k9 htk9 hl9))
local macro_rules | `(tactic| walk_at "compareOp NotEq str str") => `(tactic| (k_here; with_reducible refine ne_same ?_))
local macro_rules | `(tactic| walk_at "compareOp Eq str str") => `(tactic| (k_here; with_reducible refine eq_same ?_))
local macro_rules | `(tactic| walk_at "M sweep") => `(tactic| ((with_reducible rename Fr _ _ _ _ => F8); (with_reducible rename News _ _ _ _ => N8); revert F8 N8; (repeat ((with_reducible rename Fr _ _ _ _ => F7); clear F7)); (repeat ((with_reducible rename News _ _ _ _ => N7); clear N7)); (repeat ((with_reducible rename @LT.lt Nat _ 0 _ => T7); clear T7)); intro F8 N8))
local macro_rules | `(tactic| walk_at "execs cons") => `(tactic| (k_here; (refine' execs_consP ?k1 ?_; (case k1 => first | with_reducible assumption | (dsimp only; omega) | omega | with_unfolding_all exact Nat.succ_pos _)); (try walk_at "M sweep"); intro tk9 htk9; (try dsimp only)))
local macro_rules | `(tactic| walk_at "call ref") => `(tactic| (k_here; (with_reducible show wpAny _ _ (call (Value.ref 105) [Value.ref _] _) _ _ _); k_dflt (refine' con_useHT (con_row _ _ _ _ ?kl ?km) ?k0 ?k1 ?k2 ?k3 ?k4 ?k5 ?kK ?kd ?ku ?kt ?_; (case kl => with_reducible assumption); (case km => omega); (case k0 => exact isList_keep (by with_reducible assumption) (Fr.keep (by k_asm))); (case k1 => k_asm); (case k2 => k_asm); (case k3 => k_asm); (case k4 => k_asm); (case k5 => k_asm); (case kK => first | exact rfl | assumption); (case kd => ktr_room); (case ku => ktr_units); (case kt => first | with_reducible assumption | (dsimp only; omega)); k_whole); intro v9 h9 tk9 hv9 F9 N9 htk9; obtain ⟨l9, hr9, u9, e9⟩ := hv9; subst e9; (have hl9 := Row.len hr9); (have hm9 := Row.unlen hr9); (have hq9 := Row.qlen hr9); (have hs9 := Row.slen hr9); (try dsimp only)))
local macro_rules | `(tactic| walk_at "binaryOp Add str str") => `(tactic| (k_here; (first | (with_reducible refine pad_one ?k1 ?k2 ?_) | (with_reducible refine pad_two ?k1 ?k2 ?_) | (with_reducible refine acc_one ?k1 ?k2 ?_) | (with_reducible refine acc_two ?k1 ?k2 ?_)); (case k1 => with_reducible assumption); (case k2 => first | with_reducible assumption | (dsimp only; omega)); intro t9 k9 hk9))
local macro_rules | `(tactic| walk_at "call builtin:str.split") => `(tactic| (k_here; (refine split_law (by with_reducible assumption) (by k_asm) (by k_asm) ?_); intro D9 vs9 xs9 h9 k9 hs9 hf9 hc9 F9 N9))
local macro_rules | `(tactic| walk_at "call builtin:str.lower") => `(tactic| (k_here; (refine low_law (by with_reducible assumption) (by with_reducible assumption) ?_); intro t9 k9))
local macro_rules | `(tactic| walk_at "call builtin:str.upper") => `(tactic| (k_here; (refine up_law (by with_reducible assumption) (by with_reducible assumption) ?_); intro t9 k9))
local macro_rules | `(tactic| walk_at "call builtin:str.join") => `(tactic| (k_here; (refine join_law (News.isList (by k_asm) List.mem_cons_self) (by with_reducible assumption) (by omega) ?_); intro t9 k9))
local macro_rules | `(tactic| walk_at "exec Assign cons ListComp") => `(tactic| (k_here; k_dflt (refine LCt.Assign_ListComp_T (F₀ := by k_asm) (by rfl) (by with_unfolding_all rfl) (by with_unfolding_all rfl) (by decide) (by rfl) (by decide) (by rfl) (by rfl) (by rfl) ?_)))
local macro_rules | `(tactic| walk_at "eval ListComp") => `(tactic| (k_here; k_dflt (refine LCg.ListComp_U (F₀ := by k_asm) (by rfl) (by decide) (by rfl) (by decide) (by rfl) ?_)))
local macro_rules | `(tactic| walk_at "eval Name") => `(tactic| (k_here; (with_reducible show wpAny _ _ (eval (Expr.Name _ _) (compEnvC _ _ _ _)) _ _ _); k_dflt (refine LCgL.ld_own (by k_asm) (by k_mem) (by with_reducible assumption) (by with_reducible assumption) ?_)))
local macro_rules | `(tactic| walk_at "CompSrcT") => `(tactic| (k_here; refine hold ?_))
local macro_rules | `(tactic| walk_at "CompSrc") => `(tactic| (k_here; refine hold ?_))
local macro_rules | `(tactic| walk_at "CompEnd") => `(tactic| ((try dsimp only); (first | refine compEnd_elN ?k1 ?k2 ?k4 ?k5 ?_ | refine compEnd_noN ?k1 ?k2 ?k4 ?k5); (case k1 => with_reducible assumption); (case k2 => with_reducible assumption); (case k4 => with_reducible assumption); (case k5 => exact srcAt_of List.mem_cons_self)))
theorem law_post (ns : List Int) : PySem.Challenge.rw_ci0009_01.row.claim.post [ofPy (PyData.list (List.map PyData.int ns))] (WData.bool true) [ofPy (PyData.list (List.map PyData.int ns))] = true := by
  w_top off
  wrow_post
theorem law_holds : PySem.Challenge.rw_ci0009_01.Holds := by
  w_top off
  refine hd ?_
  k_go0
  all_goals try k_fold
  k_steps
  unfold Hold
  rename StrsAre _ _ => hs
  rename List.filter _ _ = _ => hf
  rename List.length _ ≤ 100 => hc
  rename Row _ => hr
  have hwc := words_count hr
  have hvl := strs_len hs
  rw [List.length_map] at hvl
  refine LCt.CompSrcT.ledger (by rfl) (by k_asm) (by k_asm) List.mem_cons_self (by rw [sizeLine_eq, List.size_toArray]; omega) ?_
  intro g
  refine turns_words hs (fun q => !q.isEmpty) (fun i q t I oI C oC D m₂ ys h tk E' hq hC hx F N off ne => ?_) ?_
  · have off0 := off
    simp only [LCg.Off3, and_true] at off
    dsimp only
    k_steps
    · exact ne_empty q
    · exact ⟨_, rfl⟩
  · intro ys hS
    rw [hf] at hS
    have hyl := strs_len hS
    rw [List.length_map] at hyl
    k_steps
    unfold Hold
    refine LCg.CompSrc.ledger (by rfl) (by k_asm) (by k_asm) List.mem_cons_self (by rw [sizeLine_eq, List.size_toArray]; omega) ?_
    intro g
    refine turns_map hS (fun q => q.map upc) (fun i q t I oI C oC D m₂ ys h tk E' hq hC hx F N off ne => ?_) ?_
    · have off0 := off
      simp only [LCg.Off3, and_true] at off
      obtain ⟨hqk, hql⟩ := word_ok hr hq
      dsimp only
      k_steps
      all_goals exact ⟨_, rfl⟩
    · intro zs hZ
      have hZ2 : StrsAre zs.toArray.toList _ := hZ
      repeat' (first | (k_unfold; (try dsimp only)) | walk1 | (dsimp only; walk1) | fail "no step")
      refine goodW_bool (by with_reducible assumption) (by with_reducible assumption) (raisesW_false ?_) ?_
      · wrow_none_raised
      · exact law_post _
end Mine
end BodyLaw
theorem PySem.Challenge.cw_ci0009_01_holds : PySem.Challenge.rw_ci0009_01.Holds := by
  exact Mine.law_holds
