import PyProof.Rows.All
import Wide.All
import OpenK.AllK
import Wide.FinOn
import PySem.Challenge.RW_pd0137_01
open PySem PySem.W PyProof.Rows
set_option Elab.async false
set_option maxRecDepth 100000
set_option maxHeartbeats 8000000
set_option linter.unusedVariables false
set_option linter.unusedSimpArgs false
namespace Mine
open_top hd for PySem.Challenge.rw_pd0137_01
end Mine
open PySem.Calls PySem.Spec
namespace Mine
theorem filled : (PySem.Challenge.rw_pd0137_01 = PySem.Challenge.rw_pd0137_01) ∧ hd.heap_39 = hd.heap_39 := by k_fill; exact ⟨rfl, rfl⟩
end Mine

/-! part Base -/
namespace Mine



/-- the names of the text's own top (the tables of its codes are not told of: a lambda fills one) -/
noncomputable abbrev looseG : List Str := looseW hd.view_39 [] ++ List.map (fun x => x.name) (recsOf hd.view_39) ++ List.map (fun x => x.fst) (litsOf hd.view_39) ++ List.map (fun x => x.name) (clssOf hd.view_39 (looseW hd.view_39 []))
/-- what every call may lean on: the written part and the top's facts -/
structure Gr (w : World) (mean : ExcName → Option Value) (mg mb : Str → Option Value) (h : Heap) : Prop where
  X : (hd.heap_39 w.params).In h
  T : Top topProg looseG mean mg mb h
abbrev Keep (g h : Heap) : Prop := ∀ b o, g.get? b = some o → h.get? b = some o
theorem Gr.keeps {w : World} {mean : ExcName → Option Value} {mg mb : Str → Option Value} {g h : Heap} (G : Gr w mean mg mb g) (k : Keep g h) : Gr w mean mg mb h := ⟨G.X.keeps k, G.T.keeps k⟩
theorem Keep.trans {g h i : Heap} (a : Keep g h) (b : Keep h i) : Keep g i := fun x o e => b x o (a x o e)

section
variable {prog : Program} {w : World} {A : Around} {s : Shared} {Q E : Value → Shared → Prop} {mean : ExcName → Option Value} {mg mb : Str → Option Value}
  {name qual : Str} {params : Arguments} {body : List Stmt} {scope : Scope} {dV kV doc pm cdv ct oc : Value} {an od : Option Addr} {osl : Array (Option Value)} {f : Addr} {args : List Value} {binds : List (Str × Value)}

/-- a def without cells is entered; it must not raise -/
theorem enterP (G : Gr w mean mg mb s.heap) (ho : (hd.heap_39 w.params).lookup f = some ⟨oc, od, .func (fnOf name qual params body scope dV kV doc pm an cdv ct), osl⟩) (hcd : codeIn (hd.heap_39 w.params) cdv qual = true) (hroom : A.depth < recursionLimit)
    (hbind : BindsTo s (fnOf name qual params body scope dV kV doc pm an cdv ct) ⟨args, []⟩ binds) (hloc : ∀ y ∈ binds, scope.names.lookup y.1 = some .local)
    (h : ∀ L h₁, Fr s.heap L h₁ (fun y => binds.reverse.lookup y) → News s.heap L h₁ [] →
      wpAny (model prog w) (A.deeper (envOf qual scope L f cdv)) (execs body (envOf qual scope L f cdv))
        (fun fl s' => Q (match fl with | .ret v => v | _ => .none) s') (fun _ _ => False)
        { s with heap := h₁, toks := s.toks + binds.length })
    (hco : scope.isCoroutine = false) (hgen : scope.isGenerator = false) (hk : scope.kind = .function)
    (hcell : ∀ x ∈ scope.names, x.2 ≠ .cell) : wpAny (model prog w) A (call (.ref f) args) Q E s := by
  refine wpAny_call ?_
  refine codeAny_call_def (fd := fnX name qual params body scope [] dV kV doc pm an cdv ct) (body := body) (binds := binds) hroom (G.X _ _ ho) rfl G.T.nolimit (codeRec_of G.X hcd) rfl hbind hcell hloc (fun h₁ hns hk₁ => ?_) hco hgen hk
  exact wpAny_mono (h s.heap.objs.size h₁ ⟨hns, hk₁, Nat.le_refl _⟩ News.nil) (fun fl s' hl => hl) fun _ _ y => y.elim
end
end Mine

/-! part Base2 -/
namespace Mine
abbrev ar (dp un : Nat) (fr : Option (List Env)) (gd : Option (List Code)) : Around := { handled := none, depth := dp, frames := fr, guards := gd, units := un }
/-- a tree that looks about, makes one object and is done -/
theorem wp_makes {α : Type} {K : Frag} {M : Model} {A : Around} {E : Value → Shared → Prop} {Q : α → Shared → Prop} {s : Shared} {o : Obj} {r : Addr → α} (X : K.In s.heap)
    (q : Q (r s.heap.objs.size) { s with heap := s.heap.push o }) (t : Sem α) (g : Addr → Option α) (e : peek1 K ⟨M.prog, M.w.params⟩ t = some (o, g)) (hg : ∀ D, g D = some (r D)) : wpAny M A t Q E s := by
  induction t with
  | rule _ k ih => exact fun Γ p hΓ => ih () e Γ p hΓ
  | point _ k ih => exact fun Γ p hΓ => ih () e Γ p hΓ
  | ask k ih => exact fun Γ p hΓ => ih _ e Γ p hΓ
  | load a _ k ih =>
    simp only [peek1] at e
    cases ho : K.lookup a with
    | none => rw [ho] at e; cases e
    | some ob => rw [ho] at e; exact fun Γ p hΓ => ⟨ob, X _ _ ho, ih ob e Γ p hΓ⟩
  | alloc ob k _ =>
    have e' : (ob, fun D => peek K ⟨M.prog, M.w.params⟩ (k D)) = (o, g) := Option.some.inj e
    obtain ⟨rfl, rfl⟩ := Prod.mk.inj e'
    show wpAny M A (alloc ob >>= k) Q E s
    exact wpAny_bind (wpAny_alloc ((Looks.of_peek (M := M) (X.keeps fun b x hb => Heap.get?_push_of_some _ hb) (hg s.heap.objs.size)).here (s := { s with heap := s.heap.push ob }) q))
  | _ => cases e

section
variable {prog : Program} {w : World} {A : Around} {s : Shared} {Q E : Value → Shared → Prop} {mean : ExcName → Option Value} {mg mb : Str → Option Value}
  {name qual : Str} {params : Arguments} {body : List Stmt} {scope : Scope} {dV kV doc pm cdv ct oc : Value} {an od : Option Addr} {osl : Array (Option Value)} {f : Addr} {args : List Value}

/-- a def with a starred parameter is entered; it must not raise -/
theorem enterR {vs : List Value} {g₁ : Addr → Option (List (Str × Value))} {binds : Addr → List (Str × Value)}
    (G : Gr w mean mg mb s.heap) (ho : (hd.heap_39 w.params).lookup f = some ⟨oc, od, .func (fnOf name qual params body scope dV kV doc pm an cdv ct), osl⟩) (hcd : codeIn (hd.heap_39 w.params) cdv qual = true) (hroom : A.depth < recursionLimit)
    (hp : peek1 (hd.heap_39 w.params) ⟨prog, w.params⟩ (bindArgs (fnOf name qual params body scope dV kV doc pm an cdv ct) ⟨args, []⟩) = some (({ cls := .type "tuple", data := .seq vs.toArray } : Obj), g₁))
    (hg : ∀ D, g₁ D = some (binds D)) (hloc : ∀ D, ∀ y ∈ binds D, scope.names.lookup y.1 = some .local)
    (h : ∀ D L h₁, Fr s.heap L h₁ (fun y => (binds D).reverse.lookup y) → News s.heap L h₁ [(D, ({ cls := .type "tuple", data := .seq vs.toArray } : Obj))] →
      wpAny (model prog w) (A.deeper (envOf qual scope L f cdv)) (execs body (envOf qual scope L f cdv))
        (fun fl s' => Q (match fl with | .ret v => v | _ => .none) s') (fun _ _ => False)
        { s with heap := h₁, toks := s.toks + (binds D).length })
    (hco : scope.isCoroutine = false) (hgen : scope.isGenerator = false) (hk : scope.kind = .function)
    (hcell : ∀ x ∈ scope.names, x.2 ≠ .cell) : wpAny (model prog w) A (call (.ref f) args) Q E s := by
  refine wpAny_call ?_
  refine codeAny_call_function (fd := fnOf name qual params body scope dV kV doc pm an cdv ct) (body := body) hroom (G.X _ _ ho) rfl hco hgen rfl (codeRec_of G.X hcd) ?_
  refine wp_makes (o := ({ cls := .type "tuple", data := .seq vs.toArray } : Obj)) G.X (r := binds) ?_ _ g₁ hp hg
  have up : ∀ b o, s.heap.get? b = some o → (s.heap.push ({ cls := .type "tuple", data := .seq vs.toArray } : Obj)).get? b = some o := fun b o e => Heap.get?_push_of_some _ e
  refine wpAny_newFunctionEnv hcell (hloc _) (fun h₁ hns hsb => ⟨(G.T.nolimit.keeps up).fresh _ hsb, codeAny_func ?_⟩) hk
  have hk₁ : ∀ b o, (s.heap.push ({ cls := .type "tuple", data := .seq vs.toArray } : Obj)).get? b = some o → h₁.get? b = some o := fun b o e => hsb.extBut b o (Nat.ne_of_lt (Heap.lt_size e)) (Heap.get?_push_of_some _ e)
  have hsz : (s.heap.push ({ cls := .type "tuple", data := .seq vs.toArray } : Obj)).objs.size = s.heap.objs.size + 1 := Heap.size_push ..
  refine wpAny_mono (h s.heap.objs.size _ h₁ ⟨hns, fun b o e => hk₁ b o (up b o e), by show s.heap.objs.size ≤ _; rw [hsz]; exact Nat.le_succ _⟩ ?_) (fun fl s' hl => hl) fun _ _ y => y.elim
  intro p hp'
  rw [List.mem_singleton.mp hp']
  refine ⟨hk₁ _ _ (Heap.get?_push_size _ rfl), ?_, ?_⟩
  · show s.heap.objs.size ≠ _
    rw [hsz]; exact Nat.ne_of_lt (Nat.lt_succ_self _)
  · show s.heap.get? s.heap.objs.size = none
    cases e : s.heap.get? s.heap.objs.size with
    | none => rfl
    | some o => exact absurd (Heap.lt_size e) (Nat.lt_irrefl _)
end
end Mine

/-! part Base3 -/
namespace Mine
def StopHere (P : Prop) : Prop := P
theorem stop_here {P : Prop} (h : StopHere P) : P := h
abbrev lstO (vs : List Value) (n : Nat) : Obj := { cls := .type "list", data := .seq vs.toArray n }
/-- the end of one turn of a loop over a list of the call's own -/
def TurnPost (h₀ : Heap) (L I : Addr) (oI : Obj) (l : Addr) (ol : Obj) (J : (Str → Option Value) → List (Addr × Obj) → Prop) (s₁ : Shared) (Q : Flow → Shared → Prop) (f : Flow) (s₂ : Shared) : Prop :=
  match f with
  | .ret v => Q (.ret v) s₂
  | .brk => Q .next s₂
  | _ => ∃ h' tk m' nx, s₂ = { s₁ with heap := h', toks := tk } ∧ Fr h₀ L h' m' ∧ News h₀ L h' ((I, oI) :: (l, ol) :: nx) ∧ (∀ p ∈ nx, p.1 ≠ I) ∧ J m' nx
section
variable {prog : Program} {w : World} {A : Around} {E : Value → Shared → Prop} {s : Shared} {env : Env} {h₀ : Heap} {x : Str} {body : List Stmt} {Q : Flow → Shared → Prop}
theorem iter_led {l : Addr} {vs : List Value} {n : Nat} {m₀ : Str → Option Value} {news : List (Addr × Obj)} (J : Nat → (Str → Option Value) → List (Addr × Obj) → Prop)
    (hh : A.handled = none) (F : Fr h₀ env.locals s.heap m₀) (N : News h₀ env.locals s.heap ((l, lstO vs n) :: news)) (hj : J 0 m₀ news)
    (turn : ∀ i v I oI m₁ news₁ h tk, vs[i]? = some v → J i m₁ news₁ → (∀ p ∈ news₁, p.1 ≠ I) → I ≠ l → Fr h₀ env.locals h (fun y => if y = x then some v else m₁ y) → News h₀ env.locals h ((I, oI) :: (l, lstO vs n) :: news₁) →
      wpAny (model prog w) A (execs body env) (TurnPost h₀ env.locals I oI l (lstO vs n) (J (i + 1)) { s with heap := h, toks := tk } Q) E { s with heap := h, toks := tk })
    (done : ∀ m₁ news₁ h tk, J vs.length m₁ news₁ → Fr h₀ env.locals h m₁ → News h₀ env.locals h news₁ → Q .next { s with heap := h, toks := tk }) :
    wpAny (model prog w) A (pyIter (.ref l)) (fun it s₂ => LoopAtV prog w A h₀ env x body Q E it s₂) E s := by
  have hl := N (l, lstO vs n) List.mem_cons_self
  have hls : s.heap.IsList l vs.toArray := ⟨_, hl.1, rfl, n, rfl⟩
  have hlt : l < s.heap.objs.size := Heap.lt_size hl.1
  have hne : l ≠ s.heap.objs.size := Nat.ne_of_lt hlt
  refine wpAny_pyIter_list hls ?_
  have W := Walks.list (prog := prog) (w := w) hh s.heap.objs.size l hne vs.toArray
  rw [List.size_toArray] at W
  have up : ∀ b o, s.heap.get? b = some o → (s.heap.push { cls := .type "list_iterator", data := .fields #[.ref l, .int 0 0] }).get? b = some o := fun b o e => Heap.get?_push_of_some _ e
  let J' : Nat → (Str → Option Value) → List (Addr × Obj) → Prop := fun i m₁ nw => ∃ nx, nw = (l, lstO vs n) :: nx ∧ J i m₁ nx
  refine ⟨_, _, _, vs.length, _, _, m₀, (l, lstO vs n) :: news, J', rfl, W, ?_, ?_, ?_, ⟨⟨_, Heap.get?_push_size _ rfl, rfl, rfl⟩, hls.at fun o e => up _ o e⟩, F.push _, (fun p hp => ⟨up _ _ (N p hp).1, (N p hp).2⟩), ⟨news, rfl, hj⟩, ?_, ?_⟩
  · intro hm
    rcases List.mem_cons.mp hm with e | hm
    · exact absurd F.ns.lt (e ▸ Nat.lt_irrefl _)
    · exact hl.2.1 (List.mem_singleton.mp hm).symm
  · intro b hb
    rw [List.mem_singleton.mp hb]
    exact next_is_new F
  · intro p hp hI
    exact absurd (Heap.lt_size (N p hp).1) ((List.mem_singleton.mp hI) ▸ Nat.lt_irrefl _)
  · rintro i v m₁ news₁ s₁ own ⟨hh', tk', rfl⟩ hin hP ⟨nx, rfl, hJ⟩ hoff hown hget hall hst F₁ N₁
    obtain ⟨oI, heI, _⟩ := hst.1
    have hI₀ : h₀.get? s.heap.objs.size = none := next_is_new F
    have hIo : (s.heap.objs.size, oI) ∈ own := hall _ List.mem_cons_self hI₀ _ heI
    have hlN : (l, lstO vs n) ∈ own ++ (l, lstO vs n) :: nx := List.mem_append_right _ List.mem_cons_self
    have hP' : vs[i]? = some v := by simpa using hP
    have hoI : ∀ p ∈ nx, p.1 ≠ s.heap.objs.size := fun p hp e => hoff p (List.mem_cons_of_mem _ hp) (List.mem_singleton.mpr e)
    have N₂ : News h₀ env.locals hh' ((s.heap.objs.size, oI) :: (l, lstO vs n) :: nx) := fun p hp => by
      rcases List.mem_cons.mp hp with rfl | hp
      · exact N₁ _ (List.mem_append_left _ hIo)
      · exact N₁ _ (List.mem_append_right _ hp)
    refine wpAny_mono (turn i v s.heap.objs.size oI m₁ nx hh' tk' hP' hJ hoI (Ne.symm hne) F₁ N₂) (fun f s₂ p => ?_) fun _ _ e => e
    have fin : (∃ h' tk m' nx', s₂ = { s with heap := h', toks := tk } ∧ Fr h₀ env.locals h' m' ∧ News h₀ env.locals h' ((s.heap.objs.size, oI) :: (l, lstO vs n) :: nx') ∧ (∀ p ∈ nx', p.1 ≠ s.heap.objs.size) ∧ J (i + 1) m' nx') →
        LoopStepU h₀ env.locals [s.heap.objs.size] own (J' (i + 1)) { s with heap := hh', toks := tk' } .next s₂ := by
      rintro ⟨h', tk, m', nx', e, F', N', hn, hm⟩
      refine ⟨rfl, h', tk, m', (l, lstO vs n) :: nx', e, F', fun p hp => ?_, fun p hp hq => ?_, nx', rfl, hm⟩
      · rcases List.mem_append.mp hp with hp | hp
        · have h1 := hget p hp
          rcases List.mem_cons.mp (hown p hp) with h2 | h2
          · have : p = (s.heap.objs.size, oI) := by
              have h3 : hh'.get? p.1 = some p.2 := h1
              rw [h2, heI] at h3
              exact Prod.ext h2 (Option.some.inj h3).symm
            rw [this]; exact N' _ List.mem_cons_self
          · have h2 := List.mem_singleton.mp h2
            have : p = (l, lstO vs n) := by
              have h3 : hh'.get? p.1 = some p.2 := h1
              rw [h2, (N₁ _ hlN).1] at h3
              exact Prod.ext h2 (Option.some.inj h3).symm
            rw [this]; exact N' _ (List.mem_cons_of_mem _ List.mem_cons_self)
        · exact N' p (List.mem_cons_of_mem _ hp)
      · have hq := List.mem_singleton.mp hq
        rcases List.mem_cons.mp hp with rfl | hp
        · exact hne hq
        · exact hn p hp hq
    cases f with
    | ret v => exact .ret p
    | brk => exact .brk p
    | next => exact .next (fin p)
    | cont => exact .cont (fin p)
  · rintro h' tk m' news' F' N' _ ⟨nx, rfl, hJ⟩
    exact done m' nx h' tk hJ F' fun p hp => N' p (List.mem_cons_of_mem _ hp)
end
end Mine

/-! part Base4 -/
namespace Mine
/-- the end of a turn of a loop that keeps a list of texts under one name -/
def AccEnd (h₀ : Heap) (L I : Addr) (oI : Obj) (l : Addr) (ol : Obj) (x y : Str) (m₀ : Str → Option Value) (ws : List Str) (s₁ : Shared) (Q : Flow → Shared → Prop) (f : Flow) (s₂ : Shared) : Prop :=
  match f with
  | .ret v => Q (.ret v) s₂
  | .brk => Q .next s₂
  | _ => ∃ h' tk m' a us k, s₂ = { s₁ with heap := h', toks := tk } ∧ Fr h₀ L h' m' ∧ News h₀ L h' [(I, oI), (l, ol), (a, lstO us k)] ∧ (@Ne Nat a I) ∧ (@Ne Nat a l) ∧ m' y = some (.ref a) ∧ StrsAre us ws ∧ ∀ z, z ≠ x → z ≠ y → m' z = m₀ z
theorem accEnd {h₀ h' : Heap} {L I : Addr} {oI : Obj} {l : Addr} {ol : Obj} {x y : Str} {m₀ m' : Str → Option Value} {ws ws' : List Str} {s₁ : Shared} {Q : Flow → Shared → Prop} {f : Flow} {tk : Nat} {a : Addr} {us : List Value} {k : Nat} {news : List (Addr × Obj)}
    (hf : f = .next ∨ f = .cont) (F : Fr h₀ L h' m') (N : News h₀ L h' news) (h1 : (I, oI) ∈ news) (h2 : (l, ol) ∈ news) (h3 : (a, lstO us k) ∈ news) (hI : (@Ne Nat a I)) (hl : (@Ne Nat a l)) (hm : m' y = some (.ref a)) (hS : StrsAre us ws) (e : ws' = ws) (hz : ∀ z, z ≠ x → z ≠ y → m' z = m₀ z) :
    AccEnd h₀ L I oI l ol x y m₀ ws' s₁ Q f { s₁ with heap := h', toks := tk } := by
  have r : ∃ h'' tk' m' a us k, ({ s₁ with heap := h', toks := tk } : Shared) = { s₁ with heap := h'', toks := tk' } ∧ Fr h₀ L h'' m' ∧ News h₀ L h'' [(I, oI), (l, ol), (a, lstO us k)] ∧ (@Ne Nat a I) ∧ (@Ne Nat a l) ∧ m' y = some (.ref a) ∧ StrsAre us ws' ∧ ∀ z, z ≠ x → z ≠ y → m' z = m₀ z := by
    refine ⟨h', tk, m', a, us, k, rfl, F, fun p hp => ?_, hI, hl, hm, e ▸ hS, hz⟩
    rcases List.mem_cons.mp hp with rfl | hp
    · exact N _ h1
    · rcases List.mem_cons.mp hp with rfl | hp
      · exact N _ h2
      · rw [List.mem_singleton.mp hp]; exact N _ h3
  rcases hf with rfl | rfl <;> exact r
theorem take_snoc {α : Type} {l : List α} {i : Nat} {c : α} (h : l[i]? = some c) : l.take (i + 1) = l.take i ++ [c] := by
  rw [List.take_add_one, h]; rfl
/-- the weight of a list of texts -/
def wt (l : List Str) : Nat := (l.map (·.length)).sum + l.length
theorem wt_append (l r : List Str) : wt (l ++ r) = wt l + wt r := by simp only [wt, List.map_append, List.sum_append, List.length_append]; omega
theorem wt_one (c : Str) : wt [c] = c.length + 1 := by simp [wt]
theorem wt_take_le (l : List Str) (i : Nat) : wt (l.take i) ≤ wt l := by
  have := wt_append (l.take i) (l.drop i)
  rw [List.take_append_drop] at this
  omega
theorem wt_dropLast_le : ∀ (l : List Str), wt l.dropLast ≤ wt l := fun l => by rw [List.dropLast_eq_take]; exact wt_take_le _ _
section
variable {prog : Program} {w : World} {A : Around} {E : Value → Shared → Prop} {s : Shared} {env : Env} {h₀ : Heap} {x : Str} {body : List Stmt} {Q : Flow → Shared → Prop}
theorem iter_accStrs {l a₀ : Addr} {vs us₀ : List Value} {n k₀ : Nat} {m₀ : Str → Option Value} {ss ws₀ : List Str} {y : Str} (step : List Str → Str → List Str) (P : Nat → List Str → Prop)
    (hh : A.handled = none) (F : Fr h₀ env.locals s.heap m₀) (N : News h₀ env.locals s.heap [(l, lstO vs n), (a₀, lstO us₀ k₀)]) (hS : StrsAre vs ss) (hy : m₀ y = some (.ref a₀)) (hU : StrsAre us₀ ws₀) (hP : P 0 ws₀) (hal : a₀ ≠ l)
    (hst : ∀ i ws c, ss[i]? = some c → P i ws → P (i + 1) (step ws c))
    (turn : ∀ i c t a us ws k I oI h tk, ss[i]? = some c → P i ws → StrsAre us ws → (@Ne Nat a I) → (@Ne Nat I l) → (@Ne Nat a l) → Fr h₀ env.locals h (fun z => if z = x then some (.str c t) else if z = y then some (.ref a) else m₀ z) → News h₀ env.locals h [(I, oI), (l, lstO vs n), (a, lstO us k)] →
      wpAny (model prog w) A (execs body env) (AccEnd h₀ env.locals I oI l (lstO vs n) x y m₀ (step ws c) { s with heap := h, toks := tk } Q) E { s with heap := h, toks := tk })
    (done : ∀ (u : Str → Option Value) a us k h tk, StrsAre us (ss.foldl step ws₀) → P ss.length (ss.foldl step ws₀) → Fr h₀ env.locals h (fun z => if z = y then some (.ref a) else if z = x then u z else m₀ z) → News h₀ env.locals h [(a, lstO us k)] → Q .next { s with heap := h, toks := tk }) :
    wpAny (model prog w) A (pyIter (.ref l)) (fun it s₂ => LoopAtV prog w A h₀ env x body Q E it s₂) E s := by
  refine iter_led (fun i m nx => ∃ a us k, nx = [(a, lstO us k)] ∧ a ≠ l ∧ m y = some (.ref a) ∧ StrsAre us ((ss.take i).foldl step ws₀) ∧ P i ((ss.take i).foldl step ws₀) ∧ ∀ z, z ≠ x → z ≠ y → m z = m₀ z) hh F N
    ⟨a₀, us₀, k₀, rfl, hal, hy, by simpa using hU, by simpa using hP, fun _ _ _ => rfl⟩ ?_ ?_
  · rintro i v I oI m₁ nx h tk hv ⟨a, us, k, rfl, hal', hm, hu, hp, hz⟩ hoff hIl F₁ N₁
    obtain ⟨c, t, rfl, hc⟩ := StrsAre.item hS i v hv
    have e : (fun z => if z = x then some (Value.str c t) else m₁ z) = fun z => if z = x then some (Value.str c t) else if z = y then some (Value.ref a) else m₀ z := by
      funext z
      by_cases h1 : z = x
      · simp [h1]
      · simp only [if_neg h1]
        by_cases h2 : z = y
        · subst h2; simp [hm]
        · simp only [if_neg h2]; exact hz z h1 h2
    rw [e] at F₁
    refine wpAny_mono (turn i c t a us _ k I oI h tk hc hp hu (hoff (a, lstO us k) List.mem_cons_self) hIl hal' F₁ N₁) (fun f s₂ p => ?_) fun _ _ e => e
    have fin : (∃ h' tk' m' a us k, s₂ = { s with heap := h', toks := tk' } ∧ Fr h₀ env.locals h' m' ∧ News h₀ env.locals h' [(I, oI), (l, lstO vs n), (a, lstO us k)] ∧ a ≠ I ∧ a ≠ l ∧ m' y = some (.ref a) ∧ StrsAre us (step ((ss.take i).foldl step ws₀) c) ∧ ∀ z, z ≠ x → z ≠ y → m' z = m₀ z) →
        ∃ h' tk' m' nx, s₂ = { s with heap := h', toks := tk' } ∧ Fr h₀ env.locals h' m' ∧ News h₀ env.locals h' ((I, oI) :: (l, lstO vs n) :: nx) ∧ (∀ p ∈ nx, p.1 ≠ I) ∧
          ∃ a us k, nx = [(a, lstO us k)] ∧ a ≠ l ∧ m' y = some (.ref a) ∧ StrsAre us ((ss.take (i + 1)).foldl step ws₀) ∧ P (i + 1) ((ss.take (i + 1)).foldl step ws₀) ∧ ∀ z, z ≠ x → z ≠ y → m' z = m₀ z := by
      rintro ⟨h', tk', m', a, us, k, e, F', N', hn, hn2, hm', hu', hz'⟩
      have ef : (ss.take (i + 1)).foldl step ws₀ = step ((ss.take i).foldl step ws₀) c := by rw [take_snoc hc, List.foldl_append]; rfl
      exact ⟨h', tk', m', _, e, F', N', fun p hp => by rw [List.mem_singleton.mp hp]; exact hn, a, us, k, rfl, hn2, hm', by rw [ef]; exact hu', by rw [ef]; exact hst _ _ _ hc hp, hz'⟩
    cases f with
    | ret v => exact p
    | brk => exact p
    | next => exact fin p
    | cont => exact fin p
  · rintro m₁ nx h tk ⟨a, us, k, rfl, _, hm, hu, hp, hz⟩ F₁ N₁
    have hlen : vs.length = ss.length := StrsAre.length hS
    rw [hlen, List.take_length] at hu
    rw [hlen, List.take_length] at hp
    refine done m₁ a us k h tk hu hp ?_ N₁
    have e : (fun z => if z = y then some (Value.ref a) else if z = x then m₁ z else m₀ z) = m₁ := by
      funext z
      by_cases h2 : z = y
      · subst h2; simp [hm]
      · simp only [if_neg h2]
        by_cases h1 : z = x
        · simp [h1]
        · simp only [if_neg h1]; exact (hz z h1 h2).symm
    rw [e]; exact F₁
end
end Mine

/-! part Rules -/
namespace Mine
theorem strs_last {us : List Value} {ws : List Str} (h : StrsAre us ws) : ws ≠ [] → ∃ y t, us = us.dropLast ++ [Value.str y t] ∧ ws = ws.dropLast ++ [y] ∧ StrsAre us.dropLast ws.dropLast := by
  induction h with
  | nil => intro e; exact absurd rfl e
  | cons x t r ih =>
    intro _
    cases r with
    | nil => exact ⟨x, t, rfl, rfl, .nil⟩
    | cons x' t' r' =>
      obtain ⟨y, u, h1, h2, h3⟩ := ih (by simp)
      exact ⟨y, u, congrArg (List.cons (Value.str x t)) h1, congrArg (List.cons x) h2, .cons x t h3⟩
section
variable {prog : Program} {w : World} {A : Around} {E : Value → Shared → Prop} {s : Shared} {h₀ : Heap} {L a : Addr} {m : Str → Option Value} {news news' : List (Addr × Obj)} {us : List Value} {ws : List Str} {k : Nat}
theorem m_truthy {Q : Bool → Shared → Prop} (N : News h₀ L s.heap news) (hm : (a, lstO us k) ∈ news) (hS : StrsAre us ws) (hb : ws.length ≤ 4000000)
    (h1 : ws = [] → ∀ tk, Q false { s with toks := tk }) (h2 : ws ≠ [] → ∀ tk, Q true { s with toks := tk }) : wpAny (model prog w) A (truthy (.ref a)) Q E s := by
  have hl := hS.length
  refine kgr_truthy N hm rfl rfl (by omega) ?_
  cases hS with
  | nil => exact h1 rfl _
  | cons x t r => exact h2 (by simp) _
theorem m_append {v : Value} {Q : Value → Shared → Prop} (F : Fr h₀ L s.heap m) (N : News h₀ L s.heap news) (U : Upd a (lstO us k) (lstO (us ++ [v]) (k + 1)) news news') (hb : us.length ≤ 4000000)
    (h : ∀ h', Fr h₀ L h' m → News h₀ L h' news' → Q .none { s with heap := h' }) : wpAny (model prog w) A (call (.builtin "list.append") [.ref a, v]) Q E s := by
  have e : lstO (us ++ [v]) (k + 1) = listOf (us.toArray.push v) (k + 1) := by rw [List.push_toArray]
  rw [e] at U
  exact append_K F N U h (by rw [List.size_toArray]; exact Nat.le_trans hb (by rw [PySem.sizeLine_eq]; decide))
theorem m_pop {Q : Value → Shared → Prop} (F : Fr h₀ L s.heap m) (N : News h₀ L s.heap news) (U : Upd a (lstO us k) (lstO us.dropLast (k + 1)) news news') (hS : StrsAre us ws) (hne : ws ≠ []) (hb : ws.length ≤ 4000000)
    (h : ∀ h' y t, Fr h₀ L h' m → News h₀ L h' news' → ws = ws.dropLast ++ [y] → StrsAre us.dropLast ws.dropLast → Q (.str y t) { s with heap := h' }) : wpAny (model prog w) A (call (.builtin "list.pop") [.ref a]) Q E s := by
  obtain ⟨y, t, h1, h2, h3⟩ := strs_last hS hne
  have hl := hS.length
  refine kl_pop F N (its := us.toArray) (p := us.dropLast) (y := .str y t) ?_ U (by show us.toArray.toList.length ≤ _; rw [List.toList_toArray, hl]; exact Nat.le_trans hb (by rw [PySem.sizeLine_eq]; decide)) fun h' F' N' => h h' y t F' N' h2 h3
  have e := kpa_last (.str y t) us.dropLast
  rw [← h1] at e
  simpa using e
theorem m_last {value slice : Expr} {u : Tok} {Q : Value → Shared → Prop} (N : News h₀ L s.heap news) (hm : (a, lstO us k) ∈ news) (hS : StrsAre us ws) (hne : ws ≠ [])
    (h : ∀ y t, ws = ws.dropLast ++ [y] → Q (.str y t) s)
    (hs : subscripted slice false (.ref a) (.int (-1) u) = operate [.ref a, .int (-1) u] (getItem (.ref a) (.int (-1) u)) := by with_unfolding_all rfl) :
    wpAny (model prog w) A (subscriptTail value slice (.ref a) (.int (-1) u)) Q E s := by
  obtain ⟨y, t, h1, h2, h3⟩ := strs_last hS hne
  have hl : s.heap.IsList a us.toArray := ⟨_, (N _ hm).1, rfl, k, rfl⟩
  have hlen : us.length = us.dropLast.length + 1 := by conv => lhs; rw [h1]
                                                       rw [List.length_append]; rfl
  refine tail_any hl.typeIs slot_list_getitem.lookup (wpAny_getItem_list_neg hl (by decide) ?_ (by decide) (x := .str y t) ?_ (h y t h2)) hs
  · rw [List.size_toArray]; omega
  · have e : ((-1 : Int) + (us.toArray.size : Int)).toNat = us.dropLast.length := by rw [List.size_toArray]; omega
    rw [e, List.getElem?_toArray]
    generalize us.dropLast = p at h1
    rw [h1, List.getElem?_append_right (Nat.le_refl _)]
    simp
theorem join_wt (ws : List Str) : (Txt.join (Str.ofString "/") ws).length ≤ wt ws := by
  have h := StrLaws.join_length_le (Str.ofString "/") ws
  have e : Txt.join (Str.ofString "/") ws = Str.join (Str.ofString "/") ws := StrLaws.glued_eq_join _ _
  have e1 : (Str.ofString "/").length = 1 := by decide +kernel
  rw [e1, Nat.mul_one] at h
  rw [e]; exact h
theorem m_join {u : Tok} {Q : Value → Shared → Prop} (N : News h₀ L s.heap news) (hm : (a, lstO us k) ∈ news) (hS : StrsAre us ws) (hw : wt ws ≤ 4000000)
    (h : ∀ t' tk, (Txt.join (Str.ofString "/") ws).length ≤ wt ws → Q (.str (Txt.join (Str.ofString "/") ws) t') { s with toks := tk }) : wpAny (model prog w) A (call (.builtin "str.join") [.str (Str.ofString "/") u, .ref a]) Q E s := by
  have e1 : (Str.ofString "/").length = 1 := by decide +kernel
  refine join_list (items := us.toArray) ⟨_, (N _ hm).1, rfl, k, rfl⟩ (by simpa using hS) ?_ fun t' tk => h t' tk (join_wt ws)
  rw [e1, Nat.mul_one]
  exact Nat.le_trans hw (by decide)
theorem upd3 {p q : Addr × Obj} {o o' : Obj} (h1 : (@Ne Nat a p.1)) (h2 : (@Ne Nat a q.1)) : Upd a o o' [p, q, (a, o)] [p, q, (a, o')] := .tail (Ne.symm h1) (.tail (Ne.symm h2) (.head fun _ h => nomatch h))
theorem m_append3 {v : Value} {p q : Addr × Obj} {Q : Value → Shared → Prop} (F : Fr h₀ L s.heap m) (N : News h₀ L s.heap [p, q, (a, lstO us k)]) (h1 : (@Ne Nat a p.1)) (h2 : (@Ne Nat a q.1)) (hb : us.length ≤ 4000000)
    (h : ∀ h', Fr h₀ L h' m → News h₀ L h' [p, q, (a, lstO (us ++ [v]) (k + 1))] → Q .none { s with heap := h' }) : wpAny (model prog w) A (call (.builtin "list.append") [.ref a, v]) Q E s := m_append F N (upd3 h1 h2) hb h
theorem m_pop3 {p q : Addr × Obj} {Q : Value → Shared → Prop} (F : Fr h₀ L s.heap m) (N : News h₀ L s.heap [p, q, (a, lstO us k)]) (h1 : (@Ne Nat a p.1)) (h2 : (@Ne Nat a q.1)) (hS : StrsAre us ws) (hne : ws ≠ []) (hb : ws.length ≤ 4000000)
    (h : ∀ h' y t, Fr h₀ L h' m → News h₀ L h' [p, q, (a, lstO us.dropLast (k + 1))] → ws = ws.dropLast ++ [y] → StrsAre us.dropLast ws.dropLast → Q (.str y t) { s with heap := h' }) : wpAny (model prog w) A (call (.builtin "list.pop") [.ref a]) Q E s := m_pop F N (upd3 h1 h2) hS hne hb h
end
end Mine

/-! part Base5 -/
namespace Mine
section
variable {prog : Program} {w : World} {A : Around} {s : Shared} {Q E : Value → Shared → Prop} {mean : ExcName → Option Value} {mg mb : Str → Option Value}
  {name qual : Str} {params : Arguments} {body : List Stmt} {scope : Scope} {dV kV doc pm cdv ct oc : Value} {an od : Option Addr} {osl : Array (Option Value)} {f : Addr} {args : List Value} {binds : List (Str × Value)}
/-- a def with cells is entered; it must not raise -/
theorem enterC (G : Gr w mean mg mb s.heap) (ho : (hd.heap_39 w.params).lookup f = some ⟨oc, od, .func (fnOf name qual params body scope dV kV doc pm an cdv ct), osl⟩) (hcd : codeIn (hd.heap_39 w.params) cdv qual = true) (hroom : A.depth < recursionLimit)
    (hbind : BindsTo s (fnOf name qual params body scope dV kV doc pm an cdv ct) ⟨args, []⟩ binds) (hkind : (binds.all fun y => scope.names.lookup y.1 == some .local || scope.names.lookup y.1 == some .cell) = true)
    (hnd : ((cellsFrom 0 scope.names []).map (·.1)).Nodup)
    (h : ∀ L h₁ tk cells, Fr s.heap L h₁ (bindL (envOfC qual scope L f cdv).kindOf binds fun _ => none) → News s.heap L h₁ cells →
      CellsAre (bindC (envOfC qual scope L f cdv).kindOf binds fun _ => none) (cellsFrom (L + 1) scope.names []) cells →
      wpAny (model prog w) (A.deeper (envOfC qual scope L f cdv)) (execs body (envOfC qual scope L f cdv))
        (fun fl s' => Q (match fl with | .ret v => v | _ => .none) s') (fun _ _ => False)
        { s with heap := h₁, toks := tk })
    (hco : scope.isCoroutine = false) (hgen : scope.isGenerator = false) (hk : scope.kind = .function) : wpAny (model prog w) A (call (.ref f) args) Q E s := by
  refine wpAny_call ?_
  refine codeAny_call_function (fd := fnOf name qual params body scope dV kV doc pm an cdv ct) (body := body) hroom (G.X _ _ ho) rfl hco hgen rfl (codeRec_of G.X hcd) (hbind _ _ _ _ ?_)
  refine wpAny_newFunctionEnv_cells hk (kindsX hkind _) fun env' he s' x => ?_
  subst he
  refine ⟨G.T.nolimit.keeps x.toInCall.keep, codeAny_func ?_⟩
  obtain ⟨h₁, tk, rfl, _⟩ := x.done
  obtain ⟨cells, NC, Y⟩ := Cl.news (h₀ := s.heap) (Nat.le_refl _) fun n c hm => ⟨x.cell n c (lookup_of_mem_nodup (cellsFrom_names scope.names 0 (s.heap.objs.size + 1) [] [] rfl ▸ hnd) hm), x.above n c hm⟩
  exact wpAny_mono (h s.heap.objs.size h₁ tk cells ⟨x.toInCall.ns, x.toInCall.keep, Nat.le_refl _⟩ NC Y) (fun fl s' hl => hl) fun _ _ y => y.elim
end
end Mine

/-! part Base6 -/
namespace Mine
section
variable {prog : Program} {w : World} {A : Around} {h₀ : Heap} {L : Addr} {m : Str → Option Value} {env : Env} {elt : Expr} {x : Str} {scope : Scope} {cl : List (Str × Addr)} {s : Shared} {S : List (Addr × Obj) → Prop} {P : Nat → Value → Prop}
  {Fin : List Value → List (Addr × Obj) → Prop} {news : List (Addr × Obj)}
/-- a comprehension whose element is a text, told of by Pr at each turn -/
theorem comp_strs {n : Nat} (Pr : Nat → Str → Prop)
    (turn : ∀ i v I oI C oC D m₂ ys h tk (E' : Value → Shared → Prop), i < n → P i v → LCg.NsObj oC m₂ → m₂ x = some v → Fr h₀ L h m → News h₀ L h ((I, oI) :: (C, oC) :: (D, LCg.lst ys) :: news) → LCg.Off3 I C D news → ((@Ne Nat I C) ∧ (@Ne Nat I D) ∧ (@Ne Nat C D)) →
      wpAny (model prog w) A (eval elt (compEnvC scope cl C env)) (LCg.CompEnd h₀ L m { s with heap := h, toks := tk } I oI C oC D (LCg.lst ys) S (fun y news' => news' = news ∧ ∃ r t, y = .str r t ∧ Pr i r)) E' { s with heap := h, toks := tk })
    (fin : ∀ ys rs, StrsAre ys rs → rs.length = n → (∀ i r, rs[i]? = some r → Pr i r) → Fin ys news) : LCg.CompRest prog w A h₀ L m env elt x scope cl s S P Fin n 0 [] news := by
  have key : ∀ (j i : Nat) (ys : List Value) (rs : List Str), i + j = n → StrsAre ys rs → rs.length = i → (∀ i r, rs[i]? = some r → Pr i r) → LCg.CompRest prog w A h₀ L m env elt x scope cl s S P Fin j i ys news := by
    intro j
    induction j with
    | zero => exact fun i ys rs hi hy hl hp => LCg.CompRest.zero (fin ys rs hy (by omega) hp)
    | succ j ih =>
      intro i ys rs hi hy hl hp
      refine LCg.CompRest.succ ?_
      intro v I oI C oC D m₂ h tk E' hv hC hx F N off ne
      refine wpAny_mono (turn i v I oI C oC D m₂ ys h tk E' (by omega) hv hC hx F N off ne) (fun y s₂ hq => ?_) fun _ _ e => e
      obtain ⟨h', tk', nw, e, F', N', off', hS, hn, r, t, hy', hr⟩ := hq
      subst hn hy'
      refine ⟨h', tk', nw, e, F', N', off', hS, ih (i + 1) _ (rs ++ [r]) (by omega) (hy.append' (.cons _ _ .nil)) (by simp [hl]) fun k r' hk => ?_⟩
      by_cases hlt : k < rs.length
      · rw [List.getElem?_append_left hlt] at hk; exact hp k r' hk
      · rw [List.getElem?_append_right (Nat.le_of_not_lt hlt)] at hk
        have hk0 : k - rs.length = 0 := by
          cases q : k - rs.length with
          | zero => rfl
          | succ z => rw [q] at hk; simp at hk
        rw [hk0] at hk
        have : r = r' := by simpa using hk
        rw [← this, show k = i by omega]; exact hr
  exact key n 0 [] [] (by omega) .nil rfl fun i r hr => by simp at hr

/-- a comprehension with one test that keeps the item itself (a text) -/
theorem comp_filter {vs : List Value} {ss : List Str} {ct : Expr} (p : Str → Bool) (hS : StrsAre vs ss)
    (turn : ∀ c t I oI C oC D m₂ ys h tk (E' : Value → Shared → Prop), c ∈ ss → LCg.NsObj oC m₂ → m₂ x = some (.str c t) → Fr h₀ L h m → News h₀ L h ((I, oI) :: (C, oC) :: (D, LCg.lst ys) :: news) → LCg.Off3 I C D news → ((@Ne Nat I C) ∧ (@Ne Nat I D) ∧ (@Ne Nat C D)) →
      wpAny (model prog w) A (isTrue ct (compEnvC scope cl C env) (eval ct (compEnvC scope cl C env))) (fun ok s' => ok = p c ∧ if ok = true then
        wpAny (model prog w) A (eval elt (compEnvC scope cl C env)) (LCg.CompEnd h₀ L m { s with heap := h, toks := tk } I oI C oC D (LCg.lst ys) S (fun y news' => news' = news ∧ ∃ t, y = .str c t)) E' s'
        else LCg.CompEnd h₀ L m { s with heap := h, toks := tk } I oI C oC D (LCg.lst ys) S (fun _ news' => news' = news) Value.none s') E' { s with heap := h, toks := tk })
    (fin : ∀ ys, StrsAre ys (ss.filter p) → Fin ys news) : LCt.CompRestT prog w A h₀ L m env ct elt x scope cl s S (fun i v => vs.toArray[i]? = some v) Fin vs.toArray.size 0 [] news := by
  have hlen : vs.length = ss.length := hS.length
  have key : ∀ (j i : Nat) (ys : List Value), i + j = vs.length → StrsAre ys ((ss.take i).filter p) → LCt.CompRestT prog w A h₀ L m env ct elt x scope cl s S (fun i v => vs.toArray[i]? = some v) Fin j i ys news := by
    intro j
    induction j with
    | zero =>
      intro i ys hi hy
      rw [show i = ss.length by omega, List.take_length] at hy
      exact LCt.CompRestT.zero (fin ys hy)
    | succ j ih =>
      intro i ys hi hy
      refine LCt.CompRestT.succ ?_
      intro v I oI C oC D m₂ h tk E' hv hC hx F N off ne
      obtain ⟨c, t, rfl, hc⟩ := StrsAre.item hS i v (by simpa using hv)
      refine wpAny_mono (turn c t I oI C oC D m₂ ys h tk E' (List.mem_of_getElem? hc) hC hx F N off ne) (fun ok s₂ hq => ?_) fun _ _ e => e
      obtain ⟨hok, hq⟩ := hq
      cases ok with
      | true =>
        simp only [if_true] at hq ⊢
        refine wpAny_mono hq (fun y s₃ hy' => ?_) fun _ _ e => e
        obtain ⟨h', tk', nw, e, F', N', off', hS', hn, t', hy''⟩ := hy'
        subst hn hy''
        refine ⟨h', tk', nw, e, F', N', off', hS', ih (i + 1) _ (by omega) ?_⟩
        rw [take_snoc hc, List.filter_append]
        have : [c].filter p = [c] := by simp [← hok]
        rw [this]; exact hy.append' (.cons _ _ .nil)
      | false =>
        simp only [Bool.false_eq_true, if_false] at hq ⊢
        obtain ⟨h', tk', nw, e, F', N', off', hS', hn⟩ := hq
        subst hn
        refine ⟨h', tk', nw, e, F', N', off', hS', ih (i + 1) _ (by omega) ?_⟩
        rw [take_snoc hc, List.filter_append]
        have : [c].filter p = [] := by simp [← hok]
        rw [this, List.append_nil]; exact hy
  have e : vs.toArray.size = vs.length := List.size_toArray ..
  rw [e]
  exact key vs.length 0 [] (by omega) (by simpa using StrsAre.nil)
end
end Mine

/-! part Base7 -/
namespace Mine
section
variable {prog : Program} {w : World} {A : Around} {s : Shared} {Q E : Value → Shared → Prop} {mean : ExcName → Option Value} {mg mb : Str → Option Value}
  {name qual : Str} {params : Arguments} {body : List Stmt} {scope : Scope} {dV kV doc pm cdv ct oc : Value} {an od : Option Addr} {osl : Array (Option Value)} {f : Addr} {args : List Value} {binds : List (Str × Value)}
/-- a def that may change the objects of news; it must not raise -/
theorem enterH {g₀ : Heap} {news : List (Addr × Obj)} (G : Gr w mean mg mb g₀) (k₀ : Keep g₀ s.heap) (hn : ∀ p ∈ news, s.heap.get? p.1 = some p.2 ∧ g₀.get? p.1 = none)
    (ho : (hd.heap_39 w.params).lookup f = some ⟨oc, od, .func (fnOf name qual params body scope dV kV doc pm an cdv ct), osl⟩) (hcd : codeIn (hd.heap_39 w.params) cdv qual = true) (hroom : A.depth < recursionLimit)
    (hbind : BindsTo s (fnOf name qual params body scope dV kV doc pm an cdv ct) ⟨args, []⟩ binds) (hloc : ∀ y ∈ binds, scope.names.lookup y.1 = some .local)
    (h : ∀ g L h₁, Gr w mean mg mb g → (∀ b o, b ∉ news.map (·.1) → s.heap.get? b = some o → g.get? b = some o) → Keep g s.heap → Fr g L h₁ (fun y => binds.reverse.lookup y) → News g L h₁ news →
      wpAny (model prog w) (A.deeper (envOf qual scope L f cdv)) (execs body (envOf qual scope L f cdv))
        (fun fl s' => Q (match fl with | .ret v => v | _ => .none) s') (fun _ _ => False)
        { s with heap := h₁, toks := s.toks + binds.length })
    (hco : scope.isCoroutine = false) (hgen : scope.isGenerator = false) (hk : scope.kind = .function)
    (hcell : ∀ x ∈ scope.names, x.2 ≠ .cell) : wpAny (model prog w) A (call (.ref f) args) Q E s := by
  have G' : Gr w mean mg mb s.heap := G.keeps k₀
  have hide : ∀ b o, b ∉ news.map (·.1) → s.heap.get? b = some o → (hideAll s.heap (news.map (·.1))).get? b = some o := fun b o hb e => hideAll_get _ e hb
  have Gg : Gr w mean mg mb (hideAll s.heap (news.map (·.1))) := G.keeps fun b o e => hide b o (fun hb => by
    obtain ⟨p, hp, rfl⟩ := List.mem_map.mp hb
    rw [(hn p hp).2] at e; cases e) (k₀ b o e)
  refine wpAny_call ?_
  refine codeAny_call_def (fd := fnX name qual params body scope [] dV kV doc pm an cdv ct) (body := body) (binds := binds) hroom (G'.X _ _ ho) rfl G'.T.nolimit (codeRec_of G'.X hcd) rfl hbind hcell hloc (fun h₁ hns hk₁ => ?_) hco hgen hk
  refine wpAny_mono (h (hideAll s.heap (news.map (·.1))) s.heap.objs.size h₁ Gg hide (fun b o e => of_hideAll _ e) ⟨hns, fun b o e => hk₁ b o (of_hideAll _ e), Nat.le_of_eq (hideAll_size _ _)⟩ fun p hp => ?_) (fun fl s' hl => hl) fun _ _ y => y.elim
  exact ⟨hk₁ _ _ (hn p hp).1, Nat.ne_of_lt (Heap.lt_size (hn p hp).1), hideAll_none _ (List.mem_map_of_mem hp)⟩
end
end Mine

/-! part Pure4 -/
namespace Mine
/-- what unorderable_list_difference does, the items taken from behind: rs the items still to take, ys what is left of the other list, ms what was missed -/
def uld : List Str → List Str → List Str → List Str × List Str
  | [], ys, ms => (ms, ys)
  | r :: rs, ys, ms => if r ∈ ys then uld rs (ys.erase r) ms else uld rs ys (ms ++ [r])
theorem uld_filter (p : Str → Bool) : ∀ (rs ys ms : List Str), ys.Perm (rs.filter p) → uld rs ys ms = (ms ++ rs.filter (fun x => !p x), [])
  | [], ys, ms, h => by
    have : ys = [] := List.perm_nil.mp h
    subst this
    simp [uld]
  | r :: rs, ys, ms, h => by
    unfold uld
    cases hp : p r with
    | true =>
      have e : (r :: rs).filter p = r :: rs.filter p := by simp [hp]
      rw [e] at h
      have hm : r ∈ ys := h.symm.subset List.mem_cons_self
      have h2 : (ys.erase r).Perm (rs.filter p) := by
        have := h.erase r
        rwa [List.erase_cons_head] at this
      rw [if_pos hm, uld_filter p rs _ ms h2]
      simp [hp]
    | false =>
      have e : (r :: rs).filter p = rs.filter p := by simp [hp]
      rw [e] at h
      have hm : r ∉ ys := fun hm => by
        have := h.subset hm
        rw [List.mem_filter] at this
        rw [hp] at this
        exact absurd this.2 (by decide)
      rw [if_neg hm, uld_filter p rs ys (ms ++ [r]) h]
      simp [hp]
end Mine

/-! part Rules2 -/
namespace Mine
/-- the first place of a text in a list of texts, and what is left without it -/
theorem strs_erase {y : Str} : ∀ {vs : List Value} {ys : List Str}, StrsAre vs ys → y ∈ ys → ∃ j, ∃ hj : j < vs.length, isStrOf y vs[j] = true ∧ (∀ i (hi : i < vs.length), i < j → isStrOf y vs[i] = false) ∧ StrsAre (vs.eraseIdx j) (ys.erase y)
  | _, _, .nil, hm => nomatch hm
  | _, _, .cons (vs := vs) (ys := ys) x t r, hm => by
    by_cases hx : x = y
    · subst hx
      refine ⟨0, by simp, by simp [isStrOf], fun i _ hi => absurd hi (Nat.not_lt_zero _), ?_⟩
      simpa using r
    · have hm' : y ∈ ys := by
        rcases List.mem_cons.mp hm with e | h
        · exact absurd e.symm hx
        · exact h
      obtain ⟨j, hj, h1, h2, h3⟩ := strs_erase r hm'
      refine ⟨j + 1, by simp; exact hj, by simpa using h1, fun i hi hlt => ?_, ?_⟩
      · cases i with
        | zero => simp [isStrOf, hx]
        | succ i => simpa using h2 i (by simpa using hi) (Nat.lt_of_succ_lt_succ hlt)
      · have e : (x :: ys).erase y = x :: ys.erase y := List.erase_cons_tail (by simpa using hx)
        rw [e, List.eraseIdx_cons_succ]
        exact .cons x t h3
section
variable {prog : Program} {w : World} {A : Around} {E : Value → Shared → Prop} {s : Shared} {h₀ : Heap} {L a : Addr} {m : Str → Option Value} {news : List (Addr × Obj)} {vs : List Value} {ys : List Str} {k : Nat} {y : Str} {t : Tok}
theorem m_remove_no {Q : Value → Shared → Prop} (hh : A.handled = none) (N : News h₀ L s.heap news) (hm : (a, lstO vs k) ∈ news) (hS : StrsAre vs ys) (hy : y ∉ ys)
    (h : ∀ h' tk e, Heap.NewExc s.heap h' e "ValueError" → E (.ref e) { s with heap := h', toks := tk }) : wpAny (model prog w) A (call (.builtin "list.remove") [.ref a, .str y t]) Q E s := by
  refine call_meets PySem.F.slot_list_remove ⟨_, (N _ hm).1, rfl⟩ PySem.F.entry_list_remove (PySem.F.args_list_remove_2 _ _)
    (MeetsSeq.list_remove_none a vs.toArray k (.str y t) (isStrOf y) (fun v hv => eq_isStrOf y t hS v (by simpa using hv)) fun i hi => ?_) ⟨(N _ hm).1, hh, h⟩
  have e := any_isStrOf y hS
  have hno : ys.any (· == y) = false := by
    rw [List.any_eq_false]
    intro z hz hzy
    exact hy (by rw [← eq_of_beq hzy]; exact hz)
  rw [hno, List.any_eq_false] at e
  have := e vs.toArray[i] (by simp)
  simpa using this
theorem m_remove_yes {Q : Value → Shared → Prop} {news₂ : List Value → List (Addr × Obj)} (F : Fr h₀ L s.heap m) (N : News h₀ L s.heap news) (U : ∀ q, Upd a (lstO vs k) (lstO q (k + 1)) news (news₂ q)) (hS : StrsAre vs ys) (hy : y ∈ ys) (hb : ys.length < 64)
    (h : ∀ h' q, Fr h₀ L h' m → News h₀ L h' (news₂ q) → StrsAre q (ys.erase y) → Q .none { s with heap := h' }) : wpAny (model prog w) A (call (.builtin "list.remove") [.ref a, .str y t]) Q E s := by
  obtain ⟨j, hj, g1, g2, g3⟩ := strs_erase hS hy
  obtain ⟨pre, post, rfl, e2, a', b'⟩ := (U (vs.eraseIdx j)).split
  have z := N (a, lstO vs k) (List.mem_append.mpr (.inr (.head _)))
  have hl : vs.length = ys.length := hS.length
  have hz' : vs.toArray.size ≤ sizeLine := by rw [List.size_toArray, PySem.sizeLine_eq]; omega
  have N' : News h₀ L (s.heap.update a (Obj.mapSeq fun xs => xs.eraseIdxIfInBounds j)) (news₂ (vs.eraseIdx j)) := by
    rw [e2]
    refine ki_turn _ N a' b' ?_ ?_
    · apply Array.toList_inj.mp
      simp [Array.toList_eraseIdxIfInBounds]
    · have hq : (vs.eraseIdx j).toArray.size ≠ vs.toArray.size := by
        rw [List.size_toArray, List.size_toArray, List.length_eraseIdx, if_pos hj]; omega
      rw [if_neg (by simpa using hq)]
  exact call_meets PySem.F.slot_list_remove ⟨_, z.1, rfl⟩ PySem.F.entry_list_remove (PySem.F.args_list_remove_2 _ _)
    (MeetsSeq.list_remove a vs.toArray k (.str y t) (isStrOf y) (fun v hv => eq_isStrOf y t hS v (by simpa using hv)) j (by simpa using hj) (by simpa using g1) (fun i hi hlt => by simpa using g2 i (by simpa using hi) hlt) hz')
    ⟨z.1, h _ _ (F.change (Heap.SameBut.update ..) z.2.1 z.2.2) N' g3⟩
end
end Mine

/-! part Base8 -/
namespace Mine
/-- what a call that may catch an exception keeps: all but the objects of the list; those of frames up to slots -/
abbrev KeepBut (ad : List Addr) (g h : Heap) : Prop := ∀ b o, b ∉ ad → g.get? b = some o → h.get? b = some o
/-- three lists of texts of the ledger, the while's own; behind them the callers' frames -/
def Uld3 (g : Heap) (L ea aa M : Addr) (l : List Env) (frs₀ : List (Addr × Obj)) (m₀ : Str → Option Value) (x : Str) (fin : List Str × List Str) (n : Nat) (s s' : Shared) : Prop :=
  ∃ h' tk m' us vs zs k1 k2 k3 xs ys ms frs, s' = { s with heap := h', toks := tk } ∧ n = xs.length ∧ StrsAre us xs ∧ StrsAre vs ys ∧ StrsAre zs ms ∧ uld xs.reverse ys ms = fin ∧ xs.length < 64 ∧ ys.length < 64 ∧ ms.length + xs.length < 128 ∧ (∀ z, z ≠ x → m' z = m₀ z) ∧
    TI.SameUp frs₀ frs ∧ TI.Frs l frs ∧ Fr g L h' m' ∧ News g L h' ((M, lstO zs k3) :: (ea, lstO us k1) :: (aa, lstO vs k2) :: frs)
theorem Uld3.intro {g : Heap} {L ea aa M : Addr} {l : List Env} {frs₀ frs : List (Addr × Obj)} {m₀ : Str → Option Value} {x : Str} {fin : List Str × List Str} {n : Nat} {s : Shared} {h' : Heap} {tk : Nat} {m' : Str → Option Value} {us vs zs : List Value} {k1 k2 k3 : Nat} {xs ys ms : List Str} {news : List (Addr × Obj)}
    (hn : n = xs.length) (hu : StrsAre us xs) (hv : StrsAre vs ys) (hz : StrsAre zs ms) (hf : uld xs.reverse ys ms = fin) (h1 : xs.length < 64) (h2 : ys.length < 64) (h3 : ms.length + xs.length < 128) (hm : ∀ z, z ≠ x → m' z = m₀ z) (SU : TI.SameUp frs₀ frs) (Fs : TI.Frs l frs) (F : Fr g L h' m') (N : News g L h' news)
    (n1 : (M, lstO zs k3) ∈ news) (n2 : (ea, lstO us k1) ∈ news) (n3 : (aa, lstO vs k2) ∈ news) (n4 : ∀ p ∈ frs, p ∈ news) : Uld3 g L ea aa M l frs₀ m₀ x fin n s { s with heap := h', toks := tk } := by
  refine ⟨h', tk, m', us, vs, zs, k1, k2, k3, xs, ys, ms, frs, rfl, hn, hu, hv, hz, hf, h1, h2, h3, hm, SU, Fs, F, fun p hp => ?_⟩
  rcases List.mem_cons.mp hp with rfl | hp
  · exact N _ n1
  · rcases List.mem_cons.mp hp with rfl | hp
    · exact N _ n2
    · rcases List.mem_cons.mp hp with rfl | hp
      · exact N _ n3
      · exact N _ (n4 p hp)
section
variable {prog : Program} {w : World} {A : Around} {E : Value → Shared → Prop} {s : Shared} {env : Env} {g : Heap} {x : Str} {test : Expr} {body : List Stmt} {pos : Pos} {Q : Flow → Shared → Prop}
theorem while_uld {L ea aa M : Addr} {l : List Env} {frs₀ : List (Addr × Obj)} {m₀ : Str → Option Value} {fin : List Str × List Str} {n : Nat} (h0 : Uld3 g L ea aa M l frs₀ m₀ x fin n s s)
    (turn : ∀ us vs zs k1 k2 k3 xs ys ms frs (u : Str → Option Value) h' tk, StrsAre us xs → StrsAre vs ys → StrsAre zs ms → uld xs.reverse ys ms = fin → xs.length < 64 → ys.length < 64 → ms.length + xs.length < 128 → TI.SameUp frs₀ frs → TI.Frs l frs →
      (∀ p ∈ frs, p.1 ≠ M) → (∀ p ∈ frs, p.1 ≠ ea) → (∀ p ∈ frs, p.1 ≠ aa) →
      Fr g L h' (fun z => if z = x then u z else m₀ z) → News g L h' ((M, lstO zs k3) :: (ea, lstO us k1) :: (aa, lstO vs k2) :: frs) →
      wpAny (model prog w) A (isTrue test env (eval test env)) (fun b s₂ =>
        if b = true then xs ≠ [] ∧ wpAny (model prog w) A (execs body env) (fun f s₃ => match f with
            | .next | .cont => Uld3 g L ea aa M l frs₀ m₀ x fin (xs.length - 1) s s₃
            | .brk => Q .next s₃
            | .ret v => Q (.ret v) s₃) (fun _ _ => False) s₂
        else xs = [] ∧ wpAny (model prog w) A (execs [] env) (fun f s₃ => Q f s₃) (fun _ _ => False) s₂)
        (fun _ _ => False) { s with heap := h', toks := tk }) :
    wpAny (model prog w) A (exec (.While test body [] pos) env) Q E s := by
  refine wpAny_While (codeAny_whileLoop (fun n s' => Uld3 g L ea aa M l frs₀ m₀ x fin n s s') ?_ n h0)
  rintro n s' ⟨h', tk, m', us, vs, zs, k1, k2, k3, xs, ys, ms, frs, rfl, rfl, hu, hv, hz, hf, l1, l2, l3, hm, SU, Fs, F, N⟩
  have e : (fun z => if z = x then m' z else m₀ z) = m' := by
    funext z
    by_cases hzx : z = x
    · simp [hzx]
    · simp only [if_neg hzx]; exact (hm z hzx).symm
  have N3 : News g L h' ([(M, lstO zs k3), (ea, lstO us k1), (aa, lstO vs k2)] ++ frs) := N
  have ap : ∀ p ∈ [(M, lstO zs k3), (ea, lstO us k1), (aa, lstO vs k2)], ∀ q ∈ frs, q.1 ≠ p.1 := fun p hp q hq he =>
    TI.new_apart Fs N3 rfl hp (List.mem_cons_of_mem _ (he ▸ List.mem_map_of_mem hq))
  refine wpAny_mono (turn us vs zs k1 k2 k3 xs ys ms frs m' h' tk hu hv hz hf l1 l2 l3 SU Fs (ap _ List.mem_cons_self) (ap _ (List.mem_cons_of_mem _ List.mem_cons_self)) (ap _ (List.mem_cons_of_mem _ (List.mem_cons_of_mem _ List.mem_cons_self))) (by rw [e]; exact F) N) (fun b s₂ hb => ?_) fun _ _ q => q.elim
  cases b with
  | true =>
    simp only [if_true] at hb ⊢
    refine wpAny_mono hb.2 (fun f s₃ hf3 => ?_) fun _ _ q => q.elim
    have hpos : 0 < xs.length := List.length_pos_iff.mpr hb.1
    cases f with
    | next => exact ⟨xs.length - 1, by omega, hf3⟩
    | cont => exact ⟨xs.length - 1, by omega, hf3⟩
    | brk => exact hf3
    | ret v => exact hf3
  | false =>
    simp only [Bool.false_eq_true, if_false] at hb ⊢
    exact wpAny_mono hb.2 (fun _ _ q => q) fun _ _ q => q.elim
/-- a frame hidden in the ledger, and what it is for its own def -/
theorem updM {M ea aa : Addr} {o o' p q : Obj} {r : List (Addr × Obj)} (h1 : @Ne Nat M ea) (h2 : @Ne Nat M aa) (h3 : ∀ p ∈ r, p.1 ≠ M) : Upd M o o' ((M, o) :: (ea, p) :: (aa, q) :: r) ((M, o') :: (ea, p) :: (aa, q) :: r) :=
  .head fun z hz => by
    rcases List.mem_cons.mp hz with rfl | hz
    · exact Ne.symm h1
    · rcases List.mem_cons.mp hz with rfl | hz
      · exact Ne.symm h2
      · exact h3 z hz
theorem updE {M ea aa : Addr} {o o' p q : Obj} {r : List (Addr × Obj)} (h1 : @Ne Nat M ea) (h2 : @Ne Nat ea aa) (h3 : ∀ p ∈ r, p.1 ≠ ea) : Upd ea o o' ((M, p) :: (ea, o) :: (aa, q) :: r) ((M, p) :: (ea, o') :: (aa, q) :: r) :=
  .tail h1 (.head fun z hz => by
    rcases List.mem_cons.mp hz with rfl | hz
    · exact Ne.symm h2
    · exact h3 z hz)
theorem updA {M ea aa : Addr} {o o' p q : Obj} {r : List (Addr × Obj)} (h1 : @Ne Nat M aa) (h2 : @Ne Nat ea aa) (h3 : ∀ p ∈ r, p.1 ≠ aa) : Upd aa o o' ((M, p) :: (ea, q) :: (aa, o) :: r) ((M, p) :: (ea, q) :: (aa, o') :: r) :=
  .tail h1 (.tail h2 (.head h3))
end
end Mine

/-! part C0 -/
namespace Mine
theorem issub_kind : builtinKind "issubclass" = none := by decide +kernel
theorem issub_plain : plainId "issubclass" = true := by decide +kernel
theorem issub_entry : entryFor table "issubclass" = some Builtin.«issubclass» := entryFor_of_fast (by kernel_rfl)
theorem issub_args (a b : Value) : argsOk "issubclass" ⟨[a, b], []⟩ := by unfold argsOk; kernel_rfl
theorem issubn_kind : builtinKind "issubclass.nested" = none := by decide +kernel
theorem issubn_plain : plainId "issubclass.nested" = true := by decide +kernel
theorem issubn_entry : entryFor table "issubclass.nested" = some Builtin.«issubclass.nested» := entryFor_of_fast (by kernel_rfl)
theorem issubn_args (a b c : Value) : argsOk "issubclass.nested" ⟨[a, b, c], []⟩ := by unfold argsOk; kernel_rfl
theorem issubn_str (i : Int) (t : Tok) : Builtin.«issubclass.nested» ⟨[.type "str", .type "str", .int i t], []⟩ = pure (.done (.ret (.bool true))) := by kernel_rfl
theorem issubn_at {v d : Value} (hv : v = .type "str") (hd : ∃ i t, d = .int i t) : Builtin.«issubclass.nested» ⟨[.type "str", v, d], []⟩ = pure (.done (.ret (.bool true))) := by
  obtain ⟨i, t, rfl⟩ := hd
  subst hv
  exact issubn_str i t
section
variable {prog : Program} {w : World} {A : Around} {E : Value → Shared → Prop} {s : Shared}
theorem issub_call {tp : Addr} {Q : Value → Shared → Prop} (htp : s.heap.get? tp = some { cls := .type "tuple", data := .seq #[.type "str", .type "bytes"] }) (h : ∀ tk, Q (.bool true) { s with toks := tk }) :
    wpAny (model prog w) A (call (.builtin "issubclass") [.type "str", .ref tp]) Q E s := by
  refine call_function_meets (S := fun _ R s => s.heap.get? tp = some { cls := .type "tuple", data := .seq #[.type "str", .type "bytes"] } ∧ ∀ tk, R (.ok (.ret (.bool true))) { s with toks := tk }) issub_kind issub_plain issub_entry (issub_args _ _) ?_ ⟨htp, h⟩
  intro prog w A R s hs
  obtain ⟨htp, h⟩ := hs
  refine wpAny_pure (a := (PySem.Fin.again _)) ⟨Code.quiet_builtin _ (by decide +kernel), codeAny_builtin issubn_entry ?_⟩
  rw [Around.under_plain (show (Code.builtin "issubclass.nested" ⟨[.type "str", .ref tp, rawInt 0], []⟩).weight = 0 from rfl) rfl]
  obtain ⟨hp, g, d, t, os⟩ := s
  have hT2 : (⟨hp, g, d, t, os⟩ : Shared).TypeIs (.ref tp) "tuple" := ⟨_, htp, rfl⟩
  have f1 := F.isi_sub_tuple
  repeat (first | assumption | ((fail_if_success (with_reducible show wpAny _ _ (call (.builtin "issubclass.nested") _) _ _ _)); wp_step))
  refine call_function_entry issubn_kind issubn_plain issubn_entry (issubn_args _ _ _) ?_
  refine wpAny_of_eq (issubn_at rfl ⟨_, _, rfl⟩) ⟨_, rfl, ?_⟩
  repeat (first | assumption | wp_step)
  exact h _
end
end Mine

/-! part C1 -/
namespace Mine
local macro_rules | `(tactic| walk_at "pad") => `(tactic| fail "pad")
section
variable {prog : Program} {w : World} {A : Around} {s : Shared} {Q E : Value → Shared → Prop} {mean : ExcName → Option Value} {mg mb : Str → Option Value}
local macro_rules | `(tactic| walk_at "call builtin:issubclass") => `(tactic| (k_here; refine issub_call (News.get (by k_asm) (by k_mem)) ?_; intro tk'; try dsimp only))
theorem fspath_str {x : Str} {t : Tok} (G : Gr w mean mg mb s.heap) (hroom : A.depth + 5 < recursionLimit)
    (h : ∀ h' tk, Keep s.heap h' → Q (.str x t) { s with heap := h', toks := tk }) : wpAny (model prog w) A (call (.ref 121) [.str x t]) Q E s := by
  have X := G.X
  have T := G.T
  k_dflt (refine' enterP (binds := [(Str.ofString "path", .str x t)]) G ?k6 ?k7 ?k8 ?k9 ?kB ?_ ?c2 ?c3 ?c4 ?c5)
  case k6 => k_is
  case k7 => k_is
  case k8 => omega
  case k9 => exact BindsTo.of_eq rfl
  case c5 => decide
  case kB => exact locs rfl
  case c2 => exact rfl
  case c3 => exact rfl
  case c4 => exact rfl
  intro L h₁ F N
  k_steps
  exact h _ _ (Fr.keep (by k_asm))
end
end Mine

/-! part C2 -/
namespace Mine
section
variable {prog : Program} {w : World} {A : Around} {s : Shared} {Q E : Value → Shared → Prop} {mean : ExcName → Option Value} {mg mb : Str → Option Value}
local macro_rules | `(tactic| walk_at "m_enterP") => `(tactic| ((case k6 => k_is); (case k7 => k_is); (case k8 => omega); (case k9 => exact BindsTo.of_eq rfl); (case c5 => decide); (case kB => exact locs rfl); (case c2 => exact rfl); (case c3 => exact rfl); (case c4 => exact rfl)))
theorem get_sep_str {x : Str} {t : Tok} (G : Gr w mean mg mb s.heap) (hroom : A.depth + 5 < recursionLimit) 
    (h : ∀ h' tk t', Keep s.heap h' → Q (.str (Str.ofString "/") t') { s with heap := h', toks := tk }) : wpAny (model prog w) A (call (.ref 135) [.str x t]) Q E s := by
  have X := G.X
  have T := G.T
  k_dflt (refine' enterP (binds := [(Str.ofString "path", .str x t)]) G ?k6 ?k7 ?k8 ?k9 ?kB ?_ ?c2 ?c3 ?c4 ?c5)
  walk_at "m_enterP"
  intro L h₁ F N
  k_steps

  exact h _ _ _ (Fr.keep (by k_asm))
end
end Mine

/-! part C3 -/
namespace Mine
local macro_rules | `(tactic| walk_at "pad") => `(tactic| fail "pad")
local macro_rules | `(tactic| walk_at "pad") => `(tactic| fail "pad")
section
variable {prog : Program} {w : World} {A : Around} {s : Shared} {Q E : Value → Shared → Prop} {mean : ExcName → Option Value} {mg mb : Str → Option Value}
theorem gr_at {h₀ h : Heap} {L : Addr} {m : Str → Option Value} (F : Fr h₀ L h m) (X : (hd.heap_39 w.params).In h₀) (T : Top topProg looseG mean mg mb h₀) : Gr w mean mg mb h := ⟨X.keeps F.keep, T.keeps F.keep⟩
local macro_rules | `(tactic| walk_at "m_enterP") => `(tactic| ((case k6 => k_is); (case k7 => k_is); (case k8 => omega); (case k9 => exact BindsTo.of_eq rfl); (case c5 => decide); (case kB => exact locs rfl); (case c2 => exact rfl); (case c3 => exact rfl); (case c4 => exact rfl)))
local macro_rules | `(tactic| walk_at "m_room") => `(tactic| (simp only [depth_deeper, depth_in1]; omega))
local macro_rules | `(tactic| walk_at "call ref") => `(tactic| (k_here; (with_reducible show wpAny _ _ (call (Value.ref 121) [Value.str _ _]) _ _ _); refine fspath_str (gr_at (by k_asm) (by k_asm) (by k_asm)) (by walk_at "m_room") ?_; intro h' tk' k'; (have F' := Fr.keeps (by k_asm) k'); (have N' := News.grown (by k_asm) k'); (try k_sweep); (try dsimp only)))
/-- splitroot's second and third parts -/
def srRoot (x : Str) : Str := if (Txt.slice x none (some 1) != Str.ofString "/") = true then Str.ofString "" else if (Txt.slice x (some 1) (some 2) != Str.ofString "/") = true then Str.ofString "/" else if (Txt.slice x (some 2) (some 3) == Str.ofString "/") = true then Str.ofString "/" else Txt.slice x none (some 2)
def srRest (x : Str) : Str := if (Txt.slice x none (some 1) != Str.ofString "/") = true then x else if (Txt.slice x (some 1) (some 2) != Str.ofString "/") = true then Txt.slice x (some 1) none else if (Txt.slice x (some 2) (some 3) == Str.ofString "/") = true then Txt.slice x (some 1) none else Txt.slice x (some 2) none
abbrev tupO (vs : List Value) : Obj := { cls := .type "tuple", data := .seq vs.toArray }
theorem splitroot_str {x : Str} {t : Tok} (hx : x.length ≤ 1048576) (G : Gr w mean mg mb s.heap) (hroom : A.depth + 8 < recursionLimit)
    (h : ∀ h' tk D t1 t2 t3, Keep s.heap h' → s.heap.get? D = none → h'.get? D = some (tupO [.str (Str.ofString "") t1, .str (srRoot x) t2, .str (srRest x) t3]) → Q (.ref D) { s with heap := h', toks := tk }) : wpAny (model prog w) A (call (.ref 149) [.str x t]) Q E s := by
  have X := G.X
  have T := G.T
  k_dflt (refine' enterP (binds := [(Str.ofString "p", .str x t)]) G ?k6 ?k7 ?k8 ?k9 ?kB ?_ ?c2 ?c3 ?c4 ?c5)
  walk_at "m_enterP"
  intro L h₁ F N
  k_fold
  k_steps
  · rename (Txt.slice x none (some 1) != Str.ofString "/") = true => e1
    exact h _ _ _ _ _ _ (Fr.keep (by k_asm)) (News.fresh (by k_asm) (by k_mem)) (by simp only [srRoot, srRest, if_pos e1]; exact News.get (by k_asm) (by k_mem))
  · rename (Txt.slice x none (some 1) != Str.ofString "/") = false => e1
    rename (Txt.slice x (some 1) (some 2) != Str.ofString "/") = true => e2
    exact h _ _ _ _ _ _ (Fr.keep (by k_asm)) (News.fresh (by k_asm) (by k_mem)) (by simp only [srRoot, srRest, if_neg (Bool.not_eq_true _ ▸ e1), if_pos e2]; exact News.get (by k_asm) (by k_mem))
  · rename (Txt.slice x none (some 1) != Str.ofString "/") = false => e1
    rename (Txt.slice x (some 1) (some 2) != Str.ofString "/") = false => e2
    rename (Txt.slice x (some 2) (some 3) == Str.ofString "/") = true => e3
    exact h _ _ _ _ _ _ (Fr.keep (by k_asm)) (News.fresh (by k_asm) (by k_mem)) (by simp only [srRoot, srRest, if_neg (Bool.not_eq_true _ ▸ e1), if_neg (Bool.not_eq_true _ ▸ e2), if_pos e3]; exact News.get (by k_asm) (by k_mem))
  · rename (Txt.slice x none (some 1) != Str.ofString "/") = false => e1
    rename (Txt.slice x (some 1) (some 2) != Str.ofString "/") = false => e2
    rename (Txt.slice x (some 2) (some 3) == Str.ofString "/") = false => e3
    exact h _ _ _ _ _ _ (Fr.keep (by k_asm)) (News.fresh (by k_asm) (by k_mem)) (by simp only [srRoot, srRest, if_neg (Bool.not_eq_true _ ▸ e1), if_neg (Bool.not_eq_true _ ▸ e2), if_neg (Bool.not_eq_true _ ▸ e3)]; exact News.get (by k_asm) (by k_mem))
end
end Mine

/-! part C4 -/
namespace Mine
section
variable {prog : Program} {w : World} {A : Around} {s : Shared} {Q E : Value → Shared → Prop} {mean : ExcName → Option Value} {mg mb : Str → Option Value}
local macro_rules | `(tactic| walk_at "m_room") => `(tactic| (simp only [depth_deeper, depth_in1]; omega))
local macro_rules | `(tactic| walk_at "call ref") => `(tactic| (k_here; (with_reducible show wpAny _ _ (call (Value.ref 121) [Value.str _ _]) _ _ _); refine fspath_str (gr_at (by k_asm) (by k_asm) (by k_asm)) (by walk_at "m_room") ?_; intro h' tk' k'; (have F' := Fr.keeps (by k_asm) k'); (have N' := News.grown (by k_asm) k'); (try k_sweep); (try dsimp only)))
local macro_rules | `(tactic| walk_at "call ref") => `(tactic| (k_here; (with_reducible show wpAny _ _ (call (Value.ref 135) [Value.str _ _]) _ _ _); refine get_sep_str (gr_at (by k_asm) (by k_asm) (by k_asm)) (by walk_at "m_room") ?_; intro h' tk' t' k'; (have F' := Fr.keeps (by k_asm) k'); (have N' := News.grown (by k_asm) k'); (try k_sweep); (try dsimp only)))
/-- what join('/b', x) is -/
def joinT (x : Str) : Str := if Txt.startswith x (Str.ofString "/") = true then x else Str.ofString "/b" ++ (Str.ofString "/" ++ x)
theorem join_str {x : Str} {t u : Tok} (hx : x.length ≤ 1000000) (G : Gr w mean mg mb s.heap) {dp un : Nat} {fr : Option (List Env)} {gd : Option (List Code)} (hroom : dp + 8 < recursionLimit)
    (h : ∀ h' tk t', Keep s.heap h' → Q (.str (joinT x) t') { s with heap := h', toks := tk }) : wpAny (model prog w) (ar dp un fr gd) (call (.ref 142) [.str (Str.ofString "/b") u, .str x t]) Q E s := by
  have X := G.X
  have T := G.T
  k_dflt (refine' enterR (vs := [.str x t]) (binds := fun D => [(Str.ofString "a", .str (Str.ofString "/b") u), (Str.ofString "p", .ref D)]) G ?k6 ?k7 ?k8 ?kP ?kG ?kB ?_ ?c2 ?c3 ?c4 ?c5)
  case k6 => k_is
  case k7 => k_is
  case k8 => show dp < recursionLimit; omega
  case kP => exact rfl
  case kG => exact fun _ => rfl
  case kB => exact fun _ => locs rfl
  case c5 => decide
  case c2 => exact rfl
  case c3 => exact rfl
  case c4 => exact rfl
  intro D L h₁ F N
  k_fold
  k_steps
  · rename Txt.startswith x (Str.ofString "/") = true => e1
    have e : joinT x = x := by simp only [joinT, if_pos e1]
    rw [e] at h
    exact h _ _ _ (Fr.keep (by k_asm))
  · rename Txt.startswith x (Str.ofString "/") = false => e1
    have e : joinT x = Str.ofString "/b" ++ (Str.ofString "/" ++ x) := by simp only [joinT, if_neg (Bool.not_eq_true _ ▸ e1)]
    rw [e] at h
    exact h _ _ _ (Fr.keep (by k_asm))
end
end Mine

/-! part C5 -/
namespace Mine
local macro_rules | `(tactic| walk_at "pad") => `(tactic| fail "pad")
local macro_rules | `(tactic| walk_at "pad") => `(tactic| fail "pad")
local macro_rules | `(tactic| walk_at "pad") => `(tactic| fail "pad")
local macro_rules | `(tactic| walk_at "pad") => `(tactic| fail "pad")
section
variable {prog : Program} {w : World} {s : Shared} {Q E : Value → Shared → Prop} {mean : ExcName → Option Value} {mg mb : Str → Option Value}
local macro_rules | `(tactic| walk_at "m_steps") => `(tactic| repeat' (first | (k_unfold; (try dsimp only)) | walk1 | (dsimp only; walk1) | fail "no step"))
local macro_rules | `(tactic| walk_at "m_room") => `(tactic| (simp only [depth_deeper, depth_in1]; omega))
local macro_rules | `(tactic| walk_at "m_enterP") => `(tactic| ((case k6 => k_is); (case k7 => k_is); (case k8 => (dsimp only; omega)); (case k9 => exact BindsTo.of_eq rfl); (case c5 => decide); (case kB => exact locs rfl); (case c2 => exact rfl); (case c3 => exact rfl); (case c4 => exact rfl)))
local macro_rules | `(tactic| walk_at "call ref") => `(tactic| (k_here; (with_reducible show wpAny _ _ (call (Value.ref 121) [Value.str _ _]) _ _ _); refine fspath_str (gr_at (by k_asm) (by k_asm) (by k_asm)) (by walk_at "m_room") ?_; intro h' tk' k'; (have F' := Fr.keeps (by k_asm) k'); (have N' := News.grown (by k_asm) k'); (try k_sweep); (try dsimp only)))
theorem srRest_le (x : Str) : (srRest x).length ≤ x.length := by
  unfold srRest
  split
  · exact Nat.le_refl _
  · split
    · exact Txt.slice_le _ _ _
    · split <;> exact Txt.slice_le _ _ _
theorem srRoot_le (x : Str) : (srRoot x).length ≤ x.length + 1 := by
  unfold srRoot
  split
  · exact Nat.le_trans (by decide +kernel) (Nat.le_add_left _ _)
  · split
    · exact Nat.le_trans (by decide +kernel) (Nat.le_add_left _ _)
    · split
      · exact Nat.le_trans (by decide +kernel) (Nat.le_add_left _ _)
      · exact Nat.le_succ_of_le (Txt.slice_le _ _ _)
theorem fresh_led {h₀ h h' : Heap} {L : Addr} {m : Str → Option Value} (F : Fr h₀ L h m) (D : Addr) (o : Obj) (hn : h.get? D = none) (hg : h'.get? D = some o) : D ≠ L ∧ h₀.get? D = none := by
  constructor
  · intro e
    obtain ⟨oL, _, _, hL, _⟩ := F.ns
    rw [e, hL] at hn; cases hn
  · cases e : h₀.get? D with
    | none => rfl
    | some o' => rw [F.keep _ _ e] at hn; cases hn
theorem news_new {h₀ h h' : Heap} {L : Addr} {m : Str → Option Value} {news : List (Addr × Obj)} (F : Fr h₀ L h m) (N : News h₀ L h' news) {D : Addr} {o : Obj} (hn : h.get? D = none) (hg : h'.get? D = some o) : News h₀ L h' ((D, o) :: news) := fun p hp => by
  rcases List.mem_cons.mp hp with rfl | hp
  · exact ⟨hg, (fresh_led F _ _ hn hg).1, (fresh_led F _ _ hn hg).2⟩
  · exact N p hp
local macro_rules | `(tactic| walk_at "call ref") => `(tactic| (k_here; (with_reducible show wpAny _ _ (call (Value.ref 149) [Value.str _ _]) _ _ _); refine splitroot_str (by omega) (gr_at (by k_asm) (by k_asm) (by k_asm)) (by walk_at "m_room") ?_; intro h' tk' D' t1' t2' t3' k' n' g'; (have N' := news_new (by k_asm) (News.grown (by k_asm) k') n' g'); (have F' := Fr.keeps (by k_asm) k'); (try k_sweep); (try dsimp only)))
local macro_rules | `(tactic| walk_at "exec For Name Name cons nil") => `(tactic| (k_here; (rename Fr _ _ _ _ => lF'); (with_unfolding_all refine' For_invVF lF' ?k1 ?k2 ?_; (case k1 => exact rfl); (case k2 => exact rfl); k_whole)))
local macro_rules | `(tactic| walk_at "pyIter ref") => `(tactic| (k_here; refine stop_here ?_))
/-- one piece more: the step of both walks -/
def normStep (ws : List Str) (c : Str) : List Str := if c = Str.ofString ".." then ws.dropLast else if c = Str.ofString "" ∨ c = Str.ofString "." then ws else ws ++ [c]
def NoUp (ws : List Str) : Prop := ∀ u ∈ ws, u ≠ Str.ofString ".."
theorem noUp_nil : NoUp [] := fun _ h => nomatch h
theorem noUp_step (ws : List Str) (c : Str) (h : NoUp ws) : NoUp (normStep ws c) := by
  unfold normStep
  split
  · exact fun u hu => h u (List.dropLast_subset _ hu)
  · split
    · exact h
    · intro u hu
      rcases List.mem_append.mp hu with hu | hu
      · exact h u hu
      · rw [List.mem_singleton.mp hu]; assumption
theorem wt_step (ws : List Str) (c : Str) : wt (normStep ws c) ≤ wt ws + (c.length + 1) := by
  unfold normStep
  split
  · exact Nat.le_trans (wt_dropLast_le _) (Nat.le_add_right _ _)
  · split
    · exact Nat.le_add_right _ _
    · rw [wt_append, wt_one]; exact Nat.le_refl _
theorem normStep_skip {ws : List Str} {c : Str} (h : c = Str.ofString "" ∨ c = Str.ofString ".") : normStep ws c = ws := by
  unfold normStep
  rw [if_neg (by rcases h with rfl | rfl <;> decide +kernel), if_pos h]
theorem normStep_up {ws : List Str} {c : Str} (h : (c != Str.ofString "..") = false) : normStep ws c = ws.dropLast := by
  unfold normStep
  rw [if_pos (by simpa using h)]
theorem normStep_on {ws : List Str} {c : Str} (h0 : (c.length : Int) ≠ 0) (h1 : (c == Str.ofString ".") = false) (h2 : (c != Str.ofString "..") = true) : normStep ws c = ws ++ [c] := by
  unfold normStep
  rw [if_neg (by simpa using h2), if_neg]
  rintro (rfl | rfl)
  · exact h0 rfl
  · simp at h1
theorem str_empty {c : Str} (h : (c.length : Int) = 0) : c = Str.ofString "" := by
  have h' : c.cps.size = 0 := by have : c.length = 0 := by omega
                                 exact this
  have : c.cps = #[] := Array.eq_empty_of_size_eq_zero h'
  exact Str.ext' (by rw [this]; rfl)
theorem noUp_last {ws : List Str} {y : Str} (h : NoUp ws) (e : ws = ws.dropLast ++ [y]) (hy : (y == Str.ofString "..") = true) : False :=
  h y (by rw [e]; simp) (eq_of_beq hy)
/-- what holds of the pieces kept behind i turns -/
def NormInv (ss : List Str) (i : Nat) (ws : List Str) : Prop := NoUp ws ∧ wt ws ≤ wt (ss.take i)
theorem normInv_step (ss : List Str) (i : Nat) (ws : List Str) (c : Str) (hc : ss[i]? = some c) (h : NormInv ss i ws) : NormInv ss (i + 1) (normStep ws c) := by
  refine ⟨noUp_step _ _ h.1, Nat.le_trans (wt_step _ _) ?_⟩
  rw [take_snoc hc, wt_append, wt_one]
  exact Nat.add_le_add_right h.2 _
theorem news2 {h₀ h : Heap} {L : Addr} {news : List (Addr × Obj)} {p q : Addr × Obj} (N : News h₀ L h news) (hp : p ∈ news) (hq : q ∈ news) : News h₀ L h [p, q] := fun r hr => by
  rcases List.mem_cons.mp hr with rfl | hr
  · exact N _ hp
  · rw [List.mem_singleton.mp hr]; exact N _ hq
local macro_rules | `(tactic| walk_at "binaryOp Add str str") => `(tactic| (k_here; k_dflt (refine PyProof.Rows.add_str ?_ (by rw [PySem.sizeLine_eq]; omega)); intro t' tk'))
local macro_rules | `(tactic| walk_at "truthy ref") => `(tactic| (k_here; k_dflt (refine m_truthy (by k_asm) (by k_mem) (by with_reducible assumption) (by with_reducible assumption) ?_ ?_) <;> (intro hw' tk')))
local macro_rules | `(tactic| walk_at "call builtin:list.append") => `(tactic| (k_here; k_dflt (refine m_append3 (by k_asm) (by k_asm) (by with_reducible assumption) (by with_reducible assumption) (by with_reducible assumption) ?_); intro h' F' N'; (try k_sweep)))
local macro_rules | `(tactic| walk_at "call builtin:list.pop") => `(tactic| (k_here; k_dflt (refine m_pop3 (by k_asm) (by k_asm) (by with_reducible assumption) (by with_reducible assumption) (by with_reducible assumption) (by with_reducible assumption) (by with_reducible assumption) ?_); intro h' y' t' F' N' e' s'; (try k_sweep)))
local macro_rules | `(tactic| walk_at "subscriptTail Name UnaryOp ref int") => `(tactic| (k_here; k_dflt (refine m_last (by k_asm) (by k_mem) (by with_reducible assumption) (by with_reducible assumption) ?_ (by with_unfolding_all rfl)); intro y' t' e'))
local macro_rules | `(tactic| walk_at "call builtin:str.join") => `(tactic| (k_here; k_dflt (refine m_join (by k_asm) (by k_mem) (by with_reducible assumption) (by omega) ?_); intro t' tk' hj'))
/-- what normpath(x) is, for x with a root -/
def normT (x : Str) : Str := srRoot x ++ Txt.join (Str.ofString "/") (List.foldl normStep [] (Txt.split (srRest x) (Str.ofString "/")))
theorem normpath_str {x : Str} {t : Tok} (hx : x.length ≤ 1000000) (h0 : 0 < x.length) (hr : 0 < (srRoot x).length) (G : Gr w mean mg mb s.heap) {dp un : Nat} {fr : Option (List Env)} {gd : Option (List Code)} (hroom : dp + 12 < recursionLimit)
    (h : ∀ h' tk t', Keep s.heap h' → Q (.str (normT x) t') { s with heap := h', toks := tk }) : wpAny (model prog w) (ar dp un fr gd) (call (.ref 156) [.str x t]) Q E s := by
  have X := G.X
  have hrl := srRest_le x
  have hrl2 := srRoot_le x
  have T := G.T
  k_dflt (refine' enterP (binds := [(Str.ofString "path", .str x t)]) G ?k6 ?k7 ?k8 ?k9 ?kB ?_ ?c2 ?c3 ?c4 ?c5)
  walk_at "m_enterP"
  intro L h₁ F N
  k_fold
  walk_at "m_steps"
  · rename Fr _ _ _ _ => F9
    rename News _ _ _ _ => N9
    rename StrsAre _ _ => hS
    rename List.map _ _ = Txt.split _ _ => hsp
    rw [hsp] at hS
    rename (@LT.lt Nat _ _ _ ∧ @LT.lt Nat _ _ _) => l1
    refine iter_accStrs (y := Str.ofString "new_comps") (us₀ := []) (ws₀ := []) (k₀ := 0) normStep (NormInv (Txt.split (srRest x) (Str.ofString "/"))) rfl F9 (news2 N9 (by k_mem) (by k_mem)) hS rfl .nil ⟨noUp_nil, Nat.zero_le _⟩ (Nat.ne_of_gt l1.1) (normInv_step _) ?_ ?_
    · intro i c tc a us ws k I oI h9 tk9 hc hp hu haI hIl hal F N
      have hcl : c.length ≤ (srRest x).length := part_short (List.mem_of_getElem? hc)
      have hw : wt ws ≤ (srRest x).length + 1 := Nat.le_trans hp.2 (Nat.le_trans (wt_take_le _ _) (split_weight _ _ (by decide +kernel)))
      have hul : us.length = ws.length := hu.length
      have hwl : ws.length ≤ wt ws := Nat.le_add_left _ _
      have hb4 : ws.length ≤ 4000000 := by omega
      have hb5 : us.length ≤ 4000000 := by omega
      have haI' := haI.symm
      have hal' := hal.symm
      have hcl' : c.length ≤ 1000000 := by omega
      have hrl3 : (srRoot x).length ≤ 1000001 := by omega
      clear hw hul hwl hcl hS hsp l1 hrl hrl2 hx h0
      clear F9 N9
      k_unmd
      k_fold
      walk_at "m_steps"
      all_goals (try (exfalso; omega))
      all_goals (try (rename ws = [] => hw0; exact absurd hw0 (by with_reducible assumption)))
      all_goals (try (rename (_ == Str.ofString "..") = true => hy0; exact (noUp_last hp.1 (by with_reducible assumption) hy0).elim))
      all_goals first
        | exact accEnd (.inr rfl) (by k_asm) (by k_asm) (by k_mem) (by k_mem) (by k_mem) haI hal (by with_unfolding_all rfl) hu (normStep_skip (.inr (eq_of_beq (by with_reducible assumption)))) (fun z h1 h2 => by simp only [if_neg h1, if_neg h2])
        | exact accEnd (.inr rfl) (by k_asm) (by k_asm) (by k_mem) (by k_mem) (by k_mem) haI hal (by with_unfolding_all rfl) hu (normStep_skip (.inl (str_empty (by with_reducible assumption)))) (fun z h1 h2 => by simp only [if_neg h1, if_neg h2])
        | exact accEnd (.inl rfl) (by k_asm) (by k_asm) (by k_mem) (by k_mem) (by k_mem) haI hal (by with_unfolding_all rfl) (hu.append' (.cons _ _ .nil)) (normStep_on (by with_reducible assumption) (by with_reducible assumption) (by with_reducible assumption)) (fun z h1 h2 => by simp only [if_neg h1, if_neg h2])
        | exact accEnd (.inl rfl) (by k_asm) (by k_asm) (by k_mem) (by k_mem) (by k_mem) haI hal (by with_unfolding_all rfl) (by with_reducible assumption) (normStep_up (by with_reducible assumption)) (fun z h1 h2 => by simp only [if_neg h1, if_neg h2])
        | (rename ws = [] => hw0; subst hw0; exact accEnd (.inl rfl) (by k_asm) (by k_asm) (by k_mem) (by k_mem) (by k_mem) haI hal (by with_unfolding_all rfl) hu (normStep_up (by with_reducible assumption)) (fun z h1 h2 => by simp only [if_neg h1, if_neg h2]))
    · intro u a us k h9 tk9 hu hp F N
      have hw : wt (List.foldl normStep [] (Txt.split (srRest x) (Str.ofString "/"))) ≤ (srRest x).length + 1 := Nat.le_trans hp.2 (Nat.le_trans (wt_take_le _ _) (split_weight _ _ (by decide +kernel)))
      clear F9 N9
      k_unmd
      walk_at "m_steps"
      · exact h _ _ _ (Fr.keep (by with_reducible assumption))
      · exfalso
        rename (_ : Int) = 0 => e0
        rw [Str.length_append] at e0
        omega
  · exfalso; omega
end
end Mine

/-! part C6 -/
namespace Mine
section
variable {prog : Program} {w : World} {s : Shared} {Q E : Value → Shared → Prop} {mean : ExcName → Option Value} {mg mb : Str → Option Value}
local macro_rules | `(tactic| walk_at "m_steps") => `(tactic| repeat' (first | (k_unfold; (try dsimp only)) | walk1 | (dsimp only; walk1) | fail "no step"))
local macro_rules | `(tactic| walk_at "m_enterP") => `(tactic| ((case k6 => k_is); (case k7 => k_is); (case k8 => (dsimp only; omega)); (case k9 => exact BindsTo.of_eq rfl); (case c5 => decide); (case kB => exact locs rfl); (case c2 => exact rfl); (case c3 => exact rfl); (case c4 => exact rfl)))
local macro_rules | `(tactic| walk_at "exec For Name Call cons nil") => `(tactic| (k_here; (rename Fr _ _ _ _ => lF'); (with_unfolding_all refine' For_invVF lF' ?k1 ?k2 ?_; (case k1 => exact rfl); (case k2 => exact rfl); k_whole)))
local macro_rules | `(tactic| walk_at "pyIter ref") => `(tactic| (k_here; refine stop_here ?_))
def PlaceInv (ss : List Str) (i : Nat) (ws : List Str) : Prop := wt ws ≤ wt (ss.take i) + 2
theorem placeInv_step (ss : List Str) (i : Nat) (ws : List Str) (c : Str) (hc : ss[i]? = some c) (h : PlaceInv ss i ws) : PlaceInv ss (i + 1) (normStep ws c) := by
  unfold PlaceInv at h ⊢
  refine Nat.le_trans (wt_step _ _) ?_
  rw [take_snoc hc, wt_append, wt_one]
  omega
theorem lst_init (us : List Value) : lstO us.dropLast 0 = { cls := .type "list", data := .seq (slicePick us.toArray none (some (-1)) none) } := by
  have e := slicePick_butLast us.toArray 1 (Nat.le_refl _)
  rw [show (-1 : Int) = -((1 : Nat) : Int) from rfl, e]
  simp only [List.toList_toArray, List.size_toArray, List.dropLast_eq_take]
theorem strs_init {us : List Value} {ws : List Str} (h : StrsAre us ws) : StrsAre us.dropLast ws.dropLast := by
  rw [List.dropLast_eq_take, List.dropLast_eq_take, h.length]; exact h.take' _
theorem normStep_up' {ws : List Str} {c : Str} (h : (c == Str.ofString "..") = true) : normStep ws c = ws.dropLast := by
  unfold normStep
  rw [if_pos (eq_of_beq h)]
theorem any2 {c : Str} (h : ([Str.ofString "", Str.ofString "."].any fun x => x == c) = true) : c = Str.ofString "" ∨ c = Str.ofString "." := by
  simp only [List.any_cons, List.any_nil, Bool.or_false, Bool.or_eq_true, beq_iff_eq] at h
  exact h.imp Eq.symm Eq.symm
theorem normStep_on' {ws : List Str} {c : Str} (h : (c == Str.ofString "..") = false) (h2 : ([Str.ofString "", Str.ofString "."].any fun x => x == c) = false) : normStep ws c = ws ++ [c] := by
  unfold normStep
  rw [if_neg (by simpa using h), if_neg]
  rintro (rfl | rfl) <;> simp at h2
/-- what _law_place(x) is -/
def placeT (x : Str) : Str := (if (Txt.slice x none (some 2) == Str.ofString "//") = true then (if (Txt.slice x (some 2) (some 3) != Str.ofString "/") = true then Str.ofString "//" else Str.ofString "/") else Str.ofString "/") ++
  Txt.join (Str.ofString "/") (List.foldl normStep (if (Txt.slice x none (some 1) == Str.ofString "/") = true then [] else [Str.ofString "b"]) (Txt.split x (Str.ofString "/")))
local macro_rules | `(tactic| walk_at "call builtin:str.join") => `(tactic| (k_here; k_dflt (refine m_join (by k_asm) (by k_mem) (by with_reducible assumption) (by omega) ?_); intro t' tk' hj'))
local macro_rules | `(tactic| walk_at "binaryOp Add str str") => `(tactic| (k_here; k_dflt (refine PyProof.Rows.add_str ?_ (Nat.le_trans (Nat.add_le_add (Nat.le_of_ble_eq_true rfl : _ ≤ 2) (Nat.le_refl _)) (by rw [PySem.sizeLine_eq]; omega))); intro t' tk'))
theorem place_str {x : Str} {t : Tok} (hx : x.length ≤ 1000000) (G : Gr w mean mg mb s.heap) {dp un : Nat} {fr : Option (List Env)} {gd : Option (List Code)} (hroom : dp + 12 < recursionLimit)
    (h : ∀ h' tk t', Keep s.heap h' → Q (.str (placeT x) t') { s with heap := h', toks := tk }) : wpAny (model prog w) (ar dp un fr gd) (call (.ref 175) [.str x t]) Q E s := by
  have X := G.X
  have T := G.T
  k_dflt (refine' enterP (binds := [(Str.ofString "path", .str x t)]) G ?k6 ?k7 ?k8 ?k9 ?kB ?_ ?c2 ?c3 ?c4 ?c5)
  walk_at "m_enterP"
  intro L h₁ F N
  k_fold
  walk_at "m_steps"
  all_goals (
    rename Fr _ _ _ _ => F9
    rename News _ _ _ _ => N9
    rename StrsAre _ _ => hS
    rename List.map _ _ = Txt.split _ _ => hsp
    rw [hsp] at hS
    refine iter_accStrs (y := Str.ofString "steps") (k₀ := 0) normStep (PlaceInv (Txt.split x (Str.ofString "/"))) rfl F9 (news2 N9 (by k_mem) (by k_mem)) hS rfl (ws₀ := _) (by first | exact .nil | exact .cons _ _ .nil) (by first | exact Nat.zero_le _ | exact Nat.le_refl _) (Nat.ne_of_lt (Heap.lt_size (News.get (by assumption) (by k_mem)))) (placeInv_step _) ?_ ?_)
  all_goals first
    | (
      intro i c tc a us ws k I oI h9 tk9 hc hp hu haI hIl hal F N
      have hcl : c.length ≤ x.length := part_short (List.mem_of_getElem? hc)
      have hw : wt ws ≤ x.length + 3 := by
        have h1 := wt_take_le (Txt.split x (Str.ofString "/")) i
        have h2 := split_weight x (Str.ofString "/") (by decide +kernel)
        have h3 : wt ws ≤ wt ((Txt.split x (Str.ofString "/")).take i) + 2 := hp
        have h4 : wt (Txt.split x (Str.ofString "/")) ≤ x.length + 1 := h2
        omega
      have hul : us.length = ws.length := hu.length
      have hwl : ws.length ≤ wt ws := Nat.le_add_left _ _
      have hb4 : ws.length ≤ 2000000 := by omega
      have hb5 : us.length ≤ 2000000 := by omega
      have hcl' : c.length ≤ 1000000 := by omega
      clear hw hul hwl hcl hS hsp hx F9 N9
      k_unmd
      k_fold
      walk_at "m_steps"
      · rename News _ _ _ _ => Nz
        rename Fr _ _ _ _ => Fz
        refine accEnd (us := us.dropLast) (k := 0) (.inl rfl) Fz Nz (by k_mem) (by k_mem) (by rw [lst_init]; exact List.mem_cons_self) (Nat.ne_of_gt (Nat.lt_succ_of_lt (Heap.lt_size (News.get N (List.mem_cons_self ..))))) (Nat.ne_of_gt (Nat.lt_succ_of_lt (Heap.lt_size (News.get N (List.mem_cons_of_mem _ (List.mem_cons_self ..)))))) (by with_unfolding_all rfl) (strs_init hu) (normStep_up' (by with_reducible assumption)) (fun z h1 h2 => by simp only [if_neg h1, if_neg h2])
      · rename News _ _ _ _ => Nz
        rename Fr _ _ _ _ => Fz
        exact accEnd (.inl rfl) Fz Nz (by k_mem) (by k_mem) (by k_mem) haI hal (by with_unfolding_all rfl) hu (normStep_skip (any2 (by with_reducible assumption))) (fun z h1 h2 => by simp only [if_neg h1, if_neg h2])
      · rename News _ _ _ _ => Nz
        revert Nz
        rename News _ _ _ _ => Ny
        revert Ny
        rename News _ _ _ _ => Nx
        intro Ny Nz
        rename Fr _ _ _ _ => Fz
        refine accEnd (us := us ++ [.str c tc]) (k := 0) (.inl rfl) Fz Nz (by k_mem) (by k_mem) (by exact List.mem_cons_self) (Nat.ne_of_gt (Heap.lt_size (News.get Nx (by k_mem)))) (Nat.ne_of_gt (Heap.lt_size (News.get Nx (by k_mem)))) (by with_unfolding_all rfl) ((by with_reducible assumption : StrsAre us ws).append' (.cons _ _ .nil)) (normStep_on' (by with_reducible assumption) (by with_reducible assumption)) (fun z h1 h2 => by simp only [if_neg h1, if_neg h2])
      )
    | (
      intro u a us k h9 tk9 hu hp F N
      have h1 := wt_take_le (Txt.split x (Str.ofString "/")) (Txt.split x (Str.ofString "/")).length
      have h2 : wt (Txt.split x (Str.ofString "/")) ≤ x.length + 1 := split_weight x (Str.ofString "/") (by decide +kernel)
      unfold PlaceInv at hp
      clear F9 N9 hS hsp
      k_unmd
      walk_at "m_steps"
      all_goals (
        rename Fr _ _ _ _ => Fz
        rename (Txt.slice x none (some 1) == Str.ofString "/") = _ => e1
        rename (Txt.slice x none (some 2) == Str.ofString "//") = _ => e2
        have hz := fun tk t' => h _ tk t' (Fr.keep Fz)
        first
          | (rename (Txt.slice x (some 2) (some 3) != Str.ofString "/") = _ => e3
             simp only [placeT, e1, e2, e3, if_true, Bool.false_eq_true, if_false] at hz
             exact hz _ _)
          | (simp only [placeT, e1, e2, if_true, Bool.false_eq_true, if_false] at hz
             exact hz _ _)))
end
end Mine

/-! part C7 -/
namespace Mine
local macro_rules | `(tactic| walk_at "pad") => `(tactic| fail "pad")
local macro_rules | `(tactic| walk_at "pad") => `(tactic| fail "pad")
local macro_rules | `(tactic| walk_at "pad") => `(tactic| fail "pad")
local macro_rules | `(tactic| walk_at "pad") => `(tactic| fail "pad")
local macro_rules | `(tactic| walk_at "pad") => `(tactic| fail "pad")
local macro_rules | `(tactic| walk_at "pad") => `(tactic| fail "pad")
local macro_rules | `(tactic| walk_at "pad") => `(tactic| fail "pad")
section
variable {prog : Program} {w : World} {s : Shared} {Q E : Value → Shared → Prop} {mean : ExcName → Option Value} {mg mb : Str → Option Value}
local macro_rules | `(tactic| walk_at "m_steps") => `(tactic| repeat' (first | (k_unfold; (try dsimp only)) | walk1 | (dsimp only; walk1) | fail "no step"))
local macro_rules | `(tactic| walk_at "m_enterC") => `(tactic| ((case k6 => k_is); (case k7 => k_is); (case k8 => (dsimp only; omega)); (case k9 => exact BindsTo.of_eq rfl); (case kB => exact rfl); (case kD => decide +kernel); (case c2 => exact rfl); (case c3 => exact rfl); (case c4 => exact rfl)))
local macro_rules | `(tactic| walk_at "exec Assign cons ListComp") => `(tactic| (k_here; k_dflt (refine LCg.Assign_ListComp_U (F₀ := by k_asm) (by rfl) (by with_unfolding_all rfl) (by with_unfolding_all rfl) (by decide) (by rfl) (by decide) (by rfl) (by rfl) (by rfl) ?_)))
local macro_rules | `(tactic| walk_at "CompSrc") => `(tactic| (k_here; refine stop_here ?_))
theorem wt_le (rs : List Str) (b : Nat) (h : ∀ r ∈ rs, r.length ≤ b) : wt rs ≤ rs.length * (b + 1) := by
  induction rs with
  | nil => simp [wt]
  | cons r l ih =>
    have h1 := ih fun r' hr => h r' (List.mem_cons_of_mem _ hr)
    have h2 := h r List.mem_cons_self
    have e : wt (r :: l) = wt [r] + wt l := wt_append [r] l
    rw [e, wt_one, List.length_cons, Nat.succ_mul]
    omega
local macro_rules | `(tactic| walk_at "call builtin:str.join") => `(tactic| (k_here; k_dflt (refine m_join (by k_asm) (by k_mem) (by with_reducible assumption) (by omega) ?_); intro t' tk' hj'))
local macro_rules | `(tactic| walk_at "binaryOp Add str str") => `(tactic| (k_here; k_dflt (refine PyProof.Rows.add_str ?_ (by rw [PySem.sizeLine_eq]; omega)); intro t' tk'))
local macro_rules | `(tactic| walk_at "CompEnd") => `(tactic| (k_here; refine stop_here ?_))
theorem path_str {x : Int} {t : Tok} (G : Gr w mean mg mb s.heap) {dp un : Nat} {fr : Option (List Env)} {gd : Option (List Code)} (hroom : dp + 12 < recursionLimit)
    (h : ∀ h' tk t' (p : Str), Keep s.heap h' → p.length ≤ 1000 → Q (.str p t') { s with heap := h', toks := tk }) : wpAny (model prog w) (ar dp un fr gd) (call (.ref 168) [.int x t]) Q E s := by
  have X := G.X
  have T := G.T
  k_dflt (refine' enterC (binds := [(Str.ofString "x", .int x t)]) G ?k6 ?k7 ?k8 ?k9 ?kB ?kD ?_ ?c2 ?c3 ?c4)
  walk_at "m_enterC"
  intro L h₁ tk1 cells F N Y
  k_cells Y
  k_unmd
  k_fold
  walk_at "m_steps"
  · rename Fr _ _ _ _ => F9
    rename News _ _ _ _ => N9
    rename IsRange _ _ _ _ _ _ _ _ => hR
    have em : x.fmod 3 = x % 3 := Int.fmod_eq_emod_of_nonneg x (by decide)
    have h3a : 0 ≤ x.fmod 3 := by omega
    have h3b : x.fmod 3 < 3 := by omega
    refine LCg.CompSrc.range (n := (1 + x.fmod 3).toNat) rfl F9 N9 hR (small_one (by decide) (by omega) (by omega) (by omega)) (by rw [rangeSize_nat]; simp) (by rw [PySem.sizeLine_eq]; omega) fun g => comp_strs (fun _ r => r.length ≤ 3) ?_ ?_
    · intro i v I oI C oC D m₂ ys h9 tk9 E' hi hv hC hx F N off ne
      obtain ⟨tv, rfl⟩ := hv
      have hi3 : i = 0 ∨ i = 1 ∨ i = 2 := by omega
      have off0 := off
      simp only [LCg.Off3, and_true] at off
      clear F9 N9 hR
      rcases hi3 with rfl | rfl | rfl
      all_goals (
        k_unmd
        k_fold
        walk_at "m_steps")
      all_goals (
        rename Fr _ _ _ _ => Fz
        rename News _ _ _ _ => Nz
        refine LCg.CompEnd.intro Fz Nz _ (fun p hp => List.mem_cons_of_mem _ hp) off0 trivial ⟨rfl, _, _, rfl, by decide +kernel⟩)
    · intro ys rs hy hl hp D h9 tk9 F N o1
      have hw : wt rs ≤ 12 := by
        have := wt_le rs 3 (fun r hr => by obtain ⟨i, hi⟩ := List.getElem?_of_mem hr; exact hp i r hi)
        omega
      clear F9 N9 hR
      have e0 : (Str.ofString "/").length = 1 := by decide +kernel
      have e1 : (Str.ofString "").length = 0 := by decide +kernel
      k_unmd
      walk_at "m_steps"
      all_goals (exact h _ _ _ _ (Fr.keep F) (by have hj := join_wt rs; rw [Str.length_append]; omega))
end
end Mine

/-! part C8 -/
namespace Mine
section
variable {prog : Program} {w : World} {s : Shared} {Q E : Value → Shared → Prop} {mean : ExcName → Option Value} {mg mb : Str → Option Value}
local macro_rules | `(tactic| walk_at "m_steps") => `(tactic| repeat' (first | (k_unfold; (try dsimp only)) | walk1 | (dsimp only; walk1) | fail "no step"))
local macro_rules | `(tactic| walk_at "m_enterP") => `(tactic| ((case k6 => k_is); (case k7 => k_is); (case k8 => (dsimp only; omega)); (case k9 => exact BindsTo.of_eq rfl); (case c5 => decide); (case kB => exact locs rfl); (case c2 => exact rfl); (case c3 => exact rfl); (case c4 => exact rfl)))
theorem m_sorted {A : Around} {h₀ : Heap} {L : Addr} {m : Str → Option Value} {news : List (Addr × Obj)} {l : Addr} {vs : List Value} {ss : List Str}
    (F : Fr h₀ L s.heap m) (N : News h₀ L s.heap news) (hl : h₀.IsList l vs.toArray) (hS : StrsAre vs ss) (h64 : ss.length < 64)
    (h : ∀ (h' : Heap) D (us : List Value) (row : List Str) k, Fr h₀ L h' m → News h₀ L h' ((D, lstO us k) :: news) → StrsAre us row → row.length = ss.length → row.Perm ss → sortedS row = true → Q (.ref D) { s with heap := h' }) :
    wpAny (model prog w) A (call (.builtin "sorted") [.ref l]) Q E s :=
  sorted_N_str F N (hl.at fun o e => F.keep l o e) hS (by rw [hS.length]; exact h64) fun h' vs' ss' e F' N' a1 a2 a3 => h h' _ vs' ss' e F' N' a1 a2.length_eq a2 a3
theorem m_len {A : Around} {h₀ : Heap} {L a : Addr} {news : List (Addr × Obj)} {us : List Value} {ws : List Str} {k : Nat} (N : News h₀ L s.heap news) (hm : (a, lstO us k) ∈ news) (hS : StrsAre us ws) (hb : ws.length ≤ 4000000)
    (h : ∀ t tk, Q (.int (ws.length : Int) t) { s with toks := tk }) : wpAny (model prog w) A (call (.builtin "len") [.ref a]) Q E s :=
  len_strsA (l := us) ⟨_, (N _ hm).1, rfl, k, rfl⟩ hS (by omega) (h _ _)
theorem fdiv_two (n : Nat) : (n : Int).fdiv 2 = ((n / 2 : Nat) : Int) := by rw [Int.fdiv_eq_ediv_of_nonneg _ (by decide)]; omega
theorem fmod_two (n : Nat) : (n : Int).fmod 2 = ((n % 2 : Nat) : Int) := by rw [Int.fmod_eq_emod_of_nonneg _ (by decide)]; omega
theorem led_list {h₀ h : Heap} {L a : Addr} {news : List (Addr × Obj)} {us : List Value} {k : Nat} (N : News h₀ L h news) (hm : (a, lstO us k) ∈ news) : h.IsList a us.toArray := ⟨_, (N _ hm).1, rfl, k, rfl⟩
local macro_rules | `(tactic| walk_at "subscriptTail Name BinOp ref int") => `(tactic| (k_here; k_dflt (refine KTb.item_list (led_list (by k_asm) (by k_mem)) (by with_reducible assumption) (by simp only [fdiv_two, fmod_two] at *; omega) (by simp only [fdiv_two, fmod_two] at *; omega) (by simp only [fdiv_two, fmod_two] at *; omega) ?_ (by with_unfolding_all rfl)); intro t' hlt'))
local macro_rules | `(tactic| walk_at "call builtin:sorted") => `(tactic| (k_here; k_dflt (refine m_sorted (by k_asm) (by k_asm) (by with_reducible assumption) (by with_reducible assumption) (by with_reducible assumption) ?_); intro h' D' us' row' k' F' N' hu' hl' hp' hs'))
local macro_rules | `(tactic| walk_at "call builtin:len") => `(tactic| (k_here; k_dflt (refine m_len (by k_asm) (by k_mem) (by with_reducible assumption) (by omega) ?_); intro t' tk'))
/-- the place of the middle one: of two middle ones the lesser, or the greater -/
def mid (least : Bool) (n : Nat) : Nat := if least = true then (n - 1) / 2 else n / 2
theorem mid_use {row : List Str} {i : Int} {n : Nat} {P : Str → Prop} (h : P (row.getD n Str.empty)) (e : i.toNat = n) : P (row.getD i.toNat Str.empty) := e ▸ h
theorem median_low_strs {l : Addr} {vs : List Value} {ss : List Str} (hl : s.heap.IsList l vs.toArray) (hS : StrsAre vs ss) (h0 : 0 < ss.length) (h64 : ss.length < 64) (G : Gr w mean mg mb s.heap) {dp un : Nat} {fr : Option (List Env)} {gd : Option (List Code)} (hroom : dp + 12 < recursionLimit)
    (h : ∀ h' tk t' row, Keep s.heap h' → row.Perm ss → sortedS row = true → Q (.str (row.getD (mid true ss.length) Str.empty) t') { s with heap := h', toks := tk }) : wpAny (model prog w) (ar dp un fr gd) (call (.ref 41) [.ref l]) Q E s := by
  have X := G.X
  have T := G.T
  k_dflt (refine' enterP (binds := [(Str.ofString "data", .ref l)]) G ?k6 ?k7 ?k8 ?k9 ?kB ?_ ?c2 ?c3 ?c4 ?c5)
  walk_at "m_enterP"
  intro L h₁ F N
  k_fold
  walk_at "m_steps"
  all_goals (
    rename Fr _ _ _ _ => Fz
    rename List.Perm _ _ => hp
    rename sortedS _ = true => hs
    rename List.length _ = List.length _ => hle
    refine mid_use (n := mid true ss.length) (P := fun r => Q (.str r _) _) (h _ _ _ _ (Fr.keep Fz) hp hs) ?_
    simp only [mid, if_true, fdiv_two, fmod_two] at *; omega)
theorem median_high_strs {l : Addr} {vs : List Value} {ss : List Str} (hl : s.heap.IsList l vs.toArray) (hS : StrsAre vs ss) (h0 : 0 < ss.length) (h64 : ss.length < 64) (G : Gr w mean mg mb s.heap) {dp un : Nat} {fr : Option (List Env)} {gd : Option (List Code)} (hroom : dp + 12 < recursionLimit)
    (h : ∀ h' tk t' row, Keep s.heap h' → row.Perm ss → sortedS row = true → Q (.str (row.getD (mid false ss.length) Str.empty) t') { s with heap := h', toks := tk }) : wpAny (model prog w) (ar dp un fr gd) (call (.ref 48) [.ref l]) Q E s := by
  have X := G.X
  have T := G.T
  k_dflt (refine' enterP (binds := [(Str.ofString "data", .ref l)]) G ?k6 ?k7 ?k8 ?k9 ?kB ?_ ?c2 ?c3 ?c4 ?c5)
  walk_at "m_enterP"
  intro L h₁ F N
  k_fold
  walk_at "m_steps"
  all_goals (
    rename Fr _ _ _ _ => Fz
    rename List.Perm _ _ => hp
    rename sortedS _ = true => hs
    rename List.length _ = List.length _ => hle
    refine mid_use (n := mid false ss.length) (P := fun r => Q (.str r _) _) (h _ _ _ _ (Fr.keep Fz) hp hs) ?_
    simp only [mid, Bool.false_eq_true, if_false, fdiv_two, fmod_two] at *; omega)
end
end Mine

/-! part C9 -/
namespace Mine
local macro_rules | `(tactic| walk_at "pad") => `(tactic| fail "pad")
local macro_rules | `(tactic| walk_at "pad") => `(tactic| fail "pad")
local macro_rules | `(tactic| walk_at "pad") => `(tactic| fail "pad")
local macro_rules | `(tactic| walk_at "pad") => `(tactic| fail "pad")
local macro_rules | `(tactic| walk_at "pad") => `(tactic| fail "pad")
local macro_rules | `(tactic| walk_at "pad") => `(tactic| fail "pad")
theorem sameUp_map : ∀ {a b : List (Addr × Obj)}, TI.SameUp a b → b.map (·.1) = a.map (·.1)
  | [], [], _ => rfl
  | [], _ :: _, h => h.elim
  | _ :: _, [], h => h.elim
  | p :: ps, q :: qs, ⟨h1, _, h3⟩ => by rw [List.map_cons, List.map_cons, h1, sameUp_map h3]
theorem fresh_of {g h : Heap} {ad : List Addr} {D : Addr} (hide : ∀ b o, b ∉ ad → h.get? b = some o → g.get? b = some o) (hn : g.get? D = none) (hD : D ∉ ad) : h.get? D = none := by
  cases e : h.get? D with
  | none => rfl
  | some o => rw [hide D o hD e] at hn; cases hn
theorem not_mem3 {a b c : Addr} {l : List Addr} (h1 : @Ne Nat a b) (h2 : @Ne Nat a c) (h3 : a ∉ l) : a ∉ b :: c :: l := fun h => by
  rcases List.mem_cons.mp h with h | h
  · exact h1 h
  · rcases List.mem_cons.mp h with h | h
    · exact h2 h
    · exact h3 h
theorem not_mem_ne {D : Addr} {frs : List (Addr × Obj)} (h : ∀ p ∈ frs, p.1 ≠ D) : D ∉ frs.map (·.1) := fun hm => by
  obtain ⟨p, hp, e⟩ := List.mem_map.mp hm
  exact h p hp e
theorem not_mem_lt {D : Addr} : ∀ {frs : List (Addr × Obj)}, AllLt D frs → D ∉ frs.map (·.1) := fun {frs} h hm => by
  obtain ⟨p, hp, e⟩ := List.mem_map.mp hm
  exact absurd (ktn_ltOf h p hp) (by rw [e]; exact Nat.lt_irrefl _)
theorem uld_last_yes {xs ys ms : List Str} {y : Str} (e : xs = xs.dropLast ++ [y]) (hy : y ∈ ys) : uld xs.dropLast.reverse (ys.erase y) ms = uld xs.reverse ys ms := by
  conv => rhs; rw [e, List.reverse_append]
  show _ = uld (y :: xs.dropLast.reverse) ys ms
  rw [uld, if_pos hy]
theorem uld_last_no {xs ys ms : List Str} {y : Str} (e : xs = xs.dropLast ++ [y]) (hy : y ∉ ys) : uld xs.dropLast.reverse ys (ms ++ [y]) = uld xs.reverse ys ms := by
  conv => rhs; rw [e, List.reverse_append]
  show _ = uld (y :: xs.dropLast.reverse) ys ms
  rw [uld, if_neg hy]
theorem mem3 {p q r : Addr × Obj} {frs : List (Addr × Obj)} : ∀ x ∈ frs, x ∈ p :: q :: r :: frs := fun x hx => List.mem_cons_of_mem _ (List.mem_cons_of_mem _ (List.mem_cons_of_mem _ hx))
section
variable {prog : Program} {w : World} {s : Shared} {Q E : Value → Shared → Prop} {mean : ExcName → Option Value} {mg mb : Str → Option Value}
local macro_rules | `(tactic| walk_at "m_steps") => `(tactic| repeat' (first | (k_unfold; (try dsimp only)) | (walk1) | (dsimp only; walk1) | fail "no step"))
local macro_rules | `(tactic| walk_at "m_enterP") => `(tactic| ((case k6 => k_is); (case k7 => k_is); (case k8 => (dsimp only; omega)); (case k9 => exact BindsTo.of_eq rfl); (case c5 => decide); (case kB => exact locs rfl); (case c2 => exact rfl); (case c3 => exact rfl); (case c4 => exact rfl)))
local macro_rules | `(tactic| walk_at "exec While Name cons nil") => `(tactic| (k_here; refine stop_here ?_))
local macro_rules | `(tactic| walk_at "truthy ref") => `(tactic| (k_here; k_dflt (refine m_truthy (by k_asm) (by k_mem) (by with_reducible assumption) (by with_reducible assumption) ?_ ?_) <;> (intro hw' tk')))
local macro_rules | `(tactic| walk_at "call builtin:list.pop") => `(tactic| (k_here; k_dflt (refine m_pop (by k_asm) (by k_asm) (updE (by with_reducible assumption) (by with_reducible assumption) (by with_reducible assumption)) (by with_reducible assumption) (by with_reducible assumption) (by with_reducible assumption) ?_); intro h' y' t' F' N' e' s'; (try k_sweep)))
local macro_rules | `(tactic| walk_at "exec Try") => `(tactic| (k_here; refine stop_here ?_))
theorem uld_strs {ea aa : Addr} {us vs : List Value} {k1 k2 : Nat} {xs ys : List Str} {g₀ : Heap} {l : List Env} {frs : List (Addr × Obj)} (G : Gr w mean mg mb g₀) (k₀ : Keep g₀ s.heap) (he : s.heap.get? ea = some (lstO us k1)) (ha : s.heap.get? aa = some (lstO vs k2)) (he0 : g₀.get? ea = none) (ha0 : g₀.get? aa = none) (hne : (@Ne Nat ea aa))
    (Fs : TI.Frs l frs) (hfs : ∀ p ∈ frs, s.heap.get? p.1 = some p.2 ∧ g₀.get? p.1 = none)
    (hU : StrsAre us xs) (hV : StrsAre vs ys) (hxl : xs.length < 64) (hyl : ys.length < 64) {dp un : Nat} {gd : Option (List Code)} (hroom : dp + 12 < recursionLimit)
    (h : ∀ h' tk D M zs k3 vs' k2' frs', KeepBut (ea :: aa :: frs.map (·.1)) s.heap h' → s.heap.get? D = none → s.heap.get? M = none → (@Ne Nat D M) → h'.get? D = some (tupO [.ref M, .ref aa]) → h'.get? M = some (lstO zs k3) → h'.get? aa = some (lstO vs' k2') →
      StrsAre zs (uld xs.reverse ys []).1 → StrsAre vs' (uld xs.reverse ys []).2 → TI.SameUp frs frs' → (∀ p ∈ frs', h'.get? p.1 = some p.2) → Q (.ref D) { s with heap := h', toks := tk }) : wpAny (model prog w) (ar dp un (some l) gd) (call (.ref 163) [.ref ea, .ref aa]) Q E s := by
  have hn : ∀ p ∈ (ea, lstO us k1) :: (aa, lstO vs k2) :: frs, s.heap.get? p.1 = some p.2 ∧ g₀.get? p.1 = none := fun p hp => by
    rcases List.mem_cons.mp hp with rfl | hp
    · exact ⟨he, he0⟩
    · rcases List.mem_cons.mp hp with rfl | hp
      · exact ⟨ha, ha0⟩
      · exact hfs p hp
  k_dflt (refine' enterH (binds := [(Str.ofString "expected", .ref ea), (Str.ofString "actual", .ref aa)]) G k₀ hn ?k6 ?k7 ?k8 ?k9 ?kB ?_ ?c2 ?c3 ?c4 ?c5)
  walk_at "m_enterP"
  intro g L h₁ Gg hide kg F N
  have X := Gg.X
  have T := Gg.T
  clear G k₀ he ha he0 ha0 hn hfs
  k_unmd
  k_fold
  walk_at "m_steps"
  · rename Fr _ _ _ _ => F9
    rename News _ _ _ _ => N9
    rename _ ∧ _ ∧ AllLt _ _ => l1
    have hMe : @Ne Nat _ ea := Nat.ne_of_gt l1.1
    have hMa : @Ne Nat _ aa := Nat.ne_of_gt l1.2.1
    refine while_uld (x := Str.ofString "item") (fin := uld xs.reverse ys []) (n := xs.length) (Uld3.intro (frs := frs) (zs := []) (ms := []) (k3 := 0) rfl hU hV .nil rfl hxl hyl (by simp; omega) (fun z _ => rfl) (TI.SameUp.refl _) Fs F9 N9 (by k_mem) (by k_mem) (by k_mem) (fun p hp => List.mem_cons_of_mem _ (List.mem_cons_of_mem _ (List.mem_cons_of_mem _ hp)))) ?_
    intro us vs zs k1 k2 k3 xs ys ms frs' u h9 tk9 hu hv hz hf h1 h2 h3 SU Fs' a1 a2 a3 F N
    have hb4 : xs.length ≤ 4000000 := by omega
    clear F9 N9 hU hV hxl hyl l1
    k_unmd
    k_fold
    walk_at "m_steps"
    · rename Fr _ _ _ _ => Fz
      rename News _ _ _ _ => Nz
      rename _ ∧ _ ∧ _ ∧ AllLt _ _ => lz
      rename _ = [] => hx0
      subst hx0
      have hf' : (ms, ys) = uld _ _ [] := hf
      have hsm := sameUp_map SU
      refine h _ _ _ _ zs k3 vs k2 frs' (fun b o hb e => Fr.keep Fz b o (hide b o hb e)) (fresh_of hide (News.fresh Nz (by k_mem)) (not_mem3 (Nat.ne_of_gt lz.2.1) (Nat.ne_of_gt lz.2.2.1) (hsm ▸ not_mem_lt lz.2.2.2))) (fresh_of hide (News.fresh Nz (by k_mem)) (not_mem3 hMe hMa (hsm ▸ not_mem_ne a1))) (Nat.ne_of_gt lz.1) (News.get Nz (by k_mem)) (News.get Nz (by k_mem)) (News.get Nz (by k_mem)) (by rw [← hf']; exact hz) (by rw [← hf']; exact hv) SU (fun p hp => News.get Nz (by exact List.mem_cons_of_mem _ (List.mem_cons_of_mem _ (List.mem_cons_of_mem _ (List.mem_cons_of_mem _ hp)))))
    · assumption
    · show wpAny _ _ _ _ _ _
      rename Fr _ _ _ _ => Fz
      rename News _ _ _ _ => Nz
      rename _ = _ ++ [_] => hx1
      rename StrsAre us.dropLast _ => hx2
      refine wpAny_Try_except ?_
      k_unmd
      k_fold
      walk_at "m_steps"
      rename Str => y
      have hxl : xs.dropLast.length = xs.length - 1 := List.length_dropLast
      have hxp : 0 < xs.length := List.length_pos_iff.mpr (by assumption)
      by_cases hy : y ∈ ys
      · refine m_remove_yes Fz Nz (fun q => updA hMa hne a3) hv hy h2 ?_
        intro h' q F' N' hq
        clear Fz Nz
        have hyl : (ys.erase y).length ≤ ys.length := List.length_erase_le
        walk_at "m_steps"
        exact Uld3.intro (xs := xs.dropLast) (ys := ys.erase y) (ms := ms) (frs := frs') (by omega) hx2 hq hz ((uld_last_yes hx1 hy).trans hf) (by omega) (by omega) (by omega) (fun z hz => by simp only [if_neg hz]) SU Fs' F' N' (by k_mem) (by k_mem) (by k_mem) mem3
      · refine m_remove_no (by rfl) Nz (by k_mem) hv hy ?_
        intro h' tk' e hx
        refine TI.noted_newT (l := l) (frs := frs') (new := [_, _, _]) rfl Fs' hx Fz Nz rfl (fun h'' frs'' SU2 Fs2 H => ?_) rfl
        refine TT.HeldNA.land H (fun h3 H3 => ?_)
        dsimp only
        clear H Fz Nz Fs'
        refine TT.clause_hitTN H3 T (k := fun h4 F4 N4 => ?_)
        clear H3
        have N5 : News g L h4 (_ :: _ :: _ :: frs'') := N4
        clear N4
        have SU3 := SU.trans SU2
        have b1 : ∀ p ∈ frs'', p.1 ≠ _ := fun p hp => by
          obtain ⟨q, hq, e⟩ := SU2.fwd p hp
          rw [e]; exact a1 q hq
        clear SU SU2
        k_unmd
        k_fold
        walk_at "m_steps"
        have hzl : zs.length = ms.length := hz.length
        refine m_append F4 N5 (updM hMe hMa b1) (by omega) ?_
        intro h5 F6 N6
        clear F4 N5
        walk_at "m_steps"
        exact Uld3.intro (xs := xs.dropLast) (ys := ys) (ms := ms ++ [y]) (frs := frs'') (by omega) hx2 hv (hz.append' (.cons _ _ .nil)) ((uld_last_no hx1 hy).trans hf) (by omega) (by omega) (by rw [List.length_append, List.length_singleton]; omega) (fun z hz => by simp only [if_neg hz]) SU3 Fs2 F6 N6 (by k_mem) (by k_mem) (by k_mem) mem3
end
end Mine

/-! part Pure1 -/
namespace Mine
open PySem.Builtin PySem.Builtin.Str
theorem idx_clip (n a b : Nat) : strSliceIndices (some (a : Int)) (some (b : Int)) 1 n = strSliceIndices (some ((min a n : Nat) : Int)) (some ((min b n : Nat) : Int)) 1 n := by
  have a1 : ¬ (a : Int) < 0 := by omega
  have a2 : ¬ (b : Int) < 0 := by omega
  have a3 : ¬ ((min a n : Nat) : Int) < 0 := by omega
  have a4 : ¬ ((min b n : Nat) : Int) < 0 := by omega
  have e1 : max (0 : Int) (min (a : Int) (n : Int)) = max (0 : Int) (min ((min a n : Nat) : Int) (n : Int)) := by omega
  have e2 : max (0 : Int) (min (b : Int) (n : Int)) = max (0 : Int) (min ((min b n : Nat) : Int) (n : Int)) := by omega
  simp only [strSliceIndices, a1, a2, a3, a4, if_false, e1, e2, show (1 : Int) > 0 by decide, if_true]
theorem slice_nat (x : Str) (a b : Nat) (hab : a ≤ b) : Txt.slice x (some (a : Int)) (some (b : Int)) = ⟨((x.cps.toList.drop a).take (b - a)).toArray⟩ := by
  show StrLaws.sliceText x (some (a : Int)) (some (b : Int)) = _
  have h := StrLaws.sliceText_nat x (a := min a x.length) (b := min b x.length) (by omega) (by omega)
  have e : StrLaws.sliceText x (some (a : Int)) (some (b : Int)) = StrLaws.sliceText x (some ((min a x.length : Nat) : Int)) (some ((min b x.length : Nat) : Int)) := by
    unfold StrLaws.sliceText
    rw [idx_clip]
  rw [e, h]
  have hn : x.cps.toList.length = x.length := by simp [Str.length]
  congr 2
  by_cases hb : b ≤ x.length
  · rw [Nat.min_eq_left hb, Nat.min_eq_left (Nat.le_trans hab hb)]
  · by_cases ha : a ≤ x.length
    · rw [Nat.min_eq_left ha, Nat.min_eq_right (by omega)]
      rw [List.take_of_length_le (by rw [List.length_drop]; omega), List.take_of_length_le (by rw [List.length_drop]; omega)]
    · rw [Nat.min_eq_right (by omega), Nat.min_eq_right (by omega), List.drop_of_length_le (by omega), List.drop_of_length_le (by omega)]
      simp
theorem slice_to (x : Str) (b : Nat) : Txt.slice x none (some (b : Int)) = ⟨(x.cps.toList.take b).toArray⟩ := by
  have e : Txt.slice x none (some (b : Int)) = Txt.slice x (some ((0 : Nat) : Int)) (some (b : Int)) := by
    show StrLaws.sliceText x none _ = StrLaws.sliceText x _ _
    unfold StrLaws.sliceText
    rw [StrLaws.sliceIdx_none_lo]; rfl
  rw [e, slice_nat x 0 b (Nat.zero_le _)]; simp
theorem slice_from (x : Str) (a : Nat) : Txt.slice x (some (a : Int)) none = ⟨(x.cps.toList.drop a).toArray⟩ := by
  have hn : x.cps.toList.length = x.length := by simp [Str.length]
  have e : Txt.slice x (some (a : Int)) none = Txt.slice x (some (a : Int)) (some ((max a x.length : Nat) : Int)) := by
    show StrLaws.sliceText x _ none = StrLaws.sliceText x _ _
    unfold StrLaws.sliceText
    rw [StrLaws.sliceIdx_none_hi, idx_clip, idx_clip x.length a (max a x.length)]
    rw [show min (max a x.length) x.length = min x.length x.length by omega]
  rw [e, slice_nat x a _ (by omega), List.take_of_length_le (by rw [List.length_drop]; omega)]
theorem starts_slash (x : Str) : Txt.startswith x (Str.ofString "/") = (x.cps.toList.take 1 == [47]) := by
  unfold Txt.startswith
  have e : (Str.ofString "/").cps.toList = [47] := by decide +kernel
  have e1 : (Str.ofString "/").length = 1 := by decide +kernel
  rw [StrLaws.subAt_eq, e, e1, List.drop_zero]
  cases h : x.cps.toList with
  | nil => simp
  | cons c r =>
    have : 1 ≤ x.length := by
      have hn : x.cps.toList.length = x.length := by simp [Str.length]
      rw [h] at hn; simp at hn; omega
    simp [this]
end Mine

/-! part Pure2 -/
namespace Mine
open PySem.Builtin PySem.Builtin.Str
/-- a text's signs -/
abbrev sg (x : Str) : List Nat := x.cps.toList
theorem sg_inj {x y : Str} (h : sg x = sg y) : x = y := Str.ext' (Array.toList_inj.mp h)
theorem sg_append (x y : Str) : sg (x ++ y) = sg x ++ sg y := by
  show (x ++ y).cps.toList = _
  rw [Str.cps_append]; simp
theorem sg_slash : sg (Str.ofString "/") = [47] := by decide +kernel
/-- where a sign first stands, the two sides are told -/
theorem cut_first {c : Nat} : ∀ {p q r1 r2 : List Nat}, c ∉ p → c ∉ q → p ++ c :: r1 = q ++ c :: r2 → p = q ∧ r1 = r2
  | [], [], _, _, _, _, h => ⟨rfl, (List.cons.inj h).2⟩
  | [], d :: q, _, _, _, hq, h => absurd (by rw [(List.cons.inj h).1]; exact List.mem_cons_self) hq
  | d :: p, [], _, _, hp, _, h => absurd (by rw [← (List.cons.inj h).1]; exact List.mem_cons_self) hp
  | d :: p, e :: q, r1, r2, hp, hq, h => by
    obtain ⟨h1, h2⟩ := List.cons.inj h
    obtain ⟨a, b⟩ := cut_first (fun m => hp (List.mem_cons_of_mem _ m)) (fun m => hq (List.mem_cons_of_mem _ m)) h2
    exact ⟨by rw [h1, a], b⟩
theorem join_cons (x : Str) (l : List Str) (hl : l ≠ []) : Str.join (Str.ofString "/") (x :: l) = x ++ Str.ofString "/" ++ Str.join (Str.ofString "/") l := by
  cases l with
  | nil => exact absurd rfl hl
  | cons y r => rfl
theorem sg_join_cons (x : Str) (l : List Str) (hl : l ≠ []) : sg (Str.join (Str.ofString "/") (x :: l)) = sg x ++ 47 :: sg (Str.join (Str.ofString "/") l) := by
  rw [join_cons x l hl, sg_append, sg_append, sg_slash]; simp
/-- texts without a slash are told by their join -/
theorem parts_unique : ∀ (ps qs : List Str), ps ≠ [] → qs ≠ [] → (∀ p ∈ ps, 47 ∉ sg p) → (∀ q ∈ qs, 47 ∉ sg q) → Str.join (Str.ofString "/") ps = Str.join (Str.ofString "/") qs → ps = qs
  | [], _, h, _, _, _, _ => absurd rfl h
  | _, [], _, h, _, _, _ => absurd rfl h
  | [p], [q], _, _, _, _, h => by rw [show p = q from h]
  | [p], q :: q' :: qs, _, _, hp, _, h => by
    have e := congrArg sg h
    rw [sg_join_cons q _ (by simp)] at e
    have : (47 : Nat) ∈ sg p := by
      show 47 ∈ sg (Str.join (Str.ofString "/") [p])
      rw [e]; simp
    exact absurd this (hp p List.mem_cons_self)
  | p :: p' :: ps, [q], _, _, _, hq, h => by
    have e := congrArg sg h
    rw [sg_join_cons p _ (by simp)] at e
    have : (47 : Nat) ∈ sg q := by
      show 47 ∈ sg (Str.join (Str.ofString "/") [q])
      rw [← e]; simp
    exact absurd this (hq q List.mem_cons_self)
  | p :: p' :: ps, q :: q' :: qs, _, _, hp, hq, h => by
    have e := congrArg sg h
    rw [sg_join_cons p _ (by simp), sg_join_cons q _ (by simp)] at e
    obtain ⟨a, b⟩ := cut_first (hp p List.mem_cons_self) (hq q List.mem_cons_self) e
    have r := parts_unique (p' :: ps) (q' :: qs) (by simp) (by simp) (fun x hx => hp x (List.mem_cons_of_mem _ hx)) (fun x hx => hq x (List.mem_cons_of_mem _ hx)) (sg_inj b)
    rw [sg_inj a, r]
theorem slash_is : Str.ofString "/" = ⟨#[47]⟩ := by decide +kernel
theorem split_ne (y : Str) : Txt.split y (Str.ofString "/") ≠ [] := fun h => by
  have := split_pos y (Str.ofString "/")
  rw [h] at this; simp at this
theorem split_noslash (y : Str) : ∀ p ∈ Txt.split y (Str.ofString "/"), 47 ∉ sg p := by
  rw [slash_is]; exact StrLaws.split_free y 47
/-- a piece without a slash, a slash, the rest -/
theorem split_cons (p y : Str) (hp : 47 ∉ sg p) : Txt.split (p ++ (Str.ofString "/" ++ y)) (Str.ofString "/") = p :: Txt.split y (Str.ofString "/") := by
  refine parts_unique _ _ (split_ne _) (by simp) (split_noslash _) (fun q hq => ?_) ?_
  · rcases List.mem_cons.mp hq with rfl | hq
    · exact hp
    · exact split_noslash y q hq
  · rw [StrLaws.join_split, join_cons _ _ (split_ne y), StrLaws.join_split]
    exact sg_inj (by simp only [sg_append, List.append_assoc])
end Mine

/-! part Pure3 -/
namespace Mine
open PySem.Builtin PySem.Builtin.Str
theorem mk_beq (l k : List Nat) (y : Str) (hy : sg y = k) : ((⟨l.toArray⟩ : Str) == y) = (l == k) := by
  rw [Bool.eq_iff_iff, beq_iff_eq, beq_iff_eq]
  constructor
  · intro h; rw [← hy, ← h]
  · intro h; exact sg_inj (by rw [hy, ← h])
theorem mk_bne (l k : List Nat) (y : Str) (hy : sg y = k) : ((⟨l.toArray⟩ : Str) != y) = (l != k) := by
  show (!(_ == _)) = (!(_ == _)); rw [mk_beq l k y hy]
theorem sg_slash2 : sg (Str.ofString "//") = [47, 47] := by decide +kernel
theorem sg_b : sg (Str.ofString "b") = [98] := by decide +kernel
theorem sg_sb : sg (Str.ofString "/b") = [47, 98] := by decide +kernel
theorem sg_empty : sg (Str.ofString "") = [] := by decide +kernel
theorem take1 (x : Str) : Txt.slice x none (some 1) = ⟨((sg x).take 1).toArray⟩ := slice_to x 1
theorem take2 (x : Str) : Txt.slice x none (some 2) = ⟨((sg x).take 2).toArray⟩ := slice_to x 2
theorem at1 (x : Str) : Txt.slice x (some 1) (some 2) = ⟨(((sg x).drop 1).take 1).toArray⟩ := slice_nat x 1 2 (by decide)
theorem at2 (x : Str) : Txt.slice x (some 2) (some 3) = ⟨(((sg x).drop 2).take 1).toArray⟩ := slice_nat x 2 3 (by decide)
theorem from1 (x : Str) : Txt.slice x (some 1) none = ⟨((sg x).drop 1).toArray⟩ := slice_from x 1
theorem from2 (x : Str) : Txt.slice x (some 2) none = ⟨((sg x).drop 2).toArray⟩ := slice_from x 2
theorem srRoot_eq (x : Str) : srRoot x = if ((sg x).take 1 != [47]) = true then Str.ofString "" else if (((sg x).drop 1).take 1 != [47]) = true then Str.ofString "/" else if (((sg x).drop 2).take 1 == [47]) = true then Str.ofString "/" else ⟨((sg x).take 2).toArray⟩ := by
  unfold srRoot
  rw [take1, at1, at2, take2, mk_bne _ _ _ sg_slash, mk_bne _ _ _ sg_slash, mk_beq _ _ _ sg_slash]
theorem srRest_eq (x : Str) : srRest x = if ((sg x).take 1 != [47]) = true then x else if (((sg x).drop 1).take 1 != [47]) = true then ⟨((sg x).drop 1).toArray⟩ else if (((sg x).drop 2).take 1 == [47]) = true then ⟨((sg x).drop 1).toArray⟩ else ⟨((sg x).drop 2).toArray⟩ := by
  unfold srRest
  rw [take1, at1, at2, from1, from2, mk_bne _ _ _ sg_slash, mk_bne _ _ _ sg_slash, mk_beq _ _ _ sg_slash]
theorem placeT_eq (x : Str) : placeT x = (if ((sg x).take 2 == [47, 47]) = true then (if (((sg x).drop 2).take 1 != [47]) = true then Str.ofString "//" else Str.ofString "/") else Str.ofString "/") ++
    Txt.join (Str.ofString "/") (List.foldl normStep (if ((sg x).take 1 == [47]) = true then [] else [Str.ofString "b"]) (Txt.split x (Str.ofString "/"))) := by
  unfold placeT
  rw [take1, at2, take2, mk_beq _ _ _ sg_slash, mk_beq _ _ _ sg_slash2, mk_bne _ _ _ sg_slash]
theorem step_empty (ws : List Str) : normStep ws (Str.ofString "") = ws := normStep_skip (.inl rfl)
theorem step_b : normStep [] (Str.ofString "b") = [Str.ofString "b"] := by decide +kernel
/-- a slash ahead is a piece of nothing -/
theorem fold_slash (ws : List Str) (r : List Nat) : List.foldl normStep ws (Txt.split ⟨(47 :: r).toArray⟩ (Str.ofString "/")) = List.foldl normStep ws (Txt.split ⟨r.toArray⟩ (Str.ofString "/")) := by
  have e : (⟨(47 :: r).toArray⟩ : Str) = Str.ofString "" ++ (Str.ofString "/" ++ ⟨r.toArray⟩) := sg_inj (by rw [sg_append, sg_append, sg_slash, sg_empty]; rfl)
  rw [e, split_cons _ _ (by rw [sg_empty]; simp), List.foldl_cons, step_empty]
theorem mk_sg (x : Str) : (⟨(sg x).toArray⟩ : Str) = x := sg_inj rfl
theorem joinT_slash {p : Str} {r : List Nat} (h : sg p = 47 :: r) : joinT p = p := by
  unfold joinT
  rw [if_pos]
  rw [starts_slash, show p.cps.toList = 47 :: r from h]; rfl
theorem joinT_plain {p : Str} (h : ((sg p).take 1 == [47]) = false) : joinT p = Str.ofString "/b" ++ (Str.ofString "/" ++ p) := by
  unfold joinT
  rw [if_neg]
  rw [starts_slash, show p.cps.toList = sg p from rfl, h]; simp
theorem place_eq (p : Str) : normT (joinT p) = placeT p ∧ 0 < (srRoot (joinT p)).length := by
  cases hc : ((sg p).take 1 == [47]) with
  | false =>
    rw [joinT_plain hc, placeT_eq, hc]
    have hs : sg (Str.ofString "/b" ++ (Str.ofString "/" ++ p)) = 47 :: 98 :: 47 :: sg p := by rw [sg_append, sg_append, sg_sb, sg_slash]; rfl
    have hroot : srRoot (Str.ofString "/b" ++ (Str.ofString "/" ++ p)) = Str.ofString "/" := by rw [srRoot_eq, hs]; rfl
    have hrest : srRest (Str.ofString "/b" ++ (Str.ofString "/" ++ p)) = Str.ofString "b" ++ (Str.ofString "/" ++ p) := by
      rw [srRest_eq, hs]
      exact sg_inj (by rw [sg_append, sg_append, sg_b, sg_slash]; rfl)
    have h2 : ((sg p).take 2 == [47, 47]) = false := by
      cases hl : sg p with
      | nil => rfl
      | cons c r =>
        rw [hl] at hc
        cases r with
        | nil => simp
        | cons d r' =>
          have hc' : (c == 47) = false := by simpa using hc
          simp only [List.take_succ_cons, List.take_zero]
          show (c == 47 && ([d] == [47])) = false
          rw [hc']; rfl
    refine ⟨?_, by rw [hroot]; decide +kernel⟩
    unfold normT
    rw [hroot, hrest, h2, split_cons _ _ (by rw [sg_b]; decide), List.foldl_cons, step_b]
    rfl
  | true =>
    cases hl : sg p with
    | nil => rw [hl] at hc; simp at hc
    | cons c r =>
      have hc47 : c = 47 := by rw [hl] at hc; simpa using hc
      subst hc47
      have hp : p = ⟨(47 :: r).toArray⟩ := hl ▸ (mk_sg p).symm
      rw [joinT_slash hl, placeT_eq, hc, hl]
      unfold normT
      rw [srRoot_eq, srRest_eq, hl]
      cases r with
      | nil =>
        refine ⟨?_, by decide +kernel⟩
        rw [hp, fold_slash]; rfl
      | cons d r' =>
        by_cases hd : d = 47
        · subst hd
          cases h3 : (r'.take 1 == [47]) with
          | true =>
            have h3' : (r'.take 1 != [47]) = false := by show (!_) = false; rw [h3]; rfl
            refine ⟨?_, ?_⟩
            · rw [hp, fold_slash]
              simp [h3, h3']
            · simp [h3]; decide +kernel
          | false =>
            have h3' : (r'.take 1 != [47]) = true := by show (!_) = true; rw [h3]; rfl
            refine ⟨?_, ?_⟩
            · rw [hp, fold_slash, fold_slash]
              simp [h3, h3']
              rfl
            · simp [h3, Str.length]
        · have hd' : ((d :: r').take 1 != [47]) = true := by simp [hd]
          have hd2 : ((47 :: d :: r').take 2 == [47, 47]) = false := by simp [hd]
          refine ⟨?_, ?_⟩
          · rw [hp, fold_slash]
            simp [hd]
          · simp [hd]; decide +kernel
end Mine

/-! part Pure5 -/
namespace Mine
/-- one text ahead of another -/
def ltS (a b : Str) : Bool := decide (a.cps.toList < b.cps.toList)
theorem ltS_irrefl (a : Str) : ltS a a = false := by
  unfold ltS; exact decide_eq_false (List.lt_irrefl _)
theorem ltS_asymm {a b : Str} (h : ltS a b = true) : ltS b a = false := by
  unfold ltS at *
  exact decide_eq_false (List.lt_asymm (of_decide_eq_true h))
theorem ltS_antisymm {a b : Str} (h1 : ltS a b = false) (h2 : ltS b a = false) : a = b := by
  unfold ltS at *
  have e : a.cps.toList = b.cps.toList := List.le_antisymm (List.not_lt.mp (of_decide_eq_false h2)) (List.not_lt.mp (of_decide_eq_false h1))
  exact Str.ext' (Array.toList_inj.mp e)
theorem ltS_trans' {a b c : Str} (h1 : ltS b a = false) (h2 : ltS c b = false) : ltS c a = false := by
  unfold ltS at *
  exact decide_eq_false (List.not_lt.mpr (List.le_trans (List.not_lt.mp (of_decide_eq_false h1)) (List.not_lt.mp (of_decide_eq_false h2))))
def Srt (l : List Str) : Prop := l.Pairwise fun a b => ltS b a = false
theorem srt_rising : ∀ (p : Str) (l : List Str), risingS p l = true → (p :: l).Pairwise fun a b => ltS b a = false
  | p, [], _ => List.pairwise_singleton _ _
  | p, x :: r, h => by
    have h' : (!ltCps x.cps.toList p.cps.toList && risingS x r) = true := h
    rw [Bool.and_eq_true] at h'
    have ih := srt_rising x r h'.2
    have h1 : ltS x p = false := by
      have e := h'.1
      rw [ltCps_eq] at e
      simpa [ltS] using e
    refine List.pairwise_cons.mpr ⟨fun y hy => ?_, ih⟩
    rcases List.mem_cons.mp hy with rfl | hy
    · exact h1
    · exact ltS_trans' h1 ((List.pairwise_cons.mp ih).1 y hy)
theorem srt_of : ∀ {l : List Str}, sortedS l = true → Srt l
  | [], _ => List.Pairwise.nil
  | x :: r, h => srt_rising x r h
theorem srt_eq {a b : List Str} (ha : Srt a) (hb : Srt b) (p : a.Perm b) : a = b :=
  p.eq_of_pairwise (fun x y _ _ h1 h2 => ltS_antisymm h2 h1) ha hb
theorem srt_filter {l : List Str} (p : Str → Bool) (h : Srt l) : Srt (l.filter p) := List.Pairwise.filter p h
/-- the tree of a sorted row: root, lesser side, greater side -/
def dueT (least : Bool) : Nat → List Str → List (Str × Nat)
  | 0, _ => []
  | n + 1, row => if row = [] then [] else
    (row.getD (mid least row.length) Str.empty, row.count (row.getD (mid least row.length) Str.empty)) ::
      (dueT least n (row.filter (ltS · (row.getD (mid least row.length) Str.empty))) ++ dueT least n (row.filter (ltS (row.getD (mid least row.length) Str.empty) ·)))
theorem dueT_nil (b : Bool) (n : Nat) : dueT b n [] = [] := by cases n <;> simp [dueT]
theorem mid_lt (b : Bool) {n : Nat} (h : 0 < n) : mid b n < n := by unfold mid; split <;> omega
theorem root_mem (b : Bool) {row : List Str} (h : row ≠ []) : row.getD (mid b row.length) Str.empty ∈ row := by
  have hl := mid_lt b (List.length_pos_iff.mpr h)
  rw [List.getD_eq_getElem?_getD, List.getElem?_eq_getElem hl]
  exact List.getElem_mem hl
theorem filter_two {p q : Str → Bool} (r : Str) (hp : p r = false) (hq : q r = false) (hpq : ∀ x, p x = true → q x = false) : ∀ (l : List Str), r ∈ l → (l.filter p).length + (l.filter q).length + 1 ≤ l.length := by
  have le : ∀ l : List Str, (l.filter p).length + (l.filter q).length ≤ l.length := by
    intro l
    induction l with
    | nil => simp
    | cons x l ih =>
      cases h1 : p x with
      | true => simp [h1, hpq x h1]; omega
      | false => cases h2 : q x <;> simp [h1, h2] <;> omega
  intro l
  induction l with
  | nil => intro h; nomatch h
  | cons x l ih =>
    intro hm
    rcases List.mem_cons.mp hm with rfl | hm
    · have := le l
      simp [hp, hq]; omega
    · have := ih hm
      cases h1 : p x with
      | true => simp [h1, hpq x h1]; omega
      | false => cases h2 : q x <;> simp [h1, h2] <;> omega
theorem sides_le (row : List Str) (r : Str) (h : r ∈ row) : (row.filter (ltS · r)).length + (row.filter (ltS r ·)).length + 1 ≤ row.length :=
  filter_two (p := fun z => ltS z r) (q := fun z => ltS r z) r (ltS_irrefl r) (ltS_irrefl r) (fun x hx => ltS_asymm hx) row h
theorem dueT_length (b : Bool) : ∀ (n : Nat) (row : List Str), (dueT b n row).length ≤ row.length
  | 0, _ => Nat.zero_le _
  | n + 1, row => by
    unfold dueT
    split
    · exact Nat.zero_le _
    · rename_i h
      have h1 := sides_le row _ (root_mem b h)
      have h2 := dueT_length b n (row.filter (ltS · (row.getD (mid b row.length) Str.empty)))
      have h3 := dueT_length b n (row.filter (ltS (row.getD (mid b row.length) Str.empty) ·))
      rw [List.length_cons, List.length_append]
      omega
theorem dueT_succ (b : Bool) (n : Nat) {row : List Str} {r : Str} (h : row ≠ []) (hr : row.getD (mid b row.length) Str.empty = r) : dueT b (n + 1) row = (r, row.count r) :: (dueT b n (row.filter (ltS · r)) ++ dueT b n (row.filter (ltS r ·))) := by
  conv => lhs; unfold dueT
  rw [if_neg h, hr]
theorem count_sides {r x : Str} (l : List Str) : (l.filter (ltS · r)).count x + (List.replicate (l.count r) r).count x = (l.filter (fun z => !ltS r z)).count x := by
  by_cases hx : x = r
  · subst hx
    rw [List.count_replicate_self, List.count_filter (p := fun z => !ltS x z) (a := x) (by simp [ltS_irrefl]), List.count_eq_zero.mpr, Nat.zero_add]
    intro hm
    have := (List.mem_filter.mp hm).2
    rw [ltS_irrefl] at this
    cases this
  · rw [List.count_replicate, if_neg (by simpa using Ne.symm hx), Nat.add_zero]
    cases h1 : ltS x r with
    | true => rw [List.count_filter (p := fun z => ltS z r) (a := x) h1, List.count_filter (p := fun z => !ltS r z) (a := x) (by simp [ltS_asymm h1])]
    | false =>
      have h2 : ltS r x = true := by
        cases h2 : ltS r x with
        | true => rfl
        | false => exact absurd (ltS_antisymm h1 h2) hx
      rw [List.count_eq_zero.mpr, List.count_eq_zero.mpr]
      · intro hm
        have := (List.mem_filter.mp hm).2
        rw [h2] at this; cases this
      · intro hm
        have := (List.mem_filter.mp hm).2
        rw [h1] at this; cases this
/-- what the difference finds: the greater places, none over -/
theorem uld_sides (bag : List Str) (r : Str) : uld bag.reverse (bag.filter (ltS · r) ++ List.replicate (bag.count r) r) [] = (bag.reverse.filter (ltS r ·), []) := by
  have h := uld_filter (fun z => !ltS r z) bag.reverse (bag.filter (ltS · r) ++ List.replicate (bag.count r) r) [] (by
    rw [List.perm_iff_count]
    intro x
    rw [List.count_append, count_sides, List.filter_reverse, List.count_reverse])
  rw [h]
  simp
end Mine

/-! part Base9 -/
namespace Mine
/-- a list of pairs [text, number], told of by the objects that are listed -/
inductive ResIn (ents : List (Addr × Obj)) : List Value → List (Str × Nat) → Prop
  | nil : ResIn ents [] []
  | cons {a : Addr} {x : Str} {n : Nat} {t t' : Tok} {k : Nat} {vs : List Value} {ps : List (Str × Nat)} (h : (a, lstO [.str x t, .int (n : Int) t'] k) ∈ ents) (r : ResIn ents vs ps) : ResIn ents (.ref a :: vs) ((x, n) :: ps)
theorem ResIn.mono {e₁ e₂ : List (Addr × Obj)} {vs : List Value} {ps : List (Str × Nat)} (h : ResIn e₁ vs ps) (k : ∀ p ∈ e₁, p ∈ e₂) : ResIn e₂ vs ps := by
  induction h with
  | nil => exact .nil
  | cons h r ih => exact .cons (k _ h) ih
theorem ResIn.append {e : List (Addr × Obj)} {vs us : List Value} {ps qs : List (Str × Nat)} (h : ResIn e vs ps) (h2 : ResIn e us qs) : ResIn e (vs ++ us) (ps ++ qs) := by
  induction h with
  | nil => exact h2
  | cons h r ih => exact .cons h ih
theorem ResIn.length {e : List (Addr × Obj)} {vs : List Value} {ps : List (Str × Nat)} (h : ResIn e vs ps) : vs.length = ps.length := by
  induction h with
  | nil => rfl
  | cons h r ih => simp [ih]
/-- a pair ahead of two lists of pairs -/
theorem res_end {P : Addr × Obj → Prop} {R0 : Addr} {news ents ents2 : List (Addr × Obj)} {r : Str} {c : Nat} {t t' : Tok} {k : Nat} {refs refs2 : List Value} {ps qs : List (Str × Nat)} (af : ∀ p ∈ news, P p) (m0 : (R0, lstO [.str r t, .int (c : Int) t'] k) ∈ news)
    (m1 : ∀ p ∈ ents, p ∈ news) (m2 : ∀ p ∈ ents2, p ∈ news) (R1 : ResIn ents refs ps) (R2 : ResIn ents2 refs2 qs) :
    ∃ all, (∀ p ∈ all, P p) ∧ ResIn all ([.ref R0] ++ refs ++ refs2) ((r, c) :: (ps ++ qs)) := by
  refine ⟨(R0, lstO [.str r t, .int (c : Int) t'] k) :: (ents ++ ents2), fun p hp => ?_, ?_⟩
  · rcases List.mem_cons.mp hp with rfl | hp
    · exact af _ m0
    · rcases List.mem_append.mp hp with hp | hp
      · exact af _ (m1 p hp)
      · exact af _ (m2 p hp)
  · rw [List.append_assoc]
    exact .cons List.mem_cons_self ((R1.mono fun p hp => List.mem_cons_of_mem _ (List.mem_append_left _ hp)).append (R2.mono fun p hp => List.mem_cons_of_mem _ (List.mem_append_right _ hp)))
theorem news_assoc {g h : Heap} {L : Addr} {lits e e2 frs : List (Addr × Obj)} (N : News g L h (lits ++ (e ++ (e2 ++ frs)))) : News g L h ((lits ++ (e ++ e2)) ++ frs) := by
  simpa only [List.append_assoc] using N
end Mine

/-! part Rules3 -/
namespace Mine
theorem units_ar {dp un : Nat} {fr : Option (List Env)} {gd : Option (List Code)} {env : Env} (h : un + 3 < 9900) : ((ar dp un fr gd).deeper env).units < 9900 := h
theorem countIn_strs (k : Str) : ∀ (ys : List Str), countIn (.str k) (ys.map PyData.str) = ((ys.count k : Nat) : Int)
  | [] => rfl
  | y :: r => by
    have ih := countIn_strs k r
    rw [List.map_cons, Spec.countIn, ih, List.count_cons]
    by_cases hy : y = k
    · subst hy; simp [Spec.same]; omega
    · have h1 : Spec.same (.str y) (.str k) = false := by simp [Spec.same, hy]
      have h2 : (y == k) = false := by simpa using hy
      rw [h1, h2]; simp
theorem strs_replicate (r : Str) (t : Tok) : ∀ c : Nat, StrsAre (List.replicate c [Value.str r t]).flatten (List.replicate c r)
  | 0 => .nil
  | c + 1 => by
    rw [List.replicate_succ, List.replicate_succ, List.flatten_cons]
    exact .cons r t (strs_replicate r t c)
section
variable {prog : Program} {w : World} {A : Around} {E : Value → Shared → Prop} {s : Shared} {h₀ : Heap} {L a b : Addr} {m : Str → Option Value} {news news' : List (Addr × Obj)} {vs us : List Value} {ss ws : List Str} {k k2 : Nat}
theorem led_of (N : News h₀ L s.heap news) (hm : (a, lstO us k) ∈ news) : s.heap.IsList a us.toArray := ⟨_, (N _ hm).1, rfl, k, rfl⟩
theorem isl {h : Heap} (hl : h.get? a = some (lstO us k)) : h.IsList a us.toArray := ⟨_, hl, rfl, k, rfl⟩
theorem list_of (F : Fr h₀ L s.heap m) (hl : h₀.get? a = some (lstO us k)) : s.heap.IsList a us.toArray := isl (F.keep _ _ hl)
theorem base_of {o : Obj} (F : Fr h₀ L s.heap m) (hl : h₀.get? a = some o) : s.heap.get? a = some o := F.keep _ _ hl
theorem m_meth {name : Str} {id : String} {pl : Sem Bool} {Q : Value × List Value → Shared → Prop} (hl : s.heap.get? a = some (lstO us k)) (slot : Slot "list" name id) (hty : typeOf (.builtin id) = pure (.type "method_descriptor"))
    (h : Q (.builtin id, [.ref a]) s) : wpAny (model prog w) A (getMethod (.ref a) name pl) Q E s :=
  getMethod_builtin ⟨_, hl, rfl⟩ PySem.F.plainAttrs_list slot hty (fun a e => by cases e; exact ⟨_, hl, rfl⟩) h
theorem m_eq_nil {Q : Value → Shared → Prop} (hl : s.heap.IsList a vs.toArray) (hS : StrsAre vs ss) (hb : s.heap.IsList b #[]) (hu : A.units < 9900)
    (h1 : ss = [] → Q (.bool true) s) (h2 : 0 < ss.length → Q (.bool false) s) : wpAny (model prog w) A (compareOp .Eq (.ref a) (.ref b)) Q E s := by
  cases hS with
  | nil => exact SeqAt.eq_listAt (e := fun _ => true) hl hb rfl hu (fun j hj => absurd hj (by simp)) (h1 rfl)
  | cons x t r => exact SeqAt.eq_list_lengthsAt hl hb (by simp) hu (h2 (by simp))
theorem mid_t {least : Bool} {n : Nat} (h : least = true) : mid least n = (n - 1) / 2 := by simp [mid, h]
theorem mid_f {least : Bool} {n : Nat} (h : least = false) : mid least n = n / 2 := by simp [mid, h]
theorem m_mid {value slice : Expr} {least : Bool} {i : Int} {u : Tok} {Q : Value → Shared → Prop} (hl : s.heap.IsList a vs.toArray) (hS : StrsAre vs ss) (h64 : ss.length < 64) (hp : 0 < ss.length) (hi : i = ((mid least ss.length : Nat) : Int))
    (h : ∀ r t, ss.getD (mid least ss.length) Str.empty = r → Q (.str r t) s)
    (hs : subscripted slice false (.ref a) (.int i u) = operate [.ref a, .int i u] (getItem (.ref a) (.int i u)) := by with_unfolding_all rfl) : wpAny (model prog w) A (subscriptTail value slice (.ref a) (.int i u)) Q E s := by
  subst hi
  have hm := mid_lt least hp
  refine KTb.item_list hl hS (by omega) (by omega) (by omega) (fun t' _ => ?_) hs
  rw [Int.toNat_natCast]
  exact h _ _ rfl
theorem m_lenL {Q : Value → Shared → Prop} (hl : s.heap.IsList a us.toArray) (hS : StrsAre us ws) (hb : ws.length < 64)
    (h : ∀ t tk, Q (.int (ws.length : Int) t) { s with toks := tk }) : wpAny (model prog w) A (call (.builtin "len") [.ref a]) Q E s :=
  len_strsA (l := us) hl hS (by omega) (h _ _)
theorem m_countL {t : Tok} {r : Str} {Q : Value → Shared → Prop} (hl : s.heap.IsList a us.toArray) (hS : StrsAre us ws)
    (h : ∀ t tk, Q (.int ((ws.count r : Nat) : Int) t) { s with toks := tk }) : wpAny (model prog w) A (call (.builtin "list.count") [.ref a, .str r t]) Q E s :=
  count_list_strs hl hS (by rw [countIn_strs]; exact h _ _)
theorem m_addL {Q : Value → Shared → Prop} (F : Fr h₀ L s.heap m) (N : News h₀ L s.heap news) (ma : (a, lstO us k) ∈ news) (mb : (b, lstO vs k2) ∈ news) (h1 : us.length ≤ 4000) (h2 : vs.length ≤ 4000)
    (h : ∀ h' D, Fr h₀ L h' m → News h₀ L h' ((D, lstO (us ++ vs) 0) :: news) → (∀ p ∈ news, p.1 < D) → Q (.ref D) { s with heap := h' }) : wpAny (model prog w) A (binaryOp .Add (.ref a) (.ref b)) Q E s := by
  refine add_arrays F N (led_of N ma) (led_of N mb) (fun h' F' N' => h h' _ F' ?_ fun p hp => Heap.lt_size (N p hp).1) (by rw [List.size_toArray, List.size_toArray, PySem.sizeLine_eq]; omega)
  exact N'
theorem m_sliceAll {value slice : Expr} {Q : Value → Shared → Prop} (F : Fr h₀ L s.heap m) (N : News h₀ L s.heap news) (hl : s.heap.IsList a vs.toArray) (hz : vs.length ≤ 4000)
    (h : ∀ D h', Fr h₀ L h' m → News h₀ L h' ((D, lstO vs 0) :: news) → (∀ p ∈ news, p.1 < D) → Q (.ref D) { s with heap := h' })
    (hs : subscripted slice false (.ref a) (.ref s.heap.objs.size) = operate [.ref s.heap.objs.size, .ref a] (getItem (.ref a) (.ref s.heap.objs.size))) (ht : ∀ r, letTemporaryGo value (.ref a) r = pure ()) :
    wpAny (model prog w) A (subscriptTail value slice (.ref a) (.ref s.heap.objs.size)) Q E { s with heap := s.heap.push { cls := .type "slice", data := .fields #[.none, .none, .none] } } :=
  kmk_slice_lit F N hl .none .none (zs := vs) (by rw [slicePick_all]) h hs ht (by rw [List.size_toArray, PySem.sizeLine_eq]; omega)
theorem m_mul {r : Str} {t u : Tok} {x : Int} {c : Nat} {Q : Value → Shared → Prop} (F : Fr h₀ L s.heap m) (N : News h₀ L s.heap news) (ma : (a, lstO [.str r t] k) ∈ news) (hx : x = (c : Int)) (hc : c < 64)
    (h : ∀ h' D us, Fr h₀ L h' m → News h₀ L h' ((D, lstO us 0) :: news) → (∀ p ∈ news, p.1 < D) → StrsAre us (List.replicate c r) → Q (.ref D) { s with heap := h' }) : wpAny (model prog w) A (binaryOp .Mult (.ref a) (.int x u)) Q E s := by
  subst hx
  refine mul_list F N (items := [Value.str r t].toArray) (k := k) (N.get ma) (by omega) (by omega) (by rw [List.size_toArray, List.length_singleton]; omega) fun h' F' N' => h h' _ (List.replicate c [Value.str r t]).flatten F' ?_ (fun p hp => Heap.lt_size (N p hp).1) (strs_replicate r t c)
  rw [listMul_foldl_if] at N'
  exact N'
end
end Mine

/-! part Base10 -/
namespace Mine
section
variable {prog : Program} {w : World} {A : Around} {s : Shared} {Q E : Value → Shared → Prop} {mean : ExcName → Option Value} {mg mb : Str → Option Value}
  {name qual : Str} {params : Arguments} {body : List Stmt} {scope : Scope} {dV kV doc pm cdv ct oc : Value} {an od : Option Addr} {osl : Array (Option Value)} {f : Addr} {args : List Value} {binds : List (Str × Value)}
/-- a def with cells that may change the objects of news; it must not raise -/
theorem enterHC {g₀ : Heap} {news : List (Addr × Obj)} (G : Gr w mean mg mb g₀) (k₀ : Keep g₀ s.heap) (hn : ∀ p ∈ news, s.heap.get? p.1 = some p.2 ∧ g₀.get? p.1 = none)
    (ho : (hd.heap_39 w.params).lookup f = some ⟨oc, od, .func (fnOf name qual params body scope dV kV doc pm an cdv ct), osl⟩) (hcd : codeIn (hd.heap_39 w.params) cdv qual = true) (hroom : A.depth < recursionLimit)
    (hbind : BindsTo s (fnOf name qual params body scope dV kV doc pm an cdv ct) ⟨args, []⟩ binds) (hkind : (binds.all fun y => scope.names.lookup y.1 == some .local || scope.names.lookup y.1 == some .cell) = true)
    (hnd : ((cellsFrom 0 scope.names []).map (·.1)).Nodup)
    (h : ∀ g L h₁ tk cells, Gr w mean mg mb g → Keep g₀ g → (∀ b o, b ∉ news.map (·.1) → s.heap.get? b = some o → g.get? b = some o) → Keep g s.heap → Fr g L h₁ (bindL (envOfC qual scope L f cdv).kindOf binds fun _ => none) → News g L h₁ (cells ++ news) →
      CellsAre (bindC (envOfC qual scope L f cdv).kindOf binds fun _ => none) (cellsFrom (L + 1) scope.names []) cells → (∀ p ∈ news, p.1 < L) →
      wpAny (model prog w) (A.deeper (envOfC qual scope L f cdv)) (execs body (envOfC qual scope L f cdv))
        (fun fl s' => Q (match fl with | .ret v => v | _ => .none) s') (fun _ _ => False)
        { s with heap := h₁, toks := tk })
    (hco : scope.isCoroutine = false) (hgen : scope.isGenerator = false) (hk : scope.kind = .function) : wpAny (model prog w) A (call (.ref f) args) Q E s := by
  have G' : Gr w mean mg mb s.heap := G.keeps k₀
  have hide : ∀ b o, b ∉ news.map (·.1) → s.heap.get? b = some o → (hideAll s.heap (news.map (·.1))).get? b = some o := fun b o hb e => hideAll_get _ e hb
  have kg : Keep g₀ (hideAll s.heap (news.map (·.1))) := fun b o e => hide b o (fun hb => by
    obtain ⟨p, hp, rfl⟩ := List.mem_map.mp hb
    rw [(hn p hp).2] at e; cases e) (k₀ b o e)
  refine wpAny_call ?_
  refine codeAny_call_function (fd := fnOf name qual params body scope dV kV doc pm an cdv ct) (body := body) hroom (G'.X _ _ ho) rfl hco hgen rfl (codeRec_of G'.X hcd) (hbind _ _ _ _ ?_)
  refine wpAny_newFunctionEnv_cells hk (kindsX hkind _) fun env' he s' x => ?_
  subst he
  refine ⟨G'.T.nolimit.keeps x.toInCall.keep, codeAny_func ?_⟩
  obtain ⟨h₁, tk, rfl, _⟩ := x.done
  have hk₁ := x.toInCall.keep
  obtain ⟨cells, NC, Y⟩ := Cl.news (h₀ := s.heap) (Nat.le_refl _) fun n c hm => ⟨x.cell n c (lookup_of_mem_nodup (cellsFrom_names scope.names 0 (s.heap.objs.size + 1) [] [] rfl ▸ hnd) hm), x.above n c hm⟩
  refine wpAny_mono (h (hideAll s.heap (news.map (·.1))) s.heap.objs.size h₁ tk cells (G.keeps kg) kg hide (fun b o e => of_hideAll _ e) ⟨x.toInCall.ns, fun b o e => hk₁ b o (of_hideAll _ e), Nat.le_of_eq (hideAll_size _ _)⟩ (fun p hp => ?_) Y (fun p hp => Heap.lt_size (hn p hp).1)) (fun fl s' hl => hl) fun _ _ y => y.elim
  rcases List.mem_append.mp hp with hp | hp
  · refine ⟨(NC p hp).1, (NC p hp).2.1, ?_⟩
    cases q : (hideAll s.heap (news.map (·.1))).get? p.1 with
    | none => rfl
    | some o => have := of_hideAll _ q; rw [(NC p hp).2.2] at this; cases this
  · exact ⟨hk₁ _ _ (hn p hp).1, Nat.ne_of_lt (Heap.lt_size (hn p hp).1), hideAll_none _ (List.mem_map_of_mem hp)⟩
end
/-- the middle one of a row, as the function handed in finds it -/
def MidCall (prog : Program) (w : World) (least : Bool) (mid' : Addr) (g : Heap) : Prop :=
  ∀ {s : Shared} {Q E : Value → Shared → Prop} {l : Addr} {vs : List Value} {ss : List Str}, Keep g s.heap → s.heap.IsList l vs.toArray → StrsAre vs ss → 0 < ss.length → ss.length < 64 →
    ∀ {dp un : Nat} {fr : Option (List Env)} {gd : Option (List Code)}, dp + 16 < recursionLimit →
    (∀ h' tk t' row, Keep s.heap h' → row.Perm ss → sortedS row = true → Q (.str (row.getD (mid least ss.length) Str.empty) t') { s with heap := h', toks := tk }) →
    wpAny (model prog w) (ar dp un fr gd) (call (.ref mid') [.ref l]) Q E s
structure MidAt (prog : Program) (w : World) (least : Bool) (mid' : Addr) (g : Heap) : Prop where
  fn : FnAt mid' g
  run : MidCall prog w least mid' g
theorem fnAt_up {q : Addr} {g g' : Heap} (X : FnAt q g) (k : Keep g g') : FnAt q g' := let ⟨oc, od, fd, sl, e⟩ := X; ⟨oc, od, fd, sl, k _ _ e⟩
theorem MidAt.up {prog : Program} {w : World} {least : Bool} {mid' : Addr} {g g' : Heap} (M : MidAt prog w least mid' g) (k : Keep g g') : MidAt prog w least mid' g' :=
  ⟨fnAt_up M.fn k, fun K hl hS h0 h64 _ _ _ _ hr h => M.run (k.trans K) hl hS h0 h64 hr h⟩
theorem MidAt.at {prog : Program} {w : World} {least : Bool} {mid' L : Addr} {g h : Heap} {m : Str → Option Value} (M : MidAt prog w least mid' g) (F : Fr g L h m) : FnAt mid' h := fnAt_up M.fn F.keep
theorem base_none {g h : Heap} (k : Keep g h) {b : Addr} (e : h.get? b = none) : g.get? b = none := by
  cases q : g.get? b with
  | none => rfl
  | some x => rw [k b x q] at e; cases e
theorem notDict_list {l : List (Addr × Obj)} (h : ∀ p ∈ l, TI.notDict p = true) : l.all TI.notDict = true := List.all_eq_true.mpr h
/-- the frame, as one more of the callers' frames -/
theorem frame_on {g h : Heap} {L : Addr} {m : Str → Option Value} {le : List Env} {frs news : List (Addr × Obj)} (F : Fr g L h m) (N : News g L h news) (Fs : TI.Frs le frs) (hsub : ∀ p ∈ frs, p ∈ news) {env : Env} (hk : env.scope.kind ≠ .module) (hf : env.frame = some L) :
    ∃ oL, h.get? L = some oL ∧ TI.Frs (env :: le) ((L, oL) :: frs) ∧ (∀ p ∈ (L, oL) :: frs, h.get? p.1 = some p.2 ∧ g.get? p.1 = none) := by
  obtain ⟨oL, es, ep, ho, hd, _⟩ := id F.ns
  refine ⟨oL, ho, ⟨hk, hf, ⟨es, ep, hd⟩, Fs⟩, fun p hp => ?_⟩
  rcases List.mem_cons.mp hp with rfl | hp
  · exact ⟨ho, Heap.get?_none_of_le F.above⟩
  · exact ⟨(N p (hsub p hp)).1, (N p (hsub p hp)).2.2⟩
/-- the frame and the ledger behind a call that may write into the slots of the callers' frames -/
theorem frame_off {g h h' : Heap} {L : Addr} {m : Str → Option Value} {le : List Env} {frs frs₂ rest : List (Addr × Obj)} {oL : Obj} (F : Fr g L h m) (N : News g L h (rest ++ frs)) (Fs : TI.Frs le frs) (hL : h.get? L = some oL)
    (k : ∀ b o, b ∉ L :: frs.map (·.1) → g.get? b = some o → h'.get? b = some o) (SU : TI.SameUp ((L, oL) :: frs) frs₂) (hf : ∀ p ∈ frs₂, h'.get? p.1 = some p.2) :
    ∃ frs', TI.SameUp frs frs' ∧ TI.Frs le frs' ∧ Fr g L h' m ∧ News g L h' frs' := by
  cases frs₂ with
  | nil => exact SU.elim
  | cons q frs' =>
    obtain ⟨q1, ⟨sl, q2⟩, SU'⟩ := SU
    refine ⟨frs', SU', Fs.up SU', ⟨?_, fun b o e => k b o (TI.base_apart F N (fun p hp => List.mem_append_right _ hp) e) e, F.above⟩, fun p hp => ?_⟩
    · obtain ⟨o, es, ep, ho, hd, r⟩ := id F.ns
      have h1 := hf q List.mem_cons_self
      rw [q1, q2] at h1
      rw [hL] at ho
      cases ho
      exact ⟨_, es, ep, h1, hd, r⟩
    · obtain ⟨x, hx, e⟩ := SU'.fwd p hp
      have z := N x (List.mem_append_right _ hx)
      exact ⟨hf p (List.mem_cons_of_mem _ hp), by rw [e]; exact z.2.1, by rw [e]; exact z.2.2⟩
theorem all_fresh {g h hs : Heap} {L : Addr} {rest frs frs3 : List (Addr × Obj)} {le : List Env} (hide : ∀ b o, b ∉ frs.map (·.1) → hs.get? b = some o → g.get? b = some o) (N : News g L h (rest ++ frs3)) (Fs : TI.Frs le frs3) (SU : TI.SameUp frs frs3) (hr : ∀ p ∈ rest, TI.notDict p = true) :
    ∀ p ∈ rest, h.get? p.1 = some p.2 ∧ hs.get? p.1 = none ∧ TI.notDict p = true := fun p hp => by
  have z := N p (List.mem_append_left _ hp)
  refine ⟨z.1, fresh_of hide z.2.2 (fun hm => ?_), hr p hp⟩
  have a := TI.new_apart Fs N (notDict_list hr) hp
  rw [sameUp_map SU] at a
  exact a (List.mem_cons_of_mem _ hm)
/-- what _law_tree promises of a bag of at most n texts -/
def TreeAt (prog : Program) (w : World) (mean : ExcName → Option Value) (mg mb : Str → Option Value) (least : Bool) (n : Nat) : Prop :=
  ∀ {s : Shared} {Q E : Value → Shared → Prop} {l mid' : Addr} {vs : List Value} {ss row : List Str} {k : Nat} {g₀ : Heap} {le : List Env} {frs : List (Addr × Obj)}, Gr w mean mg mb g₀ → Keep g₀ s.heap → MidAt prog w least mid' g₀ → TI.Frs le frs → (∀ p ∈ frs, s.heap.get? p.1 = some p.2 ∧ g₀.get? p.1 = none) →
    s.heap.get? l = some (lstO vs k) → StrsAre vs ss → Srt row → row.Perm ss → ss.length ≤ n → ss.length < 64 →
    ∀ {dp un : Nat} {gd : Option (List Code)}, dp + n + 30 < recursionLimit → un + 3 * n + 50 < 9900 →
    (∀ h' tk D refs k ents frs', KeepBut (frs.map (·.1)) s.heap h' → s.heap.get? D = none → h'.get? D = some (lstO refs k) → (∀ p ∈ ents, h'.get? p.1 = some p.2 ∧ s.heap.get? p.1 = none ∧ TI.notDict p = true) → TI.SameUp frs frs' → (∀ p ∈ frs', h'.get? p.1 = some p.2) →
      ResIn ents refs (dueT least n row) → Q (.ref D) { s with heap := h', toks := tk }) →
    wpAny (model prog w) (ar dp un (some le) gd) (call (.ref 180) [.ref l, .ref mid']) Q E s
section
variable {prog : Program} {w : World} {s : Shared} {Q E : Value → Shared → Prop} {mean : ExcName → Option Value} {mg mb : Str → Option Value}
theorem tree_call {least : Bool} {n : Nat} (hd : TreeAt prog w mean mg mb least n) {g : Heap} {L a mid' : Addr} {m : Str → Option Value} {rest frs : List (Addr × Obj)} {le : List Env} {env : Env} {us : List Value} {ws row : List Str} {k : Nat}
    (G : Gr w mean mg mb g) (M : MidAt prog w least mid' g) (Fs : TI.Frs le frs) (F : Fr g L s.heap m) (N : News g L s.heap (rest ++ frs)) (hm : (a, lstO us k) ∈ rest ++ frs) (hr : ∀ p ∈ rest, TI.notDict p = true)
    (hS : StrsAre us ws) (hrow : Srt row) (hp : row.Perm ws) (hn : ws.length ≤ n) (h64 : ws.length < 64) {dp un : Nat} {gd : Option (List Code)} (hk : env.scope.kind ≠ .module) (hf : env.frame = some L)
    (hroom : dp + n + 30 < recursionLimit) (hun : un + 3 * n + 50 < 9900)
    (h : ∀ h' tk D refs k ents frs', TI.SameUp frs frs' → TI.Frs le frs' → Fr g L h' m → News g L h' ((D, lstO refs k) :: (rest ++ (ents ++ frs'))) → (∀ p ∈ ents, TI.notDict p = true) → ResIn ents refs (dueT least n row) → Q (.ref D) { s with heap := h', toks := tk }) :
    wpAny (model prog w) (ar dp un (some (env :: le)) gd) (call (.ref 180) [.ref a, .ref mid']) Q E s := by
  obtain ⟨oL, hL, Fs', hfr⟩ := frame_on F N Fs (fun p hp => List.mem_append_right _ hp) hk hf
  refine hd G F.keep M Fs' hfr (N.get hm) hS hrow hp hn h64 hroom hun fun h' tk D refs k ents frs₂ kp hD hD' he SU hf₂ R => ?_
  obtain ⟨frs', SU', Fs₂, F', Nf⟩ := frame_off (h' := h') F N Fs hL (fun b o hb e => kp b o hb (F.keep b o e)) SU hf₂
  have fresh : ∀ b o, s.heap.get? b = none → h'.get? b = some o → h'.get? b = some o ∧ b ≠ L ∧ g.get? b = none := fun b o e e' => ⟨e', fun q => (by rw [q, hL] at e; cases e), base_none F.keep e⟩
  refine h h' tk D refs k ents frs' SU' Fs₂ F' (fun p hp => ?_) (fun p hp => (he p hp).2.2) R
  rcases List.mem_cons.mp hp with rfl | hp
  · exact fresh _ _ hD hD'
  · rcases List.mem_append.mp hp with hp | hp
    · have z := N p (List.mem_append_left _ hp)
      exact ⟨kp _ _ (TI.new_apart Fs N (notDict_list hr) hp) z.1, z.2⟩
    · rcases List.mem_append.mp hp with hp | hp
      · exact fresh _ _ (he p hp).2.1 (he p hp).1
      · exact Nf p hp
theorem uld_call {g : Heap} {L ea aa : Addr} {m : Str → Option Value} {rest frs kept : List (Addr × Obj)} {le : List Env} {env : Env} {us vs : List Value} {xs ys : List Str} {k1 k2 : Nat}
    (G : Gr w mean mg mb g) (Fs : TI.Frs le frs) (F : Fr g L s.heap m) (N : News g L s.heap (rest ++ frs)) (me : (ea, lstO us k1) ∈ rest ++ frs) (ma : (aa, lstO vs k2) ∈ rest ++ frs) (hne : (@Ne Nat ea aa)) (hr : rest.all TI.notDict = true)
    (hks : ∀ p ∈ kept, p ∈ rest) (hke : ∀ p ∈ kept, (@Ne Nat p.1 ea) ∧ (@Ne Nat p.1 aa))
    (hU : StrsAre us xs) (hV : StrsAre vs ys) (hxl : xs.length < 64) (hyl : ys.length < 64) {dp un : Nat} {gd : Option (List Code)} (hk : env.scope.kind ≠ .module) (hf : env.frame = some L) (hroom : dp + 12 < recursionLimit)
    (h : ∀ h' tk D M zs k3 vs' k2' frs', TI.SameUp frs frs' → TI.Frs le frs' → Fr g L h' m → News g L h' ((D, tupO [.ref M, .ref aa]) :: (M, lstO zs k3) :: (aa, lstO vs' k2') :: (kept ++ frs')) →
      StrsAre zs (uld xs.reverse ys []).1 → StrsAre vs' (uld xs.reverse ys []).2 → Q (.ref D) { s with heap := h', toks := tk }) :
    wpAny (model prog w) (ar dp un (some (env :: le)) gd) (call (.ref 163) [.ref ea, .ref aa]) Q E s := by
  obtain ⟨oL, hL, Fs', hfr⟩ := frame_on F N Fs (fun p hp => List.mem_append_right _ hp) hk hf
  refine uld_strs G F.keep (N.get me) (N.get ma) (N.fresh me) (N.fresh ma) hne Fs' hfr hU hV hxl hyl hroom fun h' tk D M zs k3 vs' k2' frs₂ kp hD hM _ hD' hM' ha' hz hv SU hf₂ => ?_
  have gne : ∀ {b c : Addr} {o : Obj}, g.get? c = none → g.get? b = some o → b ≠ c := fun h1 h2 q => by rw [q, h1] at h2; cases h2
  obtain ⟨frs', SU', Fs₂, F', Nf⟩ := frame_off (h' := h') F N Fs hL (fun b o hb e => kp b o (not_mem3 (gne (N.fresh me) e) (gne (N.fresh ma) e) hb) (F.keep b o e)) SU hf₂
  have fresh : ∀ b o, s.heap.get? b = none → h'.get? b = some o → h'.get? b = some o ∧ b ≠ L ∧ g.get? b = none := fun b o e e' => ⟨e', fun q => (by rw [q, hL] at e; cases e), base_none F.keep e⟩
  refine h h' tk D M zs k3 vs' k2' frs' SU' Fs₂ F' (fun p hp => ?_) hz hv
  rcases List.mem_cons.mp hp with rfl | hp
  · exact fresh _ _ hD hD'
  · rcases List.mem_cons.mp hp with rfl | hp
    · exact fresh _ _ hM hM'
    · rcases List.mem_cons.mp hp with rfl | hp
      · exact ⟨ha', (N _ ma).2⟩
      · rcases List.mem_append.mp hp with hp | hp
        · have z := N p (List.mem_append_left _ (hks p hp))
          exact ⟨kp _ _ (not_mem3 (hke p hp).1 (hke p hp).2 (TI.new_apart Fs N hr (hks p hp))) z.1, z.2⟩
        · exact Nf p hp
end
end Mine

/-! part C11 -/
namespace Mine
local macro_rules | `(tactic| walk_at "pad") => `(tactic| fail "pad")
local macro_rules | `(tactic| walk_at "pad") => `(tactic| fail "pad")
local macro_rules | `(tactic| walk_at "pad") => `(tactic| fail "pad")
local macro_rules | `(tactic| walk_at "pad") => `(tactic| fail "pad")
local macro_rules | `(tactic| walk_at "pad") => `(tactic| fail "pad")
local macro_rules | `(tactic| walk_at "pad") => `(tactic| fail "pad")
local macro_rules | `(tactic| walk_at "pad") => `(tactic| fail "pad")
local macro_rules | `(tactic| walk_at "pad") => `(tactic| fail "pad")
local macro_rules | `(tactic| walk_at "pad") => `(tactic| fail "pad")
local macro_rules | `(tactic| walk_at "pad") => `(tactic| fail "pad")
local macro_rules | `(tactic| walk_at "pad") => `(tactic| fail "pad")
local macro_rules | `(tactic| walk_at "pad") => `(tactic| fail "pad")
local macro_rules | `(tactic| walk_at "pad") => `(tactic| fail "pad")
section
variable {prog : Program} {w : World} {s : Shared} {Q E : Value → Shared → Prop} {mean : ExcName → Option Value} {mg mb : Str → Option Value}
local macro_rules | `(tactic| walk_at "m_steps") => `(tactic| repeat' (first | (k_unfold; (try dsimp only)) | walk1 | (dsimp only; walk1) | fail "no step"))
local macro_rules | `(tactic| walk_at "m_enterC") => `(tactic| ((case k6 => k_is); (case k7 => k_is); (case k8 => (dsimp only; omega)); (case k9 => exact BindsTo.of_eq rfl); (case kB => exact rfl); (case kD => decide +kernel); (case c2 => exact rfl); (case c3 => exact rfl); (case c4 => exact rfl)))
local macro_rules | `(tactic| walk_at "CompSrc") => `(tactic| (k_here; refine stop_here ?_))
local macro_rules | `(tactic| walk_at "CompEnd") => `(tactic| (k_here; refine stop_here ?_))
local macro_rules | `(tactic| walk_at "call ref") => `(tactic| (k_here; refine stop_here ?_))
local macro_rules | `(tactic| walk_at "compareOp Eq ref ref") => `(tactic| (k_here; k_dflt (refine m_eq_nil (list_of (by k_asm) (by with_reducible assumption)) (by with_reducible assumption) (led_of (us := []) (by k_asm) (by k_mem)) (units_ar (by omega)) ?_ ?_) <;> (intro hw')))
local macro_rules | `(tactic| walk_at "call builtin:list.count") => `(tactic| (k_here; k_dflt (refine m_countL (list_of (by k_asm) (by with_reducible assumption)) (by with_reducible assumption) ?_); intro t' tk'))
local macro_rules | `(tactic| walk_at "eval ListComp") => `(tactic| (k_here; k_dflt (refine LCt.ListComp_T (F₀ := by k_asm) (by with_unfolding_all rfl) (by decide) (by rfl) (by decide) (by rfl) ?_)))
local macro_rules | `(tactic| walk_at "exec Assign cons ListComp") => `(tactic| (k_here; k_dflt (refine LCt.Assign_ListComp_T (F₀ := by k_asm) (by rfl) (by with_unfolding_all rfl) (by with_unfolding_all rfl) (by decide) (by rfl) (by decide) (by rfl) (by rfl) (by rfl) ?_)))
local macro_rules | `(tactic| walk_at "CompSrcT") => `(tactic| (k_here; refine stop_here ?_))
local macro_rules | `(tactic| walk_at "getMethod ref") => `(tactic| (k_here; (with_reducible show wpAny _ _ (getMethod (Value.ref _) (PySem.Str.ofString "count") _) _ _ _); k_dflt (refine m_meth (base_of (by k_asm) (by with_reducible assumption)) PySem.F.slot_list_count PySem.F.type_list_count ?_)))
local macro_rules | `(tactic| walk_at "callWith ref") => `(tactic| (k_here; k_dflt (refine callWith_F (MidAt.at (by with_reducible assumption) (by k_asm)) ?_); k_whole))
local macro_rules | `(tactic| walk_at "FnAt") => `(tactic| (k_here; k_dflt (exact MidAt.at (by with_reducible assumption) (by k_asm))))
local macro_rules | `(tactic| walk_at "subscriptTail Name Slice ref ref") => `(tactic| (k_here; k_dflt (refine m_sliceAll (s := ⟨_, _, _, _, _⟩) (by k_asm) (by k_asm) (list_of (by k_asm) (by with_reducible assumption)) (by with_reducible assumption) ?_ (by with_unfolding_all rfl) (by intro _; with_unfolding_all rfl)); intro D' h' F' N' l1'; (try k_lt l1')))
local macro_rules | `(tactic| walk_at "binaryOp Mult ref int") => `(tactic| (k_here; k_dflt (refine m_mul (by k_asm) (by k_asm) (by k_mem) rfl (by with_reducible assumption) ?_); intro h' D' us' F' N' l1' hu'; (try k_lt l1')))
local macro_rules | `(tactic| walk_at "binaryOp Add ref ref") => `(tactic| (k_here; refine stop_here ?_))
theorem notDict_cell {a : Addr} {o : Obj} {v : Option Value} (h : o.data = Data.cell v) : TI.notDict (a, o) = true := by unfold TI.notDict; simp only [h]
theorem filter_count (r : Str) (l : List Str) : (l.filter (ltS · r)).length + l.count r ≤ l.length := by
  induction l with
  | nil => simp
  | cons x l ih =>
    rw [List.count_cons, List.length_cons, List.filter_cons]
    by_cases h : x = r
    · subst h
      simp only [ltS_irrefl, Bool.false_eq_true, if_false, beq_self_eq_true, if_true]; omega
    · have h2 : (x == r) = false := by simpa using h
      simp only [h2, Bool.false_eq_true, if_false]
      split
      · rw [List.length_cons]; omega
      · omega
theorem above_all {d : Addr} {l : List (Addr × Obj)} (h : AllLt d l) : ∀ p ∈ l, p.1 ≠ d + 1 := fun p hp => Nat.ne_of_lt (Nat.lt_succ_of_lt (ktn_ltOf h p hp))
local macro_rules | `(tactic| k_all) => `(tactic| exact above_all (by assumption))
theorem tree_walk (least : Bool) (n : Nat) (ih : ∀ m, n = m + 1 → TreeAt prog w mean mg mb least m) : TreeAt prog w mean mg mb least n := by
  intro s Q E l mid' vs ss row k g₀ le frs G k₀ M Fs hfs hl hS hsr hpm hn h64 dp un gd hroom hun h
  k_dflt (refine' enterHC (binds := [(Str.ofString "bag", .ref l), (Str.ofString "middle", .ref mid')]) G k₀ hfs ?k6 ?k7 ?k8 ?k9 ?kB ?kD ?_ ?c2 ?c3 ?c4)
  walk_at "m_enterC"
  intro g L h₁ tk1 cells Gg kgg hide kg F N Y hlt
  have hlg : g.get? l = some (lstO vs k) := hide _ _ (fun hm => by
    obtain ⟨p, hp, e⟩ := List.mem_map.mp hm
    obtain ⟨es, ep, hd⟩ := Fs.dict p hp
    have e2 := (hfs p hp).1
    rw [e, hl] at e2
    rw [← Option.some.inj e2] at hd
    cases hd) hl
  have Mg : MidAt prog w least mid' g := MidAt.up M kgg
  have X := Gg.X
  have T := Gg.T
  have hll := allLt_of hlt
  clear G k₀ M hl hlt
  k_cells Y
  (try simp only [List.cons_append, List.nil_append] at N)
  k_unmd
  k_fold
  walk_at "m_steps"
  · rename News _ _ _ _ => Nz
    rename ss = [] => h0
    have hr0 : row = [] := List.perm_nil.mp (h0 ▸ hpm)
    have N4' : News g L _ ([_, _, _] ++ frs) := Nz
    have af := all_fresh hide N4' Fs (TI.SameUp.refl _) (List.all_eq_true.mp (by simp only [List.all_cons, notDict_cell (by assumption : _ = Data.cell _)]; rfl))
    have afE := af _ List.mem_cons_self
    refine h _ _ _ [] 0 [] frs (fun b o hb e => Fr.keep (by k_asm) b o (hide b o hb e)) afE.2.1 afE.1 (fun p hp => nomatch hp) (TI.SameUp.refl _) (fun p hp => (N4' p (List.mem_append_right _ hp)).1) ?_
    rw [hr0, dueT_nil]
    exact .nil
  · refine Mg.run (Fr.keep (by k_asm)) (list_of (by k_asm) hlg) hS (by with_reducible assumption) h64 (by show dp + 1 + 16 < _; omega) ?_
    intro h' tk' t' row' kp hp' hs'
    have hrr : row' = row := srt_eq (srt_of hs') hsr (hp'.trans hpm.symm)
    subst hrr
    rename Fr _ _ _ _ => F9
    rename News _ _ _ _ => N9
    have F8 := Fr.keeps F9 kp
    have N8 := News.keeps N9 kp
    clear F9 N9 kp hp' hs'
    generalize hr : row'.getD (mid least ss.length) Str.empty = r
    k_unmd
    k_fold
    walk_at "m_steps"
    rename Fr _ _ _ _ => F9
    rename News _ _ _ _ => N9
    have hlr : row'.length = ss.length := hpm.length_eq
    have hne : row' ≠ [] := List.length_pos_iff.mp (by omega)
    have hrm := root_mem least hne
    rw [hlr, hr] at hrm
    have hsd := sides_le row' r hrm
    obtain ⟨n', hm⟩ : ∃ n', n = n' + 1 := ⟨n - 1, by omega⟩
    have ihm : TreeAt prog w mean mg mb least n' := @ih n' hm
    refine LCt.CompSrcT.base rfl F9 N9 (isl hlg) (by rw [List.size_toArray, PySem.sizeLine_eq, hS.length]; omega) (fun g => comp_filter (ltS · r) hS ?_ ?_)
    · intro c t I oI C oC D m₂ ys h9 tk9 E' hc hC hx F N off ne
      have off0 := off
      simp only [LCg.Off3, and_true] at off
      clear F9 N9
      k_unmd
      k_fold
      walk_at "m_steps"
      · exact LCg.CompEnd.intro (by k_asm) (by k_asm) _ (fun p hp => hp) off0 (.inl (isl hlg)) ⟨rfl, _, rfl⟩
      · exact LCg.CompEnd.intro (by k_asm) (by k_asm) _ (fun p hp => hp) off0 (.inl (isl hlg)) rfl
    · intro ys hys D h9 tk9 F N o1
      clear F9 N9
      have hvl : vs.length ≤ 4000 := by rw [hS.length]; omega
      have hcc : ss.count r < 64 := Nat.lt_of_le_of_lt List.count_le_length h64
      k_unmd
      walk_at "m_steps"
      rename News _ _ _ _ => N5
      rename Fr _ _ _ _ => F5
      rename StrsAre _ (List.replicate _ _) => hu
      rename _ = Data.cell (some _) => hcd
      refine m_addL F5 N5 (a := D) (us := ys) (by k_mem) (by k_mem) (by rw [hys.length]; have := List.length_filter_le (ltS · r) ss; omega) (by rw [hu.length, List.length_replicate]; omega) ?_
      intro h7 D7 F7 N7 l7
      k_lt l7
      clear F5 N5 o1
      k_unmd
      k_fold
      walk_at "m_steps"
      have hnc : TI.notDict (L + 1, _) = true := notDict_cell hcd
      have hl1 := List.length_filter_le (ltS · r) ss
      refine uld_call (rest := [_, _, _, _, _, _, _]) (frs := frs) (kept := [(D, LCg.lst ys), (L + 1, _)]) Gg Fs F7 N7 (by k_mem) (by k_mem) (by k_ne) (by simp only [List.all_cons, hnc]; rfl) (List.forall_mem_cons.mpr ⟨by k_mem, List.forall_mem_cons.mpr ⟨by k_mem, List.forall_mem_nil _⟩⟩)
        (List.forall_mem_cons.mpr ⟨⟨by k_ne, by k_ne⟩, List.forall_mem_cons.mpr ⟨⟨by k_ne, by k_ne⟩, List.forall_mem_nil _⟩⟩) hS (hys.append' hu) h64 (by rw [List.length_append, List.length_replicate]; have := filter_count r ss; omega) (fun h => by cases h) rfl (by show dp + 1 + 12 < _; omega) ?_
      intro h8 tk8 D8 M8 zs k3 vs' k2' frs' SU Fs' F8 N8 hz hv
      rw [uld_sides] at hz hv
      have hz : StrsAre zs (ss.reverse.filter (ltS r ·)) := hz
      cases hv
      simp only [List.cons_append, List.nil_append] at N8
      clear F7 N7 Fs
      k_unmd
      k_fold
      walk_at "m_steps"
      rename News _ _ _ _ => N5
      rename Fr _ _ _ _ => F5
      have hfl : (ss.filter (ltS · r)).length = (row'.filter (ltS · r)).length := (hpm.symm.filter _).length_eq
      have hfg : (ss.reverse.filter (ltS r ·)).length = (row'.filter (ltS r ·)).length := (((List.reverse_perm ss).trans hpm.symm).filter _).length_eq
      refine tree_call (rest := [_, _, _, _, _, _, _]) (frs := frs') ihm Gg Mg Fs' F5 N5 (by k_mem) (List.all_eq_true.mp (by simp only [List.all_cons, hnc]; rfl)) hys (srt_filter (ltS · r) hsr) (hpm.filter _) (by omega) (by omega) (fun h => by cases h) rfl (by show dp + 1 + n' + 30 < _; omega) (by show un + 3 + 3 * n' + 50 < _; omega) ?_
      intro h8 tk8 E8 refs k8 ents frs2 SU2 Fs2 F8 N8 hnd R8
      simp only [List.cons_append, List.nil_append] at N8
      clear F5 N5 Fs'
      have hle := R8.length
      have hdl := dueT_length least n' (row'.filter (ltS · r))
      refine m_addL F8 N8 (us := [_]) (k := 0) (by k_mem) (by k_mem) (by simp) (by omega) ?_
      intro h7 E7 F7 N7 _
      clear F8 N8
      k_unmd
      k_fold
      walk_at "m_steps"
      refine tree_call (rest := _ :: _ :: _ :: _ :: _ :: _ :: _ :: _ :: _ :: ents) (frs := frs2) ihm Gg Mg Fs2 F7 N7 (by k_mem) (List.all_eq_true.mp (by simp only [List.all_cons, hnc, notDict_list hnd]; rfl)) hz (srt_filter (ltS r ·) hsr) ((hpm.trans (List.reverse_perm ss).symm).filter _) (by omega) (by omega) (fun h => by cases h) rfl (by show dp + 1 + n' + 30 < _; omega) (by show un + 3 + 3 * n' + 50 < _; omega) ?_
      intro h6 tk6 E6 refs2 k6 ents2 frs3 SU3 Fs3 F6 N6 hnd2 R6
      simp only [List.cons_append, List.nil_append] at N6
      clear F7 N7 Fs2
      have hle2 := R6.length
      have hdl2 := dueT_length least n' (row'.filter (ltS r ·))
      refine m_addL F6 N6 (us := [_] ++ refs) (k := 0) (by k_mem) (by k_mem) (by simp; omega) (by omega) ?_
      intro h5 E5 F5 N5 _
      clear F6 N6
      k_unmd
      k_fold
      walk_at "m_steps"
      refine m_addL F5 N5 (us := [_] ++ refs ++ refs2) (vs := []) (k := 0) (by k_mem) (by k_mem) (by simp; omega) (by simp) ?_
      intro h4 E4 F4 N4 _
      clear F5 N5
      have N4' := news_assoc (lits := [_, _, _, _, _, _, _, _, _, _, _, _]) (e := ents) (e2 := ents2) (frs := frs3) N4
      have SU4 := (SU.trans SU2).trans SU3
      have af := all_fresh hide N4' Fs3 SU4 (List.all_eq_true.mp (by simp only [List.all_cons, List.all_append, hnc, notDict_list hnd, notDict_list hnd2]; rfl))
      have afE := af (E4, _) (List.mem_append_left _ List.mem_cons_self)
      obtain ⟨all, ha, hR⟩ := res_end af (r := r) (c := ss.count r) (k := 0) (ents := ents) (ents2 := ents2) (List.mem_append_left _ (by k_mem)) (fun p hp => List.mem_append_right _ (List.mem_append_left _ hp)) (fun p hp => List.mem_append_right _ (List.mem_append_right _ hp)) R8 R6
      refine h _ _ E4 _ _ all frs3 (fun b o hb e => Fr.keep F4 b o (hide b o hb e)) afE.2.1 afE.1 ha SU4 (fun p hp => (N4' p (List.mem_append_right _ hp)).1) ?_
      rw [hm, dueT_succ (r := r) least n' hne (by rw [hlr]; exact hr), hpm.count_eq, List.append_nil]
      exact hR
theorem tree_strs (least : Bool) : ∀ n, TreeAt prog w mean mg mb least n
  | 0 => tree_walk least 0 fun m h => absurd h (Nat.succ_ne_zero _).symm
  | n + 1 => tree_walk least (n + 1) fun m h => by cases h; exact tree_strs least n
end
end Mine

/-! part C12 -/
namespace Mine
section
variable {prog : Program} {w : World} {s : Shared} {Q E : Value → Shared → Prop} {mean : ExcName → Option Value} {mg mb : Str → Option Value}
local macro_rules | `(tactic| walk_at "m_steps") => `(tactic| repeat' (first | (k_unfold; (try dsimp only)) | walk1 | (dsimp only; walk1) | fail "no step"))
local macro_rules | `(tactic| walk_at "m_enterC") => `(tactic| ((case k6 => k_is); (case k7 => k_is); (case k8 => (dsimp only; omega)); (case k9 => exact BindsTo.of_eq rfl); (case kB => exact rfl); (case kD => decide +kernel); (case c2 => exact rfl); (case c3 => exact rfl); (case c4 => exact rfl)))
local macro_rules | `(tactic| walk_at "CompSrc") => `(tactic| (k_here; refine stop_here ?_))
local macro_rules | `(tactic| walk_at "CompEnd") => `(tactic| (k_here; refine stop_here ?_))
local macro_rules | `(tactic| walk_at "call ref") => `(tactic| (k_here; refine stop_here ?_))
local macro_rules | `(tactic| walk_at "compareOp Eq ref ref") => `(tactic| (k_here; k_dflt (refine m_eq_nil (list_of (by k_asm) (by with_reducible assumption)) (by with_reducible assumption) (led_of (us := []) (by k_asm) (by k_mem)) (units_ar (by omega)) ?_ ?_) <;> (intro hw')))
local macro_rules | `(tactic| walk_at "call builtin:len") => `(tactic| (k_here; k_dflt (refine m_lenL (list_of (by k_asm) (by with_reducible assumption)) (by with_reducible assumption) (by with_reducible assumption) ?_); intro t' tk'))
local macro_rules | `(tactic| walk_at "call builtin:list.count") => `(tactic| (k_here; k_dflt (refine m_countL (list_of (by k_asm) (by with_reducible assumption)) (by with_reducible assumption) ?_); intro t' tk'))
local macro_rules | `(tactic| walk_at "subscriptTail Name IfExp ref int") => `(tactic| (k_here; k_dflt (refine m_mid (least := _) (list_of (by k_asm) (by with_reducible assumption)) (by with_reducible assumption) (by with_reducible assumption) (by with_reducible assumption) (by first | (rw [mid_t (by with_reducible assumption)]; simp only [Int.fdiv_eq_ediv_of_nonneg _ (show (0:Int) ≤ 2 by decide)]; omega) | (rw [mid_f (by with_reducible assumption)]; simp only [Int.fdiv_eq_ediv_of_nonneg _ (show (0:Int) ≤ 2 by decide)]; omega)) ?_ (by with_unfolding_all rfl)); intro r' t' hr'))
local macro_rules | `(tactic| walk_at "eval ListComp") => `(tactic| (k_here; k_dflt (refine LCt.ListComp_T (F₀ := by k_asm) (by with_unfolding_all rfl) (by decide) (by rfl) (by decide) (by rfl) ?_)))
local macro_rules | `(tactic| walk_at "CompSrcT") => `(tactic| (k_here; refine stop_here ?_))
local macro_rules | `(tactic| walk_at "getMethod ref") => `(tactic| (k_here; (with_reducible show wpAny _ _ (getMethod (Value.ref _) (PySem.Str.ofString "count") _) _ _ _); k_dflt (refine m_meth (base_of (by k_asm) (by with_reducible assumption)) PySem.F.slot_list_count PySem.F.type_list_count ?_)))
/-- what _law_due promises of a row of at most n texts -/
def DueAt (prog : Program) (w : World) (mean : ExcName → Option Value) (mg mb : Str → Option Value) (least : Bool) (n : Nat) : Prop :=
  ∀ {s : Shared} {Q E : Value → Shared → Prop} {l : Addr} {vs : List Value} {ss : List Str} {k : Nat}, s.heap.get? l = some (lstO vs k) → StrsAre vs ss → ss.length ≤ n → ss.length < 64 → Gr w mean mg mb s.heap →
    ∀ {dp un : Nat} {fr : Option (List Env)} {gd : Option (List Code)}, dp + n + 12 < recursionLimit → un + 3 * n + 20 < 9900 →
    (∀ h' tk D refs k ents, Keep s.heap h' → s.heap.get? D = none → h'.get? D = some (lstO refs k) → (∀ p ∈ ents, h'.get? p.1 = some p.2 ∧ s.heap.get? p.1 = none) → ResIn ents refs (dueT least n ss) → Q (.ref D) { s with heap := h', toks := tk }) →
    wpAny (model prog w) (ar dp un fr gd) (call (.ref 185) [.ref l, .bool least]) Q E s
theorem due_call {least : Bool} {n : Nat} (hd : DueAt prog w mean mg mb least n) {h₀ : Heap} {L a : Addr} {m : Str → Option Value} {news : List (Addr × Obj)} {us : List Value} {ws : List Str} {k : Nat} (G : Gr w mean mg mb h₀) (F : Fr h₀ L s.heap m) (N : News h₀ L s.heap news) (hm : (a, lstO us k) ∈ news) (hS : StrsAre us ws) (hn : ws.length ≤ n) (h64 : ws.length < 64)
    {dp un : Nat} {fr : Option (List Env)} {gd : Option (List Code)} (hroom : dp + n + 12 < recursionLimit) (hun : un + 3 * n + 20 < 9900)
    (h : ∀ h' tk D refs k ents, Fr h₀ L h' m → News h₀ L h' ((D, lstO refs k) :: (news ++ ents)) → ResIn ents refs (dueT least n ws) → Q (.ref D) { s with heap := h', toks := tk }) : wpAny (model prog w) (ar dp un fr gd) (call (.ref 185) [.ref a, .bool least]) Q E s := by
  refine hd (N.get hm) hS hn h64 (G.keeps F.keep) hroom hun fun h' tk D refs k ents kp hD hD' he R => h h' tk D refs k ents (F.keeps kp) ?_ R
  have fresh : ∀ b o, s.heap.get? b = none → h'.get? b = some o → h'.get? b = some o ∧ b ≠ L ∧ h₀.get? b = none := fun b o e e' => by
    refine ⟨e', fun q => ?_, ?_⟩
    · obtain ⟨o, es, ep, ho, _⟩ := F.ns
      rw [q, ho] at e; cases e
    · cases q : h₀.get? b with
      | none => rfl
      | some x => rw [F.keep b x q] at e; cases e
  intro p hp
  rcases List.mem_cons.mp hp with rfl | hp
  · exact fresh _ _ hD hD'
  · rcases List.mem_append.mp hp with hp | hp
    · exact N.keeps kp p hp
    · exact fresh _ _ (he p hp).2 (he p hp).1
theorem due_walk (least : Bool) (n : Nat) (ih : ∀ m, n = m + 1 → DueAt prog w mean mg mb least m) : DueAt prog w mean mg mb least n := by
  intro s Q E l vs ss k hl hS hn h64 G dp un fr gd hroom hun h
  have X := G.X
  have T := G.T
  k_dflt (refine' enterC (binds := [(Str.ofString "row", .ref l), (Str.ofString "least", .bool least)]) G ?k6 ?k7 ?k8 ?k9 ?kB ?kD ?_ ?c2 ?c3 ?c4)
  walk_at "m_enterC"
  intro L h₁ tk1 cells F N Y
  k_cells Y
  k_unmd
  k_fold
  walk_at "m_steps"
  · rename News _ _ _ _ => Nz
    rename ss = [] => h0
    refine h _ _ _ [] 0 [] (Fr.keep (by k_asm)) (Nz.fresh List.mem_cons_self) (Nz.get List.mem_cons_self) (fun p hp => nomatch hp) ?_
    rw [h0, dueT_nil]
    exact .nil
  all_goals (
    rename Fr _ _ _ _ => F9
    rename News _ _ _ _ => N9
    rename ss.getD _ _ = _ => hr
    rename Str => r
    have hne : ss ≠ [] := List.length_pos_iff.mp (by with_reducible assumption)
    have hsd := sides_le ss r (hr ▸ root_mem least hne)
    obtain ⟨m, hm⟩ : ∃ m, n = m + 1 := ⟨n - 1, by omega⟩
    have ihm : DueAt prog w mean mg mb least m := @ih m hm
    refine LCt.CompSrcT.base rfl F9 N9 (isl hl) (by rw [List.size_toArray, PySem.sizeLine_eq, hS.length]; omega) (fun g => comp_filter (ltS · r) hS ?_ ?_)
    · intro c t I oI C oC D m₂ ys h9 tk9 E' hc hC hx F N off ne
      have off0 := off
      simp only [LCg.Off3, and_true] at off
      clear F9 N9
      k_unmd
      k_fold
      walk_at "m_steps"
      · exact LCg.CompEnd.intro (by k_asm) (by k_asm) _ (fun p hp => hp) off0 (.inl (isl hl)) ⟨rfl, _, rfl⟩
      · exact LCg.CompEnd.intro (by k_asm) (by k_asm) _ (fun p hp => hp) off0 (.inl (isl hl)) rfl
    · intro ys hys D h9 tk9 F N o1
      clear F9 N9
      k_unmd
      k_fold
      walk_at "m_steps"
      refine due_call ihm G (by k_asm) (by k_asm) (by k_mem) hys (by omega) (by omega) (by show dp + 1 + m + 12 < _; omega) (by show un + 3 + 3 * m + 20 < _; omega) ?_
      intro h8 tk8 D8 refs k8 ents F8 N8 R8
      simp only [List.cons_append, List.nil_append, List.append_assoc] at N8
      clear F N o1
      have hle := R8.length
      have hdl := dueT_length least m (ss.filter (ltS · r))
      refine m_addL F8 N8 (us := [_]) (k := 0) (by k_mem) (by k_mem) (by simp) (by omega) ?_
      intro h7 D7 F7 N7 _
      clear F8 N8
      k_unmd
      k_fold
      walk_at "m_steps"
      rename Fr _ _ _ _ => F9
      rename News _ _ _ _ => N9
      refine LCt.CompSrcT.base rfl F9 N9 (isl hl) (by rw [List.size_toArray, PySem.sizeLine_eq, hS.length]; omega) (fun g => comp_filter (ltS r ·) hS ?_ ?_)
      · intro c t I oI C oC D m₂ ys h9 tk9 E' hc hC hx F N off ne
        have off0 := off
        simp only [LCg.Off3, and_true] at off
        clear F9 N9
        k_unmd
        k_fold
        walk_at "m_steps"
        · exact LCg.CompEnd.intro (by k_asm) (by k_asm) _ (fun p hp => hp) off0 (.inl (isl hl)) ⟨rfl, _, rfl⟩
        · exact LCg.CompEnd.intro (by k_asm) (by k_asm) _ (fun p hp => hp) off0 (.inl (isl hl)) rfl
      · intro ys hys D h9 tk9 F N o1
        clear F9 N9
        k_unmd
        k_fold
        walk_at "m_steps"
        refine due_call ihm G (by k_asm) (by k_asm) (by k_mem) hys (by omega) (by omega) (by show dp + 1 + m + 12 < _; omega) (by show un + 3 + 3 * m + 20 < _; omega) ?_
        intro h8 tk8 D8 refs2 k8 ents2 F8 N8 R82
        simp only [List.cons_append, List.nil_append, List.append_assoc] at N8
        clear F N o1
        have hle2 := R82.length
        have hdl2 := dueT_length least m (ss.filter (ltS r ·))
        refine m_addL F8 N8 (us := [_] ++ refs) (k := 0) (by k_mem) (by k_mem) (by simp; omega) (by omega) ?_
        intro h6 D6 F6 N6 _
        clear F8 N8
        obtain ⟨all, ha, hR⟩ := res_end (P := fun p => h6.get? p.1 = some p.2 ∧ s.heap.get? p.1 = none) (fun p hp => ⟨(N6 p hp).1, (N6 p hp).2.2⟩) (r := r) (c := ss.count r) (k := 0) (ents := ents) (ents2 := ents2) (by k_mem) (fun p hp => by (repeat apply List.mem_cons_of_mem); exact List.mem_append_left _ hp) (fun p hp => by (repeat apply List.mem_cons_of_mem); exact List.mem_append_right _ hp) R8 R82
        refine h _ _ D6 _ _ all (Fr.keep F6) (N6.fresh List.mem_cons_self) (N6.get List.mem_cons_self) ha ?_
        rw [hm, dueT_succ least m hne hr]
        exact hR)
theorem due_strs (least : Bool) : ∀ n, DueAt prog w mean mg mb least n
  | 0 => due_walk least 0 fun m h => absurd h (Nat.succ_ne_zero _).symm
  | n + 1 => due_walk least (n + 1) fun m h => by cases h; exact due_strs least n
end
end Mine

/-! part Base11 -/
namespace Mine
section
variable {prog : Program} {w : World} {A : Around} {s : Shared} {Q E : Value → Shared → Prop} {mean : ExcName → Option Value} {mg mb : Str → Option Value}
  {name qual : Str} {params : Arguments} {body : Expr} {scope : Scope} {pm ctv : Value} {f c' : Addr} {args : List Value} {binds : List (Str × Value)}
/-- a lambda of the call's own is entered; it must not raise -/
theorem enterL (G : Gr w mean mg mb s.heap) (ho : s.heap.get? f = some (kla_obj name qual params body scope [] pm c' ctv)) (hcd : s.heap.CodeRec (.ref c') qual) (hroom : A.depth < recursionLimit)
    (hbind : bindArgs (kla_fn name qual params body scope [] pm (.ref c') ctv) ⟨args, []⟩ = pure binds) (hloc : ∀ y ∈ binds, scope.names.lookup y.1 = some .local)
    (h : ∀ L h₁, Fr s.heap L h₁ (fun y => binds.reverse.lookup y) → News s.heap L h₁ [] →
      wpAny (model prog w) (A.deeper (envX qual scope L f (.ref c') [])) (eval body (envX qual scope L f (.ref c') [])) Q (fun _ _ => False) { s with heap := h₁, toks := s.toks + binds.length })
    (hco : scope.isCoroutine = false) (hgen : scope.isGenerator = false) (hk : scope.kind = .function)
    (hcell : ∀ x ∈ scope.names, x.2 ≠ .cell) : wpAny (model prog w) A (call (.ref f) args) Q E s := by
  refine wpAny_call ?_
  refine kla_callFunE hroom ho rfl hco hgen rfl hcd ?_
  rw [hbind]
  refine wpAny_pure (wpAny_newFunctionEnv hcell hloc (fun h₁ hns hsb => ⟨(G.T.nolimit).fresh _ hsb, ?_⟩) hk)
  show codeAny _ _ (.expr body (envX qual scope s.heap.objs.size f (.ref c') [])) _ _
  have hk₁ : ∀ b o, s.heap.get? b = some o → h₁.get? b = some o := fun b o e => hsb.extBut b o (Nat.ne_of_lt (Heap.lt_size e)) (Heap.get?_push_of_some _ e)
  exact kla_codeExpr (wpAny_mono (h s.heap.objs.size h₁ ⟨hns, hk₁, Nat.le_refl _⟩ News.nil) (fun v s' hl => hl) fun _ _ y => y.elim)
theorem mid_lam {least : Bool} {g : Heap} {x : Str} (G : Gr w mean mg mb g) (ho : g.get? f = some (kla_obj name qual params body scope [] pm c' ctv)) (hcd : g.CodeRec (.ref c') qual)
    (hbind : ∀ l : Addr, bindArgs (kla_fn name qual params body scope [] pm (.ref c') ctv) ⟨[.ref l], []⟩ = pure [(x, .ref l)]) (hloc : scope.names.lookup x = some .local)
    (hw : ∀ (s : Shared) (Q : Value → Shared → Prop) (l : Addr) (vs : List Value) (ss : List Str) (L : Addr) (h₁ : Heap) (tk dp un : Nat) (fr : Option (List Env)) (gd : Option (List Code)), Gr w mean mg mb s.heap → s.heap.IsList l vs.toArray → StrsAre vs ss → 0 < ss.length → ss.length < 64 → dp + 16 < recursionLimit →
      Fr s.heap L h₁ (fun y => [(x, Value.ref l)].reverse.lookup y) → News s.heap L h₁ [] →
      (∀ h' tk t' row, Keep s.heap h' → row.Perm ss → sortedS row = true → Q (.str (row.getD (mid least ss.length) Str.empty) t') { s with heap := h', toks := tk }) →
      wpAny (model prog w) ((ar dp un fr gd).deeper (envX qual scope L f (.ref c') [])) (eval body (envX qual scope L f (.ref c') [])) Q (fun _ _ => False) { s with heap := h₁, toks := tk })
    (hco : scope.isCoroutine = false) (hgen : scope.isGenerator = false) (hk : scope.kind = .function)
    (hcell : ∀ x ∈ scope.names, x.2 ≠ .cell) : MidAt prog w least f g where
  fn := ⟨_, _, _, _, ho⟩
  run := fun K hl hS h0 h64 dp un fr gd hr h => enterL (G.keeps K) (K _ _ ho) (let ⟨c, oc, vs, t, e1, e2, r⟩ := hcd; ⟨c, oc, vs, t, e1, K _ _ e2, r⟩) (by show dp < _; omega) (hbind _) (fun y hy => by rw [List.mem_singleton.mp hy]; exact hloc)
    (fun L h₁ F N => hw _ _ _ _ _ L h₁ _ dp un fr gd (G.keeps K) hl hS h0 h64 hr F N h) hco hgen hk hcell
end
section
variable {prog : Program} {w : World} {s : Shared} {Q E : Value → Shared → Prop} {mean : ExcName → Option Value} {mg mb : Str → Option Value}
theorem tree_callL {least : Bool} {n : Nat} (hd : TreeAt prog w mean mg mb least n) {g : Heap} {L a f c' : Addr} {m : Str → Option Value} {news : List (Addr × Obj)} {env : Env} {us : List Value} {ws row : List Str} {k : Nat} {name qual : Str} {params : Arguments} {body : Expr} {scope : Scope} {pm ctv : Value}
    (G : Gr w mean mg mb g) (hM : ∀ g₀, Gr w mean mg mb g₀ → g₀.get? f = some (kla_obj name qual params body scope [] pm c' ctv) → g₀.CodeRec (.ref c') qual → MidAt prog w least f g₀) (F : Fr g L s.heap m) (N : News g L s.heap news) (hm : (a, lstO us k) ∈ news) (hl : (f, kla_obj name qual params body scope [] pm c' ctv) ∈ news) (hc : s.heap.CodeRec (.ref c') qual)
    (hS : StrsAre us ws) (hrow : Srt row) (hp : row.Perm ws) (hn : ws.length ≤ n) (h64 : ws.length < 64) {dp un : Nat} {gd : Option (List Code)} (hk : env.scope.kind ≠ .module) (hf : env.frame = some L)
    (hroom : dp + n + 30 < recursionLimit) (hun : un + 3 * n + 50 < 9900)
    (h : ∀ h' tk D refs k ents, Fr g L h' m → News g L h' ((D, lstO refs k) :: (news ++ ents)) → (∀ q ∈ news, (@Ne Nat q.1 D) ∧ ∀ p ∈ ents, p.1 ≠ q.1) → ResIn ents refs (dueT least n row) → Q (.ref D) { s with heap := h', toks := tk }) :
    wpAny (model prog w) (ar dp un (some [env]) gd) (call (.ref 180) [.ref a, .ref f]) Q E s := by
  obtain ⟨oL, es, ep, hL, hd0, hr0⟩ := id F.ns
  have kg : Keep g (hideAll s.heap [L]) := fun b o e => hideAll_get _ (F.keep b o e) (fun hb => by
    rw [List.mem_singleton.mp hb, Heap.get?_none_of_le F.above] at e; cases e)
  have inL : ∀ p ∈ news, (hideAll s.heap [L]).get? p.1 = some p.2 := fun p hp => hideAll_get _ (N p hp).1 (fun hb => (N p hp).2.1 (List.mem_singleton.mp hb))
  have hcr : (hideAll s.heap [L]).CodeRec (.ref c') qual := by
    obtain ⟨c, oc, vs, t, e1, e2, e3, e4⟩ := hc
    exact ⟨c, oc, vs, t, e1, hideAll_get _ e2 (fun hb => by
      rw [List.mem_singleton.mp hb, hL] at e2
      cases e2
      rw [hd0] at e3; cases e3), e3, e4⟩
  refine hd (frs := [(L, oL)]) (G.keeps kg) (fun b o e => of_hideAll _ e) (hM _ (G.keeps kg) (inL _ hl) hcr) (show TI.Frs [env] [(L, oL)] from ⟨hk, hf, ⟨es, ep, hd0⟩, trivial⟩) (fun p hp => ?_) (N.get hm) hS hrow hp hn h64 hroom hun fun h' tk D refs k ents frs₂ kp hD hD' he SU hf₂ R => ?_
  · rw [List.mem_singleton.mp hp]
    exact ⟨hL, hideAll_none _ List.mem_cons_self⟩
  · cases frs₂ with
    | nil => exact SU.elim
    | cons q frs' =>
      obtain ⟨q1, ⟨sl, q2⟩, _⟩ := SU
      have kb : ∀ b o, @Ne Nat b L → s.heap.get? b = some o → h'.get? b = some o := fun b o hb e => kp b o (fun hm' => hb (List.mem_singleton.mp hm')) e
      have fresh : ∀ b o, s.heap.get? b = none → h'.get? b = some o → h'.get? b = some o ∧ b ≠ L ∧ g.get? b = none := fun b o e e' => ⟨e', fun q => (by rw [q, hL] at e; cases e), base_none F.keep e⟩
      refine h h' tk D refs k ents ⟨?_, fun b o e => kb b o (fun q => by rw [q, Heap.get?_none_of_le F.above] at e; cases e) (F.keep b o e), F.above⟩ (fun p hp => ?_) (fun q hq => ?_) R
      · have h1 := hf₂ q List.mem_cons_self
        rw [q1, q2] at h1
        exact ⟨_, es, ep, h1, hd0, hr0⟩
      · rcases List.mem_cons.mp hp with rfl | hp
        · exact fresh _ _ hD hD'
        · rcases List.mem_append.mp hp with hp | hp
          · exact ⟨kb _ _ (N p hp).2.1 (N p hp).1, (N p hp).2⟩
          · exact fresh _ _ (he p hp).2.1 (he p hp).1
      · have z := (N q hq).1
        have ne : ∀ b : Addr, s.heap.get? b = none → q.1 ≠ b := fun b e q' => by rw [q', e] at z; cases z
        exact ⟨ne D hD, fun p hp => Ne.symm (ne p.1 (he p hp).2.1)⟩
end
end Mine

/-! part Base12 -/
namespace Mine
theorem joinT_pos (p : Str) : 0 < (joinT p).length := by
  have h := (place_eq p).2
  by_cases e : (joinT p).length = 0
  · have e2 : joinT p = Str.empty := Str.ext' (Array.eq_empty_of_size_eq_zero e)
    rw [e2] at h
    exact absurd h (by decide +kernel)
  · omega
theorem joinT_le (p : Str) : (joinT p).length ≤ p.length + 3 := by
  unfold joinT
  split
  · omega
  · rw [Str.length_append, Str.length_append]
    have e1 : (Str.ofString "/b").length = 2 := by decide +kernel
    have e2 : (Str.ofString "/").length = 1 := by decide +kernel
    omega
section
variable {prog : Program} {w : World} {A : Around} {h₀ : Heap} {L : Addr} {m : Str → Option Value} {env : Env} {elt : Expr} {x : Str} {scope : Scope} {cl : List (Str × Addr)} {s : Shared} {S : List (Addr × Obj) → Prop}
  {Fin : List Value → List (Addr × Obj) → Prop} {news : List (Addr × Obj)}
/-- a comprehension over a list of texts, its element a text told by the item -/
theorem comp_map {vs : List Value} {ss : List Str} (f : Str → Str) (hS : StrsAre vs ss)
    (turn : ∀ c t I oI C oC D m₂ ys h tk (E' : Value → Shared → Prop), c ∈ ss → LCg.NsObj oC m₂ → m₂ x = some (.str c t) → Fr h₀ L h m → News h₀ L h ((I, oI) :: (C, oC) :: (D, LCg.lst ys) :: news) → LCg.Off3 I C D news → ((@Ne Nat I C) ∧ (@Ne Nat I D) ∧ (@Ne Nat C D)) →
      wpAny (model prog w) A (eval elt (compEnvC scope cl C env)) (LCg.CompEnd h₀ L m { s with heap := h, toks := tk } I oI C oC D (LCg.lst ys) S (fun y news' => news' = news ∧ ∃ t, y = .str (f c) t)) E' { s with heap := h, toks := tk })
    (fin : ∀ ys, StrsAre ys (ss.map f) → Fin ys news) : LCg.CompRest prog w A h₀ L m env elt x scope cl s S (fun i v => vs.toArray[i]? = some v) Fin vs.toArray.size 0 [] news := by
  refine comp_strs (Pr := fun i r => ∃ c, ss[i]? = some c ∧ r = f c) ?_ ?_
  · intro i v I oI C oC D m₂ ys h tk E' hi hv hC hx F N off ne
    obtain ⟨c, t, rfl, hc⟩ := StrsAre.item hS i v (by simpa using hv)
    refine wpAny_mono (turn c t I oI C oC D m₂ ys h tk E' (List.mem_of_getElem? hc) hC hx F N off ne) (fun y s₂ hq => ?_) fun _ _ e => e
    obtain ⟨h', tk', nw, e, F', N', off', hS', hn, t', hy⟩ := hq
    exact ⟨h', tk', nw, e, F', N', off', hS', hn, f c, t', hy, c, hc, rfl⟩
  · intro ys rs hy hl hp
    have e : rs = ss.map f := by
      refine List.ext_getElem? fun i => ?_
      rw [List.getElem?_map]
      have hl' : rs.length = ss.length := by rw [hl, List.size_toArray, hS.length]
      cases hi : rs[i]? with
      | none =>
        have : ss[i]? = none := by
          rw [List.getElem?_eq_none_iff] at hi ⊢; omega
        rw [this]; rfl
      | some r =>
        obtain ⟨c, hc, rfl⟩ := hp i r hi
        rw [hc]; rfl
    exact fin ys (e ▸ hy)
/-- a comprehension over a list of ints, its element a text -/
theorem comp_ints {vs : List Value} {ns : List Int} {Pr : Str → Prop} (hI : IntsAre vs ns)
    (turn : ∀ (k : Int) t I oI C oC D m₂ ys h tk (E' : Value → Shared → Prop), LCg.NsObj oC m₂ → m₂ x = some (.int k t) → Fr h₀ L h m → News h₀ L h ((I, oI) :: (C, oC) :: (D, LCg.lst ys) :: news) → LCg.Off3 I C D news → ((@Ne Nat I C) ∧ (@Ne Nat I D) ∧ (@Ne Nat C D)) →
      wpAny (model prog w) A (eval elt (compEnvC scope cl C env)) (LCg.CompEnd h₀ L m { s with heap := h, toks := tk } I oI C oC D (LCg.lst ys) S (fun y news' => news' = news ∧ ∃ r t, y = .str r t ∧ Pr r)) E' { s with heap := h, toks := tk })
    (fin : ∀ ys rs, StrsAre ys rs → rs.length = ns.length → (∀ r ∈ rs, Pr r) → Fin ys news) : LCg.CompRest prog w A h₀ L m env elt x scope cl s S (fun i v => vs.toArray[i]? = some v) Fin vs.toArray.size 0 [] news := by
  refine comp_strs (Pr := fun _ r => Pr r) ?_ ?_
  · intro i v I oI C oC D m₂ ys h tk E' hi hv hC hx F N off ne
    have hv' : vs[i]? = some v := by simpa using hv
    have hlen : vs.length = ns.length := hI.length
    have hi' : i < ns.length := by rw [List.size_toArray] at hi; omega
    obtain ⟨t, e⟩ := hI.get i _ (List.getElem?_eq_getElem hi')
    rw [e] at hv'
    cases hv'
    exact turn _ t I oI C oC D m₂ ys h tk E' hC hx F N off ne
  · intro ys rs hy hl hp
    refine fin ys rs hy (by rw [hl, List.size_toArray, hI.length]) fun r hr => ?_
    obtain ⟨i, hi⟩ := List.getElem?_of_mem hr
    exact hp i r hi
end
theorem news_sub {h₀ h : Heap} {L : Addr} {news new' : List (Addr × Obj)} (N : News h₀ L h news) (k : ∀ p ∈ new', p ∈ news) : News h₀ L h new' := fun p hp => N p (k p hp)
theorem news_three {h₀ h : Heap} {L : Addr} {news : List (Addr × Obj)} {p q r : Addr × Obj} (N : News h₀ L h news) (h1 : p ∈ news) (h2 : q ∈ news) (h3 : r ∈ news) : News h₀ L h [p, q, r] := fun x hx => by
  rcases List.mem_cons.mp hx with rfl | hx
  · exact N _ h1
  · rcases List.mem_cons.mp hx with rfl | hx
    · exact N _ h2
    · rw [List.mem_singleton.mp hx]; exact N _ h3
section
variable {prog : Program} {w : World} {A : Around} {s : Shared} {Q E : Value → Shared → Prop}
theorem m_sortedL {h₀ : Heap} {L : Addr} {m : Str → Option Value} {news : List (Addr × Obj)} {l : Addr} {vs : List Value} {ss : List Str}
    (F : Fr h₀ L s.heap m) (N : News h₀ L s.heap news) (hl : s.heap.IsList l vs.toArray) (hS : StrsAre vs ss) (h64 : ss.length < 64)
    (h : ∀ (h' : Heap) D (us : List Value) (row : List Str) k, Fr h₀ L h' m → News h₀ L h' ((D, lstO us k) :: news) → (∀ p ∈ news, p.1 < D) → StrsAre us row → row.Perm ss → sortedS row = true → Q (.ref D) { s with heap := h' }) :
    wpAny (model prog w) A (call (.builtin "sorted") [.ref l]) Q E s :=
  sorted_N_str F N hl hS (by rw [hS.length]; exact h64) fun h' vs' ss' e F' N' a1 a2 a3 => h h' _ vs' ss' e F' N' (fun p hp => Nat.lt_succ_of_lt (Heap.lt_size (N p hp).1)) a1 a2 a3
end
end Mine

/-! part Base13 -/
namespace Mine
open PySem.MeetsSeq PySem.SeqAt
theorem all_true (n : Nat) : (List.range n).all (fun _ => true) = true := by simp
theorem eq_lists {A : Around} {s : Shared} {a b : Addr} {us vs : List Value} {k k2 : Nat} (ha : s.heap.get? a = some (lstO us k)) (hb : s.heap.get? b = some (lstO vs k2)) (hl : us.length = vs.length) (hu : A.units < cLine)
    (he : ∀ j (h1 : j < us.length) (h2 : j < vs.length), EqAt A.in1 s us[j] vs[j] true) : RcAt A s (.ref a) (.ref b) true := by
  have h := RcAt.lists (e := fun _ => true) (isl ha) (isl hb) (by simpa using hl) hu (fun j h1 h2 => by
    have := he j (by simpa using h1) (by simpa using h2)
    simpa using this)
  rwa [all_true] at h
theorem eqAt_lists {A : Around} {s : Shared} {a b : Addr} {us vs : List Value} {k k2 : Nat} (ha : s.heap.get? a = some (lstO us k)) (hb : s.heap.get? b = some (lstO vs k2)) (hl : us.length = vs.length) (hu : A.units < cLine)
    (he : ∀ j (h1 : j < us.length) (h2 : j < vs.length), EqAt A.in1 s us[j] vs[j] true) : EqAt A s (.ref a) (.ref b) true := by
  by_cases e : a = b
  · rw [e]; exact EqAt.same _
  · exact EqAt.of_refs e (eq_lists ha hb hl hu he)
theorem eq_pair {A : Around} {s : Shared} (x : Str) (n : Int) (t t' u u' : Tok) : ∀ j (h1 : j < [Value.str x t, Value.int n t'].length) (h2 : j < [Value.str x u, Value.int n u'].length), EqAt A s [Value.str x t, Value.int n t'][j] [Value.str x u, Value.int n u'][j] true
  | 0, _, _ => by simpa using EqAt.str_str (A := A) (s := s) x t x u
  | 1, _, _ => by simpa using EqAt.int_int (A := A) (s := s) n t' n u'
  | j + 2, h, _ => absurd h (by simp)
theorem eq_res {A : Around} {s : Shared} {e1 e2 : List (Addr × Obj)} (h1 : ∀ p ∈ e1, s.heap.get? p.1 = some p.2) (h2 : ∀ p ∈ e2, s.heap.get? p.1 = some p.2) (hu : A.units < cLine) : ∀ {us vs : List Value} {ps : List (Str × Nat)}, ResIn e1 us ps → ResIn e2 vs ps →
    ∀ j (j1 : j < us.length) (j2 : j < vs.length), EqAt A s us[j] vs[j] true
  | _, _, _, .nil, .nil, j, j1, _ => absurd j1 (Nat.not_lt_zero _)
  | _, _, _, .cons m1 r1, .cons m2 r2, 0, _, _ => eqAt_lists (h1 _ m1) (h2 _ m2) rfl hu (eq_pair _ _ _ _ _ _)
  | _, _, _, .cons m1 r1, .cons m2 r2, j + 1, j1, j2 => by
    simpa using eq_res h1 h2 hu r1 r2 j (by simpa using j1) (by simpa using j2)
theorem eq_trees {prog : Program} {w : World} {A : Around} {s : Shared} {Q E : Value → Shared → Prop} {T U D1 D2 E1 E2 : Addr} {k k2 k3 k4 k5 k6 : Nat} {us1 us2 vs1 vs2 : List Value} {e1 e2 f1 f2 : List (Addr × Obj)} {ps qs : List (Str × Nat)}
    (hT : s.heap.get? T = some (lstO [.ref D1, .ref D2] k)) (hU : s.heap.get? U = some (lstO [.ref E1, .ref E2] k2))
    (h1 : s.heap.get? D1 = some (lstO us1 k3)) (h2 : s.heap.get? D2 = some (lstO us2 k4)) (h3 : s.heap.get? E1 = some (lstO vs1 k5)) (h4 : s.heap.get? E2 = some (lstO vs2 k6))
    (a1 : ∀ p ∈ e1, s.heap.get? p.1 = some p.2) (a2 : ∀ p ∈ e2, s.heap.get? p.1 = some p.2) (a3 : ∀ p ∈ f1, s.heap.get? p.1 = some p.2) (a4 : ∀ p ∈ f2, s.heap.get? p.1 = some p.2)
    (r1 : ResIn e1 us1 ps) (r2 : ResIn e2 us2 qs) (r3 : ResIn f1 vs1 ps) (r4 : ResIn f2 vs2 qs) (hu : A.units + 2 < cLine) (h : Q (.bool true) s) : wpAny (model prog w) A (compareOp .Eq (.ref T) (.ref U)) Q E s := by
  have u2 : A.in1.in1.units < cLine := hu
  have u1 : A.in1.units < cLine := Nat.lt_of_succ_lt (by exact hu)
  have u0 : A.units < cLine := by omega
  refine eq_lists hT hU rfl u0 (fun j j1 j2 => ?_) prog w E Q h
  match j, j1, j2 with
  | 0, _, _ => exact eqAt_lists h1 h3 (r1.length.trans r3.length.symm) u1 (eq_res a1 a3 u2 r1 r3)
  | 1, _, _ => exact eqAt_lists h2 h4 (r2.length.trans r4.length.symm) u1 (eq_res a2 a4 u2 r2 r4)
  | j + 2, j1, _ => exact absurd j1 (by simp)
end Mine

/-! part C13 -/
namespace Mine
local macro_rules | `(tactic| walk_at "m_steps") => `(tactic| repeat' (first | (k_unfold; (try dsimp only)) | walk1 | (dsimp only; walk1) | fail "no step"))
local macro_rules | `(tactic| walk_at "CompSrc") => `(tactic| (k_here; refine stop_here ?_))
local macro_rules | `(tactic| walk_at "compareOp Eq ref ref") => `(tactic| (k_here; refine stop_here ?_))
local macro_rules | `(tactic| walk_at "CompEnd") => `(tactic| (k_here; refine stop_here ?_))
local macro_rules | `(tactic| walk_at "call ref") => `(tactic| (k_here; refine stop_here ?_))
local macro_rules | `(tactic| walk_at "exec Assign cons ListComp") => `(tactic| (k_here; k_dflt (refine LCg.Assign_ListComp_U (F₀ := by k_asm) (by rfl) (by with_unfolding_all rfl) (by with_unfolding_all rfl) (by decide) (by rfl) (by decide) (by rfl) (by rfl) (by rfl) ?_)))
local macro_rules | `(tactic| walk_at "eval ListComp") => `(tactic| (k_here; k_dflt (refine LCg.ListComp_U (F₀ := by k_asm) (by with_unfolding_all rfl) (by decide) (by rfl) (by decide) (by rfl) ?_)))
local macro_rules | `(tactic| k_all) => `(tactic| with_reducible assumption)
theorem lawT : PySem.Challenge.rw_pd0137_01.Holds := hd (by
  k_go0
  all_goals (try k_fold)
  rename Frag.In _ _ => X0
  rename Top topProg _ _ _ _ _ => T0
  have G0 : Gr _ _ _ _ _ := ⟨X0, T0⟩
  walk_at "m_steps"
  rename Fr _ _ _ _ => F9
  rename News _ _ _ _ => N9
  rename IntsAre _ (List.take _ _ ++ _) => hI
  rename List.length _ = min _ _ => hC7
  refine LCg.CompSrc.ledger rfl F9 N9 (by k_mem) (by rw [List.size_toArray, PySem.sizeLine_eq, hI.length]; simp; omega) fun g => comp_ints (Pr := fun r => r.length ≤ 1000) hI ?_ ?_
  · intro k t I oI C oC D m₂ ys h9 tk9 E' hC hx F N off ne
    have off0 := off
    simp only [LCg.Off3, and_true] at off
    clear F9 N9
    k_unmd
    k_fold
    walk_at "m_steps"
    refine path_str (G0.keeps (Fr.keep (by k_asm))) (by decide) ?_
    intro h' tk' t' p kp hp
    exact LCg.CompEnd.intro (F.keeps kp) (N.keeps kp) _ (fun p hp => hp) off0 (.inr ⟨_, by k_mem, rfl, _, rfl⟩) ⟨rfl, _, _, rfl, hp⟩
  · intro ps rs hps hl hp D h9 tk9 F N o1
    simp only [LCg.Off1, and_true] at o1
    have hlen : rs.length ≤ 14 := by rw [hl]; simp; omega
    clear F9 N9 hI hC7 hl
    k_unmd
    walk_at "m_steps"
    rename Fr _ _ _ _ => F9
    rename News _ _ _ _ => N9
    have hsz : ps.toArray.size ≤ sizeLine := by rw [List.size_toArray, PySem.sizeLine_eq, hps.length]; omega
    refine LCg.CompSrc.ledger rfl F9 N9 (by k_mem) hsz fun g => comp_map placeT hps ?_ ?_
    · intro c t I oI C oC D m₂ ys h9 tk9 E' hc hC hx F N off ne
      have off0 := off
      simp only [LCg.Off3, and_true] at off
      have hcl := hp c hc
      have hjl := joinT_le c
      clear F9 N9
      k_unmd
      k_fold
      walk_at "m_steps"
      refine join_str (by omega) (G0.keeps (Fr.keep F)) (by decide) ?_
      intro h' tk' t' kp
      have F2 := F.keeps kp
      have N2 := News.keeps N kp
      clear F N
      walk_at "m_steps"
      refine normpath_str (by omega) (joinT_pos c) (place_eq c).2 (G0.keeps (Fr.keep F2)) (by decide) ?_
      intro h3 tk3 t3 kp3
      rw [(place_eq c).1]
      exact LCg.CompEnd.intro (F2.keeps kp3) (News.keeps N2 kp3) _ (fun p hp => hp) off0 (.inr ⟨_, by k_mem, rfl, _, rfl⟩) ⟨rfl, _, rfl⟩
    · intro bs hbs B h9 tk9 F N o1
      simp only [LCg.Off1, and_true] at o1
      clear F9 N9
      k_unmd
      k_fold
      walk_at "m_steps"
      rename Fr _ _ _ _ => F9
      rename News _ _ _ _ => N9
      refine LCg.CompSrc.ledger rfl F9 N9 (by k_mem) hsz fun g => comp_map placeT hps ?_ ?_
      · intro c t I oI C oC D m₂ ys h9 tk9 E' hc hC hx F N off ne
        have off0 := off
        simp only [LCg.Off3, and_true] at off
        have hcl := hp c hc
        clear F9 N9
        k_unmd
        k_fold
        walk_at "m_steps"
        refine place_str (by omega) (G0.keeps (Fr.keep F)) (by decide) ?_
        intro h3 tk3 t3 kp3
        exact LCg.CompEnd.intro (F.keeps kp3) (News.keeps N kp3) _ (fun p hp => hp) off0 (.inr ⟨_, by k_mem, rfl, _, rfl⟩) ⟨rfl, _, rfl⟩
      · intro qs hqs C h9 tk9 F N o2
        simp only [LCg.Off1, and_true] at o2
        clear F9 N9
        k_unmd
        k_fold
        walk_at "m_steps"
        have hql : (rs.map placeT).length = rs.length := List.length_map ..
        refine m_sortedL F N (led_of N (by k_mem)) hqs (by omega) ?_
        intro h8 R rv srow k8 F8 N8 l8 hrv hperm hsort
        k_lt l8
        have N7 := news_three N8 (p := (R, lstO rv k8)) (q := (B, LCg.lst bs)) (r := (187, tabObj #[])) (by k_mem) (by k_mem) (by k_mem)
        clear F N N8
        walk_at "m_steps"
        have hrow : Srt srow := srt_of hsort
        have hw14 : (rs.map placeT).length ≤ 14 := by omega
        have hw64 : (rs.map placeT).length < 64 := by omega
        refine tree_callL (tree_strs true 14) G0 ?_ (by k_asm) (by k_asm) (by k_mem) (by k_mem) (codeRec_news (by k_asm) (by k_mem) (by assumption) (by assumption)) hbs hrow hperm hw14 hw64 (fun h => by cases h) rfl (by decide) (by decide) ?_
        · intro g₀ Gg e1 e2
          refine mid_lam Gg e1 e2 (fun l => rfl) rfl ?_ rfl rfl rfl (by decide)
          intro s Q l vs ss L h₁ tk dp un fr gd G hl hS h0 h64 hr F N h
          clear G0 X0 T0 Gg
          have X := G.X
          have T := G.T
          k_unmd
          (try k_fold)
          walk_at "m_steps"
          refine median_low_strs (hl.at fun o e => F.keep _ o e) hS h0 h64 (G.keeps F.keep) (by show dp + 1 + 12 < _; omega) ?_
          intro h' tk' t' row' kp hp' hs'
          exact h h' tk' t' row' (Keep.trans F.keep kp) hp' hs'
        · intro h9 tk9 D1 refs1 k1 ents1 F9 N9 ne1 R1
          simp only [List.cons_append, List.nil_append] at N9
          have n1 := ne1 (187, _) (by k_mem)
          have h187 : ∀ p ∈ ents1, p.1 ≠ 187 := n1.2
          have hD187 : @Ne Nat 187 D1 := n1.1
          have N8 := news_sub (new' := (D1, _) :: (R, _) :: (B, _) :: (187, _) :: ents1) N9 (List.forall_mem_cons.mpr ⟨by k_mem, List.forall_mem_cons.mpr ⟨by k_mem, List.forall_mem_cons.mpr ⟨by k_mem, List.forall_mem_cons.mpr ⟨by k_mem, fun p hp => by (repeat apply List.mem_cons_of_mem); exact hp⟩⟩⟩⟩)
          clear N9 ne1 n1
          k_unmd
          (try k_fold)
          walk_at "m_steps"
          refine tree_callL (tree_strs false 14) G0 ?_ (by k_asm) (by k_asm) (by k_mem) (by k_mem) (codeRec_news (by k_asm) (by k_mem) (by assumption) (by assumption)) hbs hrow hperm hw14 hw64 (fun h => by cases h) rfl (by decide) (by decide) ?_
          · intro g₀ Gg e1 e2
            refine mid_lam Gg e1 e2 (fun l => rfl) rfl ?_ rfl rfl rfl (by decide)
            intro s Q l vs ss L h₁ tk dp un fr gd G hl hS h0 h64 hr F N h
            clear G0 X0 T0 Gg
            have X := G.X
            have T := G.T
            k_unmd
            (try k_fold)
            walk_at "m_steps"
            refine median_high_strs (hl.at fun o e => F.keep _ o e) hS h0 h64 (G.keeps F.keep) (by show dp + 1 + 12 < _; omega) ?_
            intro h' tk' t' row' kp hp' hs'
            exact h h' tk' t' row' (Keep.trans F.keep kp) hp' hs'
          · intro h7 tk7 D2 refs2 k2 ents2 F7 N7 ne2 R2
            simp only [List.cons_append, List.nil_append] at N7
            have N6 := news_sub (new' := (D2, _) :: (D1, _) :: (R, _) :: (187, _) :: (ents1 ++ ents2)) N7 (List.forall_mem_cons.mpr ⟨by k_mem, List.forall_mem_cons.mpr ⟨by k_mem, List.forall_mem_cons.mpr ⟨by k_mem, List.forall_mem_cons.mpr ⟨by k_mem, fun p hp => by (repeat apply List.mem_cons_of_mem); exact hp⟩⟩⟩⟩)
            clear N7 N8 F9 h187 hD187 ne2
            k_unmd
            (try k_fold)
            walk_at "m_steps"
            rename Fr _ _ _ _ => F9
            rename News _ _ _ _ => N9
            have hrl : srow.length ≤ 14 := by rw [hperm.length_eq]; exact hw14
            have hrl64 : srow.length < 64 := by omega
            refine due_call (due_strs true 14) G0 F9 N9 (by k_mem) hrv hrl hrl64 (by decide) (by decide) ?_
            intro h5 tk5 D3 refs3 k3 ents3 F5 N5 R3
            simp only [List.cons_append, List.nil_append, List.append_assoc] at N5
            clear F9 N9
            k_unmd
            (try k_fold)
            walk_at "m_steps"
            refine due_call (due_strs false 14) G0 F5 N5 (by k_mem) hrv hrl hrl64 (by decide) (by decide) ?_
            intro h4 tk4 D4 refs4 k4 ents4 F4 N4 R4
            simp only [List.cons_append, List.nil_append, List.append_assoc] at N4
            clear F5 N5
            k_unmd
            (try k_fold)
            walk_at "m_steps"
            rename Fr _ _ _ _ => F9
            rename News _ _ _ _ => N9
            refine eq_trees (N9.get (by k_mem)) (N9.get (by k_mem)) (N9.get (by k_mem)) (N9.get (by k_mem)) (N9.get (by k_mem)) (N9.get (by k_mem)) (fun p hp => (N9 p (by (repeat apply List.mem_cons_of_mem); exact List.mem_append_left _ hp)).1) (fun p hp => (N9 p (by (repeat apply List.mem_cons_of_mem); exact List.mem_append_right _ (List.mem_append_left _ hp))).1)
              (fun p hp => (N9 p (by (repeat apply List.mem_cons_of_mem); exact List.mem_append_right _ (List.mem_append_right _ (List.mem_append_left _ hp)))).1) (fun p hp => (N9 p (by (repeat apply List.mem_cons_of_mem); exact List.mem_append_right _ (List.mem_append_right _ (List.mem_append_right _ hp)))).1) R1 R2 R3 R4 (Nat.le_of_ble_eq_true rfl) ?_
            walk_at "m_steps"
            wrow_close)
end Mine

theorem PySem.Challenge.cw_pd0137_01_holds : PySem.Challenge.rw_pd0137_01.Holds := by
  exact Mine.lawT
