import PyProof.Rows.All
import Wide.All
import OpenK.AllK
import Wide.FinOn
import Lean
import PySem.Challenge.RW_ik0154_01
open PySem PySem.W PySem.Spec PySem.Calls PyProof.Rows
set_option maxRecDepth 100000
set_option Elab.async false
set_option rowWalk.seconds 0
set_option linter.all false
section -- Top1
namespace Mine
theorem said : OpenLaw.wellSaid PySem.Challenge.rw_ik0154_01 = true := by kernel_rfl
theorem hold_id {r : OpenRow} (_ : Hook) (_ : r.toRowW.promised) (hc : r.Holds) : r.Holds := hc
section
local macro_rules | `(tactic| o_head $H) => `(tactic| refine hold_id $H ?hw ?hc)
local macro_rules | `(tactic| o_law) => `(tactic| refine holds_law said fun _ => ?_)
set_option maxHeartbeats 8000000 in
open_top hd for PySem.Challenge.rw_ik0154_01
end
end Mine
end
example : True := by
  w_top off
  trivial
section -- Fw
namespace Mine
example : PySem.Challenge.rw_ik0154_01 = PySem.Challenge.rw_ik0154_01 ∧ hd.heap_1 = hd.heap_1 := by
  k_fill
  exact ⟨rfl, rfl⟩

/-- the goal under a name: while hypotheses are taken apart it is not repeated -/
theorem hideG {P : Prop} (h : let q := P; q) : P := h
noncomputable abbrev prg : Program := PySem.Challenge.rw_ik0154_01.row.toRowW.prog

/-- what stands stays -/
noncomputable def Ext (h h' : Heap) : Prop := ∀ b o, h.get? b = some o → h'.get? b = some o
theorem Ext.refl (h : Heap) : Ext h h := fun _ _ e => e
theorem Ext.trans {a b c : Heap} (x : Ext a b) (y : Ext b c) : Ext a c := fun p o e => y p o (x p o e)

theorem pcall {w : World} {A : Around} {s : Shared} {Q E : Value → Shared → Prop} {K : Frag} {p : Program} {loose : List Str} {mean : ExcName → Option Value} {mg mb : Str → Option Value}
    {name qual : Str} {params : Arguments} {body : List Stmt} {scope : Scope} {dV kV doc pm cdv ct oc : Value} {an od : Option Addr} {osl : Array (Option Value)} {f : Addr} {vs : List Value} {kws : List (Str × Value)} {binds : List (Str × Value)}
    (X : K.In s.heap) (T : Top p loose mean mg mb s.heap)
    (ho : K.lookup f = some ⟨oc, od, .func (fnOf name qual params body scope dV kV doc pm an cdv ct), osl⟩) (hcd : codeIn K cdv qual = true) (hroom : A.depth < recursionLimit)
    (hbind : BindsTo s (fnOf name qual params body scope dV kV doc pm an cdv ct) ⟨vs, kws⟩ binds) (hloc : ∀ y ∈ binds, scope.names.lookup y.1 = some .local)
    (hco : scope.isCoroutine = false) (hgen : scope.isGenerator = false) (hk : scope.kind = .function) (hcell : ∀ x ∈ scope.names, x.2 ≠ .cell)
    (h : ∀ L' h₁, Fr s.heap L' h₁ (fun y => binds.reverse.lookup y) → News s.heap L' h₁ [] →
      let env := envOf qual scope L' f cdv; let A' := A.deeper env; wpAny (model prg w) A' (execs body env)
        (fun fl s' => Q (match fl with | .ret v => v | _ => .none) s') (fun _ _ => False) { s with heap := h₁, toks := s.toks + binds.length }) :
    wpAny (model prg w) A (call (.ref f) vs kws) Q E s := by
  refine wpAny_call (codeAny_call_def (fd := fnOf name qual params body scope dV kV doc pm an cdv ct) (body := body) (binds := binds) hroom (X _ _ ho) rfl T.nolimit (codeRec_of X hcd) rfl hbind hcell hloc (fun h₁ hns hk₁ => ?_) hco hgen hk)
  exact wpAny_mono (h _ h₁ ⟨hns, hk₁, Nat.le_refl _⟩ News.nil) (fun _ _ x => x) fun _ _ x => x.elim
end Mine
namespace Mine
theorem pcallC {w : World} {A : Around} {s : Shared} {Q E : Value → Shared → Prop} {K : Frag} {p : Program} {loose : List Str} {mean : ExcName → Option Value} {mg mb : Str → Option Value}
    {name : Str} {params : Arguments} {body : List Stmt} {scope : Scope} {doc pm cdv oc : Value} {od : Option Addr} {osl : Array (Option Value)} {f : Addr} {vs : List Value} {binds : List (Str × Value)}
    (X : K.In s.heap) (T : Top p loose mean mg mb s.heap)
    (ho : K.lookup f = some ⟨oc, od, .func (docDef name params body scope pm cdv doc), osl⟩) (hcd : codeIn K cdv name = true) (hroom : A.depth < recursionLimit)
    (hbind : bindArgs (docDef name params body scope pm cdv doc) ⟨vs, []⟩ = pure binds) (hkind : (binds.all fun y => scope.names.lookup y.1 == some .local || scope.names.lookup y.1 == some .cell) = true)
    (hnd : ((cellsFrom 0 scope.names []).map (·.1)).Nodup)
    (hco : scope.isCoroutine = false) (hgen : scope.isGenerator = false) (hk : scope.kind = .function)
    (h : ∀ L' h₁ tk cells, Fr s.heap L' h₁ (bindL (envOfC name scope L' f cdv).kindOf binds fun _ => none) → News s.heap L' h₁ cells →
      CellsAre (bindC (envOfC name scope L' f cdv).kindOf binds fun _ => none) (cellsFrom (L' + 1) scope.names []) cells →
      let env := envOfC name scope L' f cdv; let A' := A.deeper env; wpAny (model prg w) A' (execs body env)
        (fun fl s' => Q (match fl with | .ret v => v | _ => .none) s') (fun _ _ => False) { s with heap := h₁, toks := tk }) :
    wpAny (model prg w) A (call (.ref f) vs []) Q E s :=
  wpAny_call (call_cellsN_ret (name := name) (params := params) (body := body) (scope := scope) (pm := pm) (cd := cdv) (doc := doc) (binds := binds) hroom (X _ _ ho) rfl T.nolimit (codeRec_of X hcd) hbind
    (kindsX hkind _) hnd (fun h₁ tk cells F N Y => wpAny_mono (h _ h₁ tk cells F N Y) (fun _ _ x => x) fun _ _ x => x) hco hgen hk)
end Mine
namespace Mine
theorem fr_ext {h₀ h h' : Heap} {L : Addr} {m : Str → Option Value} (F : Fr h₀ L h m) (x : Ext h h') : Fr h₀ L h' m := F.keeps x
theorem news_ext {h₀ h h' : Heap} {L : Addr} {news : List (Addr × Obj)} (N : News h₀ L h news) (x : Ext h h') : News h₀ L h' news := N.grown x
theorem fresh_ne {h : Heap} {a b : Addr} {o : Obj} (hf : h.get? a = none) (e : h.get? b = some o) : b ≠ a := fun q => by rw [q, hf] at e; cases e
theorem news_add {h₀ h h' : Heap} {L a : Addr} {o : Obj} {m : Str → Option Value} {news : List (Addr × Obj)} (F : Fr h₀ L h m) (N : News h₀ L h news) (x : Ext h h') (hf : h.get? a = none) (e : h'.get? a = some o) : News h₀ L h' ((a, o) :: news) := fun p hp => by
  rcases List.mem_cons.mp hp with rfl | hp
  · refine ⟨e, ?_, ?_⟩
    · obtain ⟨oL, _, _, hL, _⟩ := F.ns
      exact Ne.symm (fresh_ne hf hL)
    · cases q : h₀.get? a with
      | none => rfl
      | some o' => have := F.keep a o' q; rw [hf] at this; cases this
  · exact (news_ext N x) p hp
end Mine
namespace Mine
section
variable {prog : Program} {w : World} {A : Around} {E : Value → Shared → Prop} {s : Shared} {a b : Int} {t u : Tok} {Q : Value → Shared → Prop}
theorem fd_pos (hb : 0 < b) (hp : b.natAbs.log2 < 9000) (h : Q (.int (a / b) s.toks) { s with toks := s.toks + 1 }) : wpAny (model prog w) A (binaryOp .FloorDiv (.int a t) (.int b u)) Q E s :=
  PyProof.Rows.floordiv_int (Int.ne_of_gt hb) (by rw [Int.fdiv_eq_ediv_of_nonneg _ (Int.le_of_lt hb)]; exact h) (hp := Or.inl (PyProof.noPylong_of_log2 hp))
theorem md_pos (hb : 0 < b) (h : Q (.int (a % b) s.toks) { s with toks := s.toks + 1 }) : wpAny (model prog w) A (binaryOp .Mod (.int a t) (.int b u)) Q E s :=
  PyProof.Rows.mod_int' (Int.ne_of_gt hb) (by rw [Int.fmod_eq_emod_of_nonneg _ (Int.le_of_lt hb)]; exact h)
end
end Mine
namespace Mine
open LCg LCt
inductive Are {α : Type} (R : Value → α → Prop) : List Value → List α → Prop
  | nil : Are R [] []
  | cons {v : Value} {a : α} {vs : List Value} {as : List α} : R v a → Are R vs as → Are R (v :: vs) (a :: as)
theorem Are.append {α : Type} {R : Value → α → Prop} {vs ws : List Value} {as bs : List α} (x : Are R vs as) (y : Are R ws bs) : Are R (vs ++ ws) (as ++ bs) := by
  induction x with
  | nil => exact y
  | cons r _ ih => exact .cons r ih
theorem Are.length {α : Type} {R : Value → α → Prop} {vs : List Value} {as : List α} (x : Are R vs as) : vs.length = as.length := by
  induction x with
  | nil => rfl
  | cons _ _ ih => simp [ih]
theorem Are.at {α : Type} {R : Value → α → Prop} {vs : List Value} {as : List α} (x : Are R vs as) : ∀ (i : Nat) (v : Value), vs[i]? = some v → ∃ a, as[i]? = some a ∧ R v a := by
  induction x with
  | nil => intro i v h; simp at h
  | cons r _ ih =>
    intro i v h
    cases i with
    | zero => simp at h; subst h; exact ⟨_, by simp, r⟩
    | succ i => simp at h; obtain ⟨a, h1, h2⟩ := ih i v h; exact ⟨a, by simpa using h1, h2⟩
noncomputable def IsInt (v : Value) (k : Int) : Prop := ∃ t, v = .int k t
noncomputable def IsStr (v : Value) (x : Str) : Prop := ∃ t, v = .str x t
noncomputable def IsBool (v : Value) (b : Bool) : Prop := v = .bool b
theorem Are.ints {vs : List Value} {ns : List Int} (x : Are IsInt vs ns) : IntsAre vs ns := by
  induction x with
  | nil => exact .nil
  | cons r _ ih => obtain ⟨t, rfl⟩ := r; exact .cons _ _ ih
theorem are_ints {vs : List Value} {ns : List Int} (x : IntsAre vs ns) : Are IsInt vs ns := by
  induction x with
  | nil => exact .nil
  | cons n t _ ih => exact .cons ⟨t, rfl⟩ ih
theorem Are.strs {vs : List Value} {ns : List Str} (x : Are IsStr vs ns) : StrsAre vs ns := by
  induction x with
  | nil => exact .nil
  | cons r _ ih => obtain ⟨t, rfl⟩ := r; exact .cons _ _ ih
theorem are_strs {vs : List Value} {ns : List Str} (x : StrsAre vs ns) : Are IsStr vs ns := by
  induction x with
  | nil => exact .nil
  | cons n t _ ih => exact .cons ⟨t, rfl⟩ ih

/-- a turn of a block is through: what stood stands, the element is what it is to be -/
noncomputable def TurnE (h₀ : Heap) (L : Addr) (m : Str → Option Value) (s₁ : Shared) (led : List (Addr × Obj)) (R : Value → Prop) (y : Value) (s₂ : Shared) : Prop :=
  ∃ h' tk, s₂ = { s₁ with heap := h', toks := tk } ∧ Fr h₀ L h' m ∧ News h₀ L h' led ∧ R y
theorem TurnE.intro {h₀ h' : Heap} {L : Addr} {m : Str → Option Value} {s₁ : Shared} {led all : List (Addr × Obj)} {R : Value → Prop} {y : Value} {tk : Nat} (F : Fr h₀ L h' m) (N : News h₀ L h' all) (sub : ∀ p ∈ led, p ∈ all) (r : R y) :
    TurnE h₀ L m s₁ led R y { s₁ with heap := h', toks := tk } := ⟨h', tk, rfl, F, fun p hp => N p (sub p hp), r⟩
section
variable {prog : Program} {w : World} {A : Around} {h₀ : Heap} {L : Addr} {m : Str → Option Value} {env : Env} {ct elt : Expr} {x : Str} {scope : Scope} {cl : List (Str × Addr)} {s : Shared} {S : List (Addr × Obj) → Prop} {P : Nat → Value → Prop} {Fin : List Value → List (Addr × Obj) → Prop} {news : List (Addr × Obj)} {α β : Type} {n : Nat}
theorem rest_gen (as : List α) (f : α → β) {Ri : Value → α → Prop} {Ro : Value → β → Prop} (hn : as.length = n) (hP : ∀ i v, i < n → P i v → ∃ a, as[i]? = some a ∧ Ri v a) (hS : S news)
    (turn : ∀ a v I oI C oC D m₂ ys h tk (E' : Value → Shared → Prop), a ∈ as → Ri v a → NsObj oC m₂ → m₂ x = some v → Fr h₀ L h m → News h₀ L h ((I, oI) :: (C, oC) :: (D, lst ys) :: news) →
      wpAny (model prog w) A (eval elt (compEnvC scope cl C env)) (TurnE h₀ L m { s with heap := h, toks := tk } ((I, oI) :: (C, oC) :: (D, lst ys) :: news) (fun y => Ro y (f a))) E' { s with heap := h, toks := tk })
    (fin : ∀ ys, Are Ro ys (as.map f) → Fin ys news) : CompRest prog w A h₀ L m env elt x scope cl s S P Fin n 0 [] news := by
  have key : ∀ (j i : Nat) (ys : List Value), i + j = n → Are Ro ys ((as.take i).map f) → CompRest prog w A h₀ L m env elt x scope cl s S P Fin j i ys news := by
    intro j
    induction j with
    | zero =>
      intro i ys hi hy
      have e : i = as.length := by omega
      subst e
      rw [List.take_length] at hy
      exact CompRest.zero (fin ys hy)
    | succ j ih =>
      intro i ys hi hy
      refine CompRest.succ fun v I oI C oC D m₂ h tk E' hv hC hx F N off ne => ?_
      obtain ⟨a, ha, hr⟩ := hP i v (by omega) hv
      refine wpAny_mono (turn a v I oI C oC D m₂ ys h tk E' (List.mem_of_getElem? ha) hr hC hx F N) (fun y s₂ hq => ?_) fun _ _ e => e
      obtain ⟨h', tk', rfl, F', N', r⟩ := hq
      refine ⟨h', tk', news, rfl, F', N', off, hS, ih (i + 1) _ (by omega) ?_⟩
      rw [List.take_add_one, ha]
      simpa using hy.append (.cons r .nil)
  exact key n 0 [] (by omega) (by simpa using Are.nil)
theorem rest_T (as : List α) (p : α → Bool) (f : α → β) {Ri : Value → α → Prop} {Ro : Value → β → Prop} (hn : as.length = n) (hP : ∀ i v, i < n → P i v → ∃ a, as[i]? = some a ∧ Ri v a) (hS : S news)
    (turn : ∀ a v I oI C oC D m₂ ys h tk (E' : Value → Shared → Prop), a ∈ as → Ri v a → NsObj oC m₂ → m₂ x = some v → Fr h₀ L h m → News h₀ L h ((I, oI) :: (C, oC) :: (D, lst ys) :: news) →
      wpAny (model prog w) A (isTrue ct (compEnvC scope cl C env) (eval ct (compEnvC scope cl C env))) (fun ok s' => if ok = true then
          wpAny (model prog w) A (eval elt (compEnvC scope cl C env)) (TurnE h₀ L m { s with heap := h, toks := tk } ((I, oI) :: (C, oC) :: (D, lst ys) :: news) (fun y => p a = true ∧ Ro y (f a))) E' s'
        else TurnE h₀ L m { s with heap := h, toks := tk } ((I, oI) :: (C, oC) :: (D, lst ys) :: news) (fun _ => p a = false) Value.none s') E' { s with heap := h, toks := tk })
    (fin : ∀ ys, Are Ro ys ((as.filter p).map f) → Fin ys news) : CompRestT prog w A h₀ L m env ct elt x scope cl s S P Fin n 0 [] news := by
  have key : ∀ (j i : Nat) (ys : List Value), i + j = n → Are Ro ys (((as.take i).filter p).map f) → CompRestT prog w A h₀ L m env ct elt x scope cl s S P Fin j i ys news := by
    intro j
    induction j with
    | zero =>
      intro i ys hi hy
      have e : i = as.length := by omega
      subst e
      rw [List.take_length] at hy
      exact CompRestT.zero (fin ys hy)
    | succ j ih =>
      intro i ys hi hy
      refine CompRestT.succ fun v I oI C oC D m₂ h tk E' hv hC hx F N off ne => ?_
      obtain ⟨a, ha, hr⟩ := hP i v (by omega) hv
      refine wpAny_mono (turn a v I oI C oC D m₂ ys h tk E' (List.mem_of_getElem? ha) hr hC hx F N) (fun ok s₂ hq => ?_) fun _ _ e => e
      cases ok with
      | true =>
        simp only [if_true] at hq ⊢
        refine wpAny_mono hq (fun y s₃ hq => ?_) fun _ _ e => e
        obtain ⟨h', tk', rfl, F', N', hp, r⟩ := hq
        refine ⟨h', tk', news, rfl, F', N', off, hS, ih (i + 1) _ (by omega) ?_⟩
        rw [List.take_add_one, ha]
        simpa [hp] using hy.append (.cons r .nil)
      | false =>
        simp only [Bool.false_eq_true, if_false] at hq ⊢
        obtain ⟨h', tk', rfl, F', N', hp⟩ := hq
        refine ⟨h', tk', news, rfl, F', N', off, hS, ih (i + 1) _ (by omega) ?_⟩
        rw [List.take_add_one, ha]
        simpa [hp] using hy
  exact key n 0 [] (by omega) (by simpa using Are.nil)
end
theorem src_ints {vs : List Value} {ns : List Int} (h : IntsAre vs ns) (i : Nat) (v : Value) (_ : i < vs.toArray.size) (hv : vs.toArray[i]? = some v) : ∃ a, ns[i]? = some a ∧ IsInt v a := (are_ints h).at i v (by simpa using hv)
theorem src_strs {vs : List Value} {ns : List Str} (h : StrsAre vs ns) (i : Nat) (v : Value) (_ : i < vs.toArray.size) (hv : vs.toArray[i]? = some v) : ∃ a, ns[i]? = some a ∧ IsStr v a := (are_strs h).at i v (by simpa using hv)
theorem src_range {a : Int} {n : Nat} (i : Nat) (v : Value) (hi : i < n) (hv : ∃ t, v = .int (a + (i : Int)) t) : ∃ k, (rangeKs a n)[i]? = some k ∧ IsInt v k := by
  obtain ⟨t, e⟩ := hv
  exact ⟨a + (i : Int), by simp [rangeKs, hi], t, e⟩
end Mine
namespace Mine
noncomputable def TurnP (h₀ : Heap) (L I : Addr) (it : Obj) (J : (Str → Option Value) → List (Addr × Obj) → Prop) (s : Shared) (R : Result → Shared → Prop) (f : Flow) (s₂ : Shared) : Prop :=
  match f with
  | .ret v => R (.ok (.ret v)) s₂
  | .brk => R (.ok .next) s₂
  | _ => ∃ h' tk m' news', s₂ = { s with heap := h', toks := tk } ∧ Fr h₀ L h' m' ∧ News h₀ L h' ((I, it) :: news') ∧ (∀ p ∈ news', p.1 ≠ I) ∧ J m' news'
section
variable {prog : Program} {w : World} {A : Around} {s : Shared} {h₀ : Heap} {L : Addr} {env : Env} {target : PySem.Expr} {body : List Stmt} {R : Result → Shared → Prop}
theorem loop_any {I : Addr} {fp : List Addr} {n : Nat} {P : Nat → Value → Prop} {St : Nat → Heap → Prop} (W : Walks prog w A I fp [I] n P St) (hfp : ∀ b ∈ fp, b = I ∨ ∃ o, h₀.get? b = some o) (hI : h₀.get? I = none) (hIo : ∀ i h, St i h → ∃ o, h.get? I = some o)
    (J : Nat → (Str → Option Value) → List (Addr × Obj) → Prop) {m : Str → Option Value} {news : List (Addr × Obj)} (F : Fr h₀ L s.heap m) (N : News h₀ L s.heap news) (off : ∀ p ∈ news, p.1 ≠ I) (hLI : L ≠ I) (hJ : J 0 m news) (hst : St 0 s.heap)
    (turn : ∀ i v m₁ news₁ it h tk, i < n → P i v → J i m₁ news₁ → (∀ p ∈ news₁, p.1 ≠ I) → Fr h₀ L h m₁ → News h₀ L h ((I, it) :: news₁) →
      wpAny (model prog w) A (assign target env v) (fun _ s₂ => wpAny (model prog w) A (execs body env) (TurnP h₀ L I it (J (i + 1)) { s with heap := h, toks := tk } R) (fun _ _ => False) s₂) (fun _ _ => False) { s with heap := h, toks := tk })
    (done : ∀ h tk m₁ news₁, J n m₁ news₁ → Fr h₀ L h m₁ → News h₀ L h news₁ → R (.ok .next) { s with heap := h, toks := tk })
    (ht : ∀ v, letOwnedTupleGo target (.ref I) v = pure () := by intro _; rfl) :
    codeAny (model prog w) A (.forLoop target (.ref I) body [] env) R s := by
  refine codeAny_forLoop (fun k s' => ∃ i h tk m₁ news₁, s' = { s with heap := h, toks := tk } ∧ i ≤ n ∧ k = n - i ∧ St i h ∧ Fr h₀ L h m₁ ∧ News h₀ L h news₁ ∧ (∀ p ∈ news₁, p.1 ≠ I) ∧ J i m₁ news₁) ?_ n ⟨0, s.heap, s.toks, m, news, rfl, Nat.zero_le _, rfl, hst, F, N, off, hJ⟩ ht
  intro k s' hq9
  refine hideG ?_
  intro q9
  obtain ⟨i, h, tk, m₁, news₁, rfl, hi, rfl, hst', F', N', off', hJ'⟩ := hq9
  (try k_unmd)
  k_unfold
  have next : ∀ h₁ : Heap, (∀ b o, b ∉ [I] → h.get? b = some o → h₁.get? b = some o) → Fr h₀ L h₁ m₁ ∧ News h₀ L h₁ news₁ := fun h₁ hk =>
    ⟨LCg.fr_but F' hk hLI hI, LCg.news_but N' hk off'⟩
  by_cases hlt : i < n
  · refine W.item i _ _ _ hlt hst' fun v h₁ tk₁ hPv hst₁ hk₁ => ?_
    obtain ⟨F₁, N₁⟩ := next h₁ hk₁
    obtain ⟨it, hit⟩ := hIo _ _ hst₁
    have N₂ : News h₀ L h₁ ((I, it) :: news₁) := fun p hp => by
      rcases List.mem_cons.mp hp with rfl | hp
      · exact ⟨hit, Ne.symm hLI, hI⟩
      · exact N₁ p hp
    refine wpAny_mono (turn i v m₁ news₁ it h₁ tk₁ hlt hPv hJ' off' F₁ N₂) (fun _ s₂ h₂ => wpAny_mono h₂ (fun f s₃ h₃ => ?_) fun _ _ x => x.elim) fun _ _ x => x.elim
    have fin : (∃ h' tk m' news', s₃ = { ({ s with heap := h₁, toks := tk₁ } : Shared) with heap := h', toks := tk } ∧ Fr h₀ L h' m' ∧ News h₀ L h' ((I, it) :: news') ∧ (∀ p ∈ news', p.1 ≠ I) ∧ J (i + 1) m' news') →
        ∃ q, q < n - i ∧ ∃ i h tk m₁ news₁, s₃ = { s with heap := h, toks := tk } ∧ i ≤ n ∧ q = n - i ∧ St i h ∧ Fr h₀ L h m₁ ∧ News h₀ L h news₁ ∧ (∀ p ∈ news₁, p.1 ≠ I) ∧ J i m₁ news₁ := by
      intro hq9
      refine hideG ?_
      intro q9
      obtain ⟨h', tk', m', news', rfl, F₃, N₃, off₃, hJ₃⟩ := hq9
      (try k_unmd)
      k_unfold
      refine ⟨n - (i + 1), by omega, i + 1, h', tk', m', news', rfl, hlt, rfl, W.frame _ _ _ hst₁ fun b hb o e => ?_, F₃, fun p hp => N₃ p (List.mem_cons_of_mem _ hp), off₃, hJ₃⟩
      rcases hfp b hb with rfl | ⟨o₀, ho⟩
      · rw [hit] at e; cases e
        exact (N₃ _ List.mem_cons_self).1
      · have e1 := F₁.keep b o₀ ho
        rw [e1] at e; cases e
        exact F₃.keep b _ ho
    cases f with
    | ret v => exact h₃
    | brk => exact h₃
    | next => exact fin h₃
    | cont => exact fin h₃
  · obtain rfl : i = n := Nat.le_antisymm hi (Nat.not_lt.mp hlt)
    refine W.done _ _ _ hst' fun h₁ tk₁ hk₁ => wpAny_execs_nil ?_
    obtain ⟨F₁, N₁⟩ := next h₁ hk₁
    exact done h₁ tk₁ m₁ news₁ hJ' F₁ N₁
theorem for_any {iter : PySem.Expr} {pos : Pos} {Q : Flow → Shared → Prop} {E : Value → Shared → Prop}
    (h : wpAny (model prog w) A (eval iter env) (fun x s₁ => wpAny (model prog w) A (pyIter x) (fun it s₂ =>
      codeAny (model prog w) A (.forLoop target it body [] env) (fun r s' => match r with | .ok f => Q f s' | .error _ => False) s₂) (fun _ _ => False) s₁) (fun _ _ => False) s)
    (hs : ∀ x, foldedSetIterable iter env x = pure x := by intro _; rfl) : wpAny (model prog w) A (exec (.For target iter body [] pos) env) Q E s := by
  refine wpAny_For (wpAny_mono h (fun x s₁ h₁ => wpAny_mono h₁ (fun it s₂ h₂ => codeAny_mono h₂ fun r s' hr => ?_) fun _ _ x => x.elim) fun _ _ x => x.elim) hs
  cases r with
  | ok f => exact hr
  | error e => exact hr.elim
theorem iter_bytes {b : Array UInt8} {t : Tok} {E : Value → Shared → Prop} (hh : A.handled = none)
    (J : Nat → (Str → Option Value) → List (Addr × Obj) → Prop) {m : Str → Option Value} {news : List (Addr × Obj)} (F : Fr h₀ L s.heap m) (N : News h₀ L s.heap news) (hJ : J 0 m news)
    (turn : ∀ i k u m₁ news₁ I it h tk, (KBw.bInts b)[i]? = some k → (∀ p ∈ news, p.1 < I) → J i m₁ news₁ → (∀ p ∈ news₁, p.1 ≠ I) → Fr h₀ L h m₁ → News h₀ L h ((I, it) :: news₁) →
      wpAny (model prog w) A (assign target env (.int k u)) (fun _ s₂ => wpAny (model prog w) A (execs body env) (TurnP h₀ L I it (J (i + 1)) { s with heap := h, toks := tk } R) (fun _ _ => False) s₂) (fun _ _ => False) { s with heap := h, toks := tk })
    (done : ∀ h tk m₁ news₁, J b.size m₁ news₁ → Fr h₀ L h m₁ → News h₀ L h news₁ → R (.ok .next) { s with heap := h, toks := tk })
    (ht : ∀ I v, letOwnedTupleGo target (.ref I) v = pure () := by intro _ _; rfl) :
    wpAny (model prog w) A (pyIter (.bytes b t)) (fun it s₂ => codeAny (model prog w) A (.forLoop target it body [] env) R s₂) E s := by
  refine KBw.pyIter_bytes ?_
  have W := KBw.walks (prog := prog) (w := w) hh s.heap.objs.size b t
  refine loop_any W (fun b' hb => .inl (List.mem_singleton.mp hb)) (next_is_new F) (fun i h st => by obtain ⟨o, e, _⟩ := st; exact ⟨o, e⟩) J (F.push _) (fun p hp => ⟨Heap.get?_push_of_some _ (N p hp).1, (N p hp).2⟩)
    (fun p hp => Nat.ne_of_lt (Heap.lt_size (N p hp).1)) (Nat.ne_of_lt F.ns.lt) hJ ⟨_, Heap.get?_push_size _ rfl, rfl, rfl⟩ ?_ ?_ (ht _)
  · rintro i v m₁ news₁ it h tk hi ⟨c, u, hc, rfl⟩ hJ' off' F' N'
    exact turn i _ u m₁ news₁ _ it h tk (KBw.ints_get hc) (fun p hp => Heap.lt_size (N p hp).1) hJ' off' F' N'
  · intro h tk m₁ news₁ hJ' F' N'
    exact done h tk m₁ news₁ hJ' F' N'
theorem iter_list {l : Addr} {its : Array Value} {E : Value → Shared → Prop} (hh : A.handled = none) (hl : h₀.IsList l its)
    (J : Nat → (Str → Option Value) → List (Addr × Obj) → Prop) {m : Str → Option Value} {news : List (Addr × Obj)} (F : Fr h₀ L s.heap m) (N : News h₀ L s.heap news) (hJ : J 0 m news)
    (turn : ∀ i v m₁ news₁ I it h tk, its[i]? = some v → (∀ p ∈ news, p.1 < I) → J i m₁ news₁ → (∀ p ∈ news₁, p.1 ≠ I) → Fr h₀ L h m₁ → News h₀ L h ((I, it) :: news₁) →
      wpAny (model prog w) A (assign target env v) (fun _ s₂ => wpAny (model prog w) A (execs body env) (TurnP h₀ L I it (J (i + 1)) { s with heap := h, toks := tk } R) (fun _ _ => False) s₂) (fun _ _ => False) { s with heap := h, toks := tk })
    (done : ∀ h tk m₁ news₁, J its.size m₁ news₁ → Fr h₀ L h m₁ → News h₀ L h news₁ → R (.ok .next) { s with heap := h, toks := tk })
    (ht : ∀ I v, letOwnedTupleGo target (.ref I) v = pure () := by intro _ _; rfl) :
    wpAny (model prog w) A (pyIter (.ref l)) (fun it s₂ => codeAny (model prog w) A (.forLoop target it body [] env) R s₂) E s := by
  have hls : s.heap.IsList l its := hl.at fun o e => F.keep l o e
  have hlt : l < s.heap.objs.size := by obtain ⟨_, e, _⟩ := hls; exact Heap.lt_size e
  refine wpAny_pyIter_list hls ?_
  have W := Walks.list (prog := prog) (w := w) hh s.heap.objs.size l (Nat.ne_of_lt hlt) its
  refine loop_any W (fun b' hb => ?_) (next_is_new F) (fun i h st => by obtain ⟨o, e, _⟩ := st.1; exact ⟨o, e⟩) J (F.push _) (fun p hp => ⟨Heap.get?_push_of_some _ (N p hp).1, (N p hp).2⟩)
    (fun p hp => Nat.ne_of_lt (Heap.lt_size (N p hp).1)) (Nat.ne_of_lt F.ns.lt) hJ ⟨⟨_, Heap.get?_push_size _ rfl, rfl, rfl⟩, hls.push _⟩ ?_ ?_ (ht _)
  · rcases List.mem_cons.mp hb with rfl | hb
    · exact .inl rfl
    · rw [List.mem_singleton.mp hb]
      obtain ⟨o, e, _⟩ := hl
      exact .inr ⟨o, e⟩
  · rintro i v m₁ news₁ it h tk hi hP hJ' off' F' N'
    exact turn i v m₁ news₁ _ it h tk hP (fun p hp => Heap.lt_size (N p hp).1) hJ' off' F' N'
  · intro h tk m₁ news₁ hJ' F' N'
    exact done h tk m₁ news₁ hJ' F' N'
end
end Mine
namespace Mine
open LCg
noncomputable def SrcB (prog : Program) (w : World) (A : Around) (h₀ : Heap) (L : Addr) (m : Str → Option Value) (env : Env) (elt : PySem.Expr) (x : Str) (scope : Scope) (cl : List (Str × Addr)) (Q : Value → Shared → Prop) (xv : Value) (s₁ : Shared) : Prop :=
  ∃ b t news, xv = .bytes b t ∧ Fr h₀ L s₁.heap m ∧ News h₀ L s₁.heap news ∧ b.size ≤ sizeLine ∧
    ∀ g : Heap, CompRest prog w A h₀ L m env elt x scope cl { s₁ with heap := g } (fun _ => True) (fun i v => ∃ k u, (KBw.bInts b)[i]? = some k ∧ v = .int k u) (FinE h₀ L m { s₁ with heap := g } Q) b.size 0 [] news
theorem ListComp_B {prog : Program} {w : World} {A : Around} {E : Value → Shared → Prop} {s : Shared} {h₀ : Heap} {L : Addr} {m : Str → Option Value} {env : Env} {elt iter : PySem.Expr} {x : Str} {px : Pos} {scope : Scope} {cl : List (Str × Addr)} {pos : Pos} {Q : Value → Shared → Prop}
    (_F₀ : Fr h₀ L s.heap m) (hh : A.handled = none) (hclos : closureFor scope env = pure cl) (hcell : ∀ y ∈ scope.names, y.2 ≠ .cell) (hkind : scope.kind = .function)
    (hnames : ∀ y ∈ scope.names, y.2 = .local → scope.names.lookup y.1 = some .local) (hx : scope.names.lookup x = some .local)
    (h : wpAny (model prog w) A (eval iter env) (SrcB prog w A h₀ L m env elt x scope cl Q) E s)
    (hs : ∀ x, foldedSetIterable iter env x = pure x := by intro _; rfl) :
    wpAny (model prog w) A (eval (.ListComp elt [⟨.Name x px, iter, [], 0⟩] scope pos) env) Q E s := by
  rw [eval_ListComp]
  refine wpAny_comprehension_free (use := none) rfl hs hclos hkind hnames (wpAny_mono h (fun xv s₁ h₁ => ?_) fun _ _ e => e)
  refine hideG ?_
  intro q9
  obtain ⟨b, t, news, rfl, F, N, hsz, rest⟩ := h₁
  (try k_unmd)
  k_unfold
  refine KBw.pyIter_bytes ?_
  have W : Walks prog w A s₁.heap.objs.size [s₁.heap.objs.size] [s₁.heap.objs.size] b.size (fun i v => ∃ k u, (KBw.bInts b)[i]? = some k ∧ v = .int k u) _ :=
    let W := KBw.walks (prog := prog) (w := w) hh s₁.heap.objs.size b t
    { sub := W.sub, frame := W.frame, done := W.done, self := W.self,
      item := fun i s Q E hi st hQ => W.item i s Q E hi st fun v h' tk hP => hQ v h' tk (by obtain ⟨c, u, hc, rfl⟩ := hP; exact ⟨_, u, KBw.ints_get hc, rfl⟩) }
  have up : ∀ b' o, s₁.heap.get? b' = some o → (s₁.heap.push { cls := .type "bytes_iterator", data := .fields #[.bytes b t, .int 0 0] }).get? b' = some o := fun _ _ e => Heap.get?_push_of_some _ e
  refine block_U W hsz (fun i h st => by obtain ⟨o, e, _⟩ := st; exact ⟨o, e⟩) (fun i h h' o nw st e e' _ _ _ => ?_) hcell hkind hx ⟨_, Heap.get?_push_size _ rfl, rfl, rfl⟩ (fun b' hb => ?_)
    (F.keeps up) (N.grown up) (Nat.ne_of_lt F.ns.lt) (next_is_new F) (fun p hp => Nat.ne_of_lt (Heap.lt_size (N p hp).1)) trivial (rest _) ?_
  · obtain ⟨o', q, r⟩ := st
    rw [e] at q; cases q
    exact ⟨o, e', r⟩
  · rw [List.mem_singleton.mp hb]
    show s₁.heap.objs.size < (s₁.heap.push _).objs.size
    rw [Heap.size_push]; exact Nat.lt_succ_self _
  · intro D C h tk m' ys news' F' N' o1 hn hC₀ hD₀ hCL hDL hCD offC fin
    refine ⟨m', hn, fun h'' hs'' => fin D h'' tk (F'.change hs'' hCL hC₀) (fun p hp => ?_) o1⟩
    refine ⟨hs''.extBut _ _ ?_ (N' p hp).1, (N' p hp).2⟩
    rcases List.mem_cons.mp hp with rfl | hp
    · exact Ne.symm hCD
    · exact offC p hp
end Mine
end
section -- Kf
namespace Mine
noncomputable def After (M : Model) (A : Around) (rest : List Stmt) (env : Env) (Q : Flow → Shared → Prop) (E : Value → Shared → Prop) : Flow → Shared → Prop
  | .next, s => wpAny M A (execs rest env) Q E s
  | f, s => Q f s
section
variable {M : Model} {A : Around} {E : Value → Shared → Prop} {rest : List Stmt} {env : Env} {Q : Flow → Shared → Prop} {s : Shared}
theorem after_next (h : wpAny M A (execs rest env) Q E s) : After M A rest env Q E .next s := h
theorem after_nil (h : Q .next s) : After M A [] env Q E .next s := wpAny_execs_nil h
theorem after_ret {v : Value} (h : Q (.ret v) s) : After M A rest env Q E (.ret v) s := h
theorem after_brk (h : Q .brk s) : After M A rest env Q E .brk s := h
theorem after_cont (h : Q .cont s) : After M A rest env Q E .cont s := h
theorem execs_f {st : Stmt} (h : let q := After M A rest env Q E; wpAny M A (exec st env) q E s) : wpAny M A (execs (st :: rest) env) Q E s := by
  refine wpAny_execs_cons (wpAny_mono h (fun f s' x => ?_) fun _ _ x => x)
  cases f <;> exact x
end
section
variable {M : Model} {A : Around} {E : Value → Shared → Prop} {h₀ h : Heap} {L a : Addr} {m : Str → Option Value} {cn : Str} {cs : Scope} {ccd : Value} {cl : List (Str × Addr)} {g : Array GenState} {d : Drawn} {o : OsState} {tk : Nat}
  {x : Str} {v : Value} {Q : Unit → Shared → Prop} {news : List (Addr × Obj)}
theorem store_f (F : Fr h₀ L h m) (N : News h₀ L h news) (hx : (envX cn cs L a ccd cl).kindOf x = some .local) (hk : cs.kind = .function)
    (H : let m' := fun y => if y = x then some v else m y; ∀ h', Fr h₀ L h' m' → News h₀ L h' news → Q () ⟨h', g, d, tk + 1, o⟩) :
    wpAny M A (storeName (envX cn cs L a ccd cl) x v) Q E ⟨h, g, d, tk, o⟩ := storeX_L (s := ⟨h, g, d, tk, o⟩) F N H hk hx
end
/-- the map of locals under a name -/
theorem letM {h₀ h : Heap} {L : Addr} {m : Str → Option Value} {P : Prop} (F : Fr h₀ L h m) (H : let m' := m; Fr h₀ L h m' → P) : P := H F
end Mine
end
section -- Math1
namespace Mine
noncomputable def sixF : List Int → List Int
  | [] => []
  | [a] => [a / 4, a % 4 * 16]
  | [a, b] => [a / 4, a % 4 * 16 + b / 16, b % 16 * 4]
  | a :: b :: c :: r => a / 4 :: (a % 4 * 16 + b / 16) :: (b % 16 * 4 + c / 64) :: c % 64 :: sixF r
noncomputable def Bytes (os : List Int) : Prop := ∀ o ∈ os, 0 ≤ o ∧ o < 256
theorem hi_div {v r K : Int} (m : Int) (hK : 0 < K) (h0 : 0 ≤ r) (h1 : r < K) : (v * K + r) / (K * m) = v / m := by
  rw [← Int.ediv_ediv_of_nonneg (Int.le_of_lt hK), Int.add_comm, Int.add_mul_ediv_right _ _ (Int.ne_of_gt hK), Int.ediv_eq_zero_of_lt h0 h1, Int.zero_add]
theorem lo_div {v r q m : Int} (hm : 0 < m) : (v * (q * 64 * m) + r) / m % 64 = r / m % 64 := by
  rw [show v * (q * 64 * m) = v * q * 64 * m by rw [Int.mul_assoc v, Int.mul_assoc, Int.mul_assoc, Int.mul_assoc], Int.add_comm, Int.add_mul_ediv_right _ _ (Int.ne_of_gt hm), Int.add_mul_emod_self_right]
theorem b1 (P : Int → Prop) (h : ∀ n : Nat, n < 256 → P (n : Int)) {d : Int} (hd : 0 ≤ d ∧ d < 256) : P d := by
  obtain ⟨n, rfl⟩ := Int.eq_ofNat_of_zero_le hd.1
  exact h n (by have := hd.2; omega)
theorem lo16 {q : Int} (a : Int) (h0 : 0 ≤ q) (h1 : q < 16) : (a * 16 + q) % 64 = a % 4 * 16 + q := by omega
theorem lo4 {q : Int} (b : Int) (h0 : 0 ≤ q) (h1 : q < 4) : (b * 4 + q) % 64 = b % 16 * 4 + q := by omega
theorem d16 (a b : Int) : (a * 256 + b) / 16 = a * 16 + b / 16 := by
  rw [show a * 256 = a * 16 * 16 by rw [Int.mul_assoc]; rfl, Int.add_comm, Int.add_mul_ediv_right _ _ (by decide), Int.add_comm]
theorem d64 (x c : Int) : (x * 256 + c) / 64 = x * 4 + c / 64 := by
  rw [show x * 256 = x * 4 * 64 by rw [Int.mul_assoc]; rfl, Int.add_comm, Int.add_mul_ediv_right _ _ (by decide), Int.add_comm]
theorem m16 (a b : Int) : (a * 256 + b) % 16 = b % 16 := by
  rw [show a * 256 = a * 16 * 16 by rw [Int.mul_assoc]; rfl, Int.add_comm, Int.add_mul_emod_self_right]
theorem m64 (x c : Int) : (x * 256 + c) % 64 = c % 64 := by
  rw [show x * 256 = x * 4 * 64 by rw [Int.mul_assoc]; rfl, Int.add_comm, Int.add_mul_emod_self_right]
theorem q16 {b : Int} (hb : 0 ≤ b ∧ b < 256) : 0 ≤ b / 16 ∧ b / 16 < 16 := b1 (fun b => 0 ≤ b / 16 ∧ b / 16 < 16) (by decide +kernel) hb
theorem q64 {b : Int} (hb : 0 ≤ b ∧ b < 256) : 0 ≤ b / 64 ∧ b / 64 < 4 := b1 (fun b => 0 ≤ b / 64 ∧ b / 64 < 4) (by decide +kernel) hb
theorem q4 {a : Int} (ha : 0 ≤ a ∧ a < 256) : a / 4 % 64 = a / 4 := b1 (fun a => a / 4 % 64 = a / 4) (by decide +kernel) ha
theorem grp (a b c : Int) : a * 65536 + b * 256 + c = (a * 256 + b) * 256 + c := by rw [Int.add_mul, Int.mul_assoc]; rfl
theorem g0 {a b c : Int} (ha : 0 ≤ a ∧ a < 256) (hb : 0 ≤ b ∧ b < 256) (hc : 0 ≤ c ∧ c < 256) : (a * 65536 + b * 256 + c) / 262144 % 64 = a / 4 := by
  rw [grp, show (262144 : Int) = 256 * 1024 from rfl, hi_div 1024 (by decide) hc.1 hc.2, show (1024 : Int) = 256 * 4 from rfl, hi_div 4 (by decide) hb.1 hb.2, q4 ha]
theorem g1 {a b c : Int} (hb : 0 ≤ b ∧ b < 256) (hc : 0 ≤ c ∧ c < 256) : (a * 65536 + b * 256 + c) / 4096 % 64 = a % 4 * 16 + b / 16 := by
  rw [grp, show (4096 : Int) = 256 * 16 from rfl, hi_div 16 (by decide) hc.1 hc.2, d16, lo16 _ (q16 hb).1 (q16 hb).2]
theorem g2 {a b c : Int} (hc : 0 ≤ c ∧ c < 256) : (a * 65536 + b * 256 + c) / 64 % 64 = b % 16 * 4 + c / 64 := by
  rw [grp, d64, lo4 _ (q64 hc).1 (q64 hc).2, m16]
theorem g3 {a b c : Int} : (a * 65536 + b * 256 + c) / 1 % 64 = c % 64 := by rw [grp, Int.ediv_one, m64]
theorem u0 {a : Int} (ha : 0 ≤ a ∧ a < 256) : a * 16 / 64 % 64 = a / 4 := b1 (fun a => a * 16 / 64 % 64 = a / 4) (by decide +kernel) ha
theorem u1 {a : Int} (ha : 0 ≤ a ∧ a < 256) : a * 16 / 1 % 64 = a % 4 * 16 := b1 (fun a => a * 16 / 1 % 64 = a % 4 * 16) (by decide +kernel) ha
theorem p0 {a b : Int} (ha : 0 ≤ a ∧ a < 256) (hb : 0 ≤ b ∧ b < 256) : (a * 256 + b) * 4 / 4096 % 64 = a / 4 := by
  rw [show (4096 : Int) = 256 * 4 * 4 from rfl, Int.mul_ediv_mul_of_pos_left _ _ (by decide), hi_div 4 (by decide) hb.1 hb.2, q4 ha]
theorem p1 {a b : Int} (hb : 0 ≤ b ∧ b < 256) : (a * 256 + b) * 4 / 64 % 64 = a % 4 * 16 + b / 16 := by
  rw [show (a * 256 + b) * 4 / 64 = (a * 256 + b) * 4 / (16 * 4) from rfl, Int.mul_ediv_mul_of_pos_left _ _ (by decide), d16, lo16 _ (q16 hb).1 (q16 hb).2]
theorem p2 (a b : Int) : (a * 256 + b) * 4 / 1 % 64 = b % 16 * 4 := by
  have := lo4 (a * 256 + b) (q := 0) (by decide) (by decide)
  rw [Int.add_zero, Int.add_zero] at this
  rw [Int.ediv_one, this, m16]
theorem p_in {d e : Int} (hd : 0 ≤ d ∧ d < 256) (he : 0 ≤ e ∧ e < 256) : 0 ≤ (d * 256 + e) * 4 ∧ (d * 256 + e) * 4 < 262144 := by omega
theorem u_in {d : Int} (hd : 0 ≤ d ∧ d < 256) : 0 ≤ d * 16 ∧ d * 16 < 4096 := by omega
theorem sixes2 (W : Int) : (rangeKs 0 (Int.toNat (2 - 0))).map (fun k' => W / 64 ^ Int.toNat (2 - 1 - k') % 64) = [W / 64 % 64, W / 1 % 64] := by simp [rangeKs, List.range_succ]
theorem sixes3 (W : Int) : (rangeKs 0 (Int.toNat (3 - 0))).map (fun k' => W / 64 ^ Int.toNat (3 - 1 - k') % 64) = [W / 4096 % 64, W / 64 % 64, W / 1 % 64] := by simp [rangeKs, List.range_succ]
theorem sixes4 (W : Int) : (rangeKs 0 (Int.toNat (4 - 0))).map (fun k' => W / 64 ^ Int.toNat (4 - 1 - k') % 64) = [W / 262144 % 64, W / 4096 % 64, W / 64 % 64, W / 1 % 64] := by simp [rangeKs, List.range_succ]
theorem sixes6 (W : Int) : (rangeKs 0 (Int.toNat (6 - 0))).map (fun k' => W / 64 ^ Int.toNat (6 - 1 - k') % 64) = [W / (4096 * 262144) % 64, W / (4096 * 4096) % 64, W / (4096 * 64) % 64, W / (4096 * 1) % 64, W / 64 % 64, W / 1 % 64] := by simp [rangeKs, List.range_succ]
theorem sixes7 (W : Int) : (rangeKs 0 (Int.toNat (7 - 0))).map (fun k' => W / 64 ^ Int.toNat (7 - 1 - k') % 64) = [W / (262144 * 262144) % 64, W / (262144 * 4096) % 64, W / (262144 * 64) % 64, W / (262144 * 1) % 64, W / 4096 % 64, W / 64 % 64, W / 1 % 64] := by simp [rangeKs, List.range_succ]
noncomputable def wholeI (os : List Int) : Int := List.sum (List.map (fun k' => List.getD os (Int.toNat k') 0 * 256 ^ Int.toNat (↑(List.length os) - 1 - k')) (rangeKs 0 (Int.toNat (↑(List.length os) - 0)))) * 4 ^ Int.toNat (-↑(List.length os) % 3)
theorem six_eq (os : List Int) (hn : os.length ≤ 5) (hb : ∀ o ∈ os, 0 ≤ o ∧ o < 256) :
    (rangeKs 0 (Int.toNat ((8 * ↑(List.length os) + 5) / 6 - 0))).map (fun k' => List.sum (List.map (fun k' => List.getD os (Int.toNat k') 0 * 256 ^ Int.toNat (↑(List.length os) - 1 - k')) (rangeKs 0 (Int.toNat (↑(List.length os) - 0)))) *
              4 ^ Int.toNat (-↑(List.length os) % 3) / 64 ^ Int.toNat ((8 * ↑(List.length os) + 5) / 6 - 1 - k') % 64) = sixF os := by
  show (rangeKs 0 (Int.toNat ((8 * ↑(List.length os) + 5) / 6 - 0))).map (fun k' => wholeI os / 64 ^ Int.toNat ((8 * ↑(List.length os) + 5) / 6 - 1 - k') % 64) = sixF os
  match os, hn with
  | [], _ => decide
  | [a], _ =>
    have ha := hb a (by simp)
    have e : wholeI [a] = a * 16 := by simp [wholeI, rangeKs, List.range_succ]
    have hc9 : ((8 * ((List.length [a] : Nat) : Int) + 5) / 6 : Int) = 2 := by simp only [List.length_cons, List.length_nil]; decide
    simp only [hc9]
    refine (sixes2 _).trans ?_
    rw [e]
    show [a * 16 / 64 % 64, a * 16 / 1 % 64] = [a / 4, a % 4 * 16]
    rw [u0 ha, u1 ha]
  | [a, b], _ =>
    have ha := hb a (by simp); have hb' := hb b (by simp)
    have e : wholeI [a, b] = (a * 256 + b) * 4 := by simp [wholeI, rangeKs, List.range_succ]
    have hc9 : ((8 * ((List.length [a, b] : Nat) : Int) + 5) / 6 : Int) = 3 := by simp only [List.length_cons, List.length_nil]; decide
    simp only [hc9]
    refine (sixes3 _).trans ?_
    rw [e]
    show [(a * 256 + b) * 4 / 4096 % 64, (a * 256 + b) * 4 / 64 % 64, (a * 256 + b) * 4 / 1 % 64] = [a / 4, a % 4 * 16 + b / 16, b % 16 * 4]
    rw [p0 ha hb', p1 hb', p2]
  | [a, b, c], _ =>
    have ha := hb a (by simp); have hb' := hb b (by simp); have hc := hb c (by simp)
    have e : wholeI [a, b, c] = a * 65536 + b * 256 + c := by simp [wholeI, rangeKs, List.range_succ]; omega
    have hc9 : ((8 * ((List.length [a, b, c] : Nat) : Int) + 5) / 6 : Int) = 4 := by simp only [List.length_cons, List.length_nil]; decide
    simp only [hc9]
    refine (sixes4 _).trans ?_
    rw [e]
    show [(a * 65536 + b * 256 + c) / 262144 % 64, (a * 65536 + b * 256 + c) / 4096 % 64, (a * 65536 + b * 256 + c) / 64 % 64, (a * 65536 + b * 256 + c) / 1 % 64] = [a / 4, a % 4 * 16 + b / 16, b % 16 * 4 + c / 64, c % 64]
    rw [g0 ha hb' hc, g1 hb' hc, g2 hc, g3]
  | [a, b, c, d], _ =>
    have ha := hb a (by simp); have hb' := hb b (by simp); have hc := hb c (by simp); have hd := hb d (by simp)
    have e : wholeI [a, b, c, d] = (a * 65536 + b * 256 + c) * 4096 + d * 16 := by simp [wholeI, rangeKs, List.range_succ]; omega
    have hc9 : ((8 * ((List.length [a, b, c, d] : Nat) : Int) + 5) / 6 : Int) = 6 := by simp only [List.length_cons, List.length_nil]; decide
    simp only [hc9]
    refine (sixes6 _).trans ?_
    rw [e]
    generalize hv : a * 65536 + b * 256 + c = v
    show [(v * 4096 + d * 16) / (4096 * 262144) % 64, (v * 4096 + d * 16) / (4096 * 4096) % 64, (v * 4096 + d * 16) / (4096 * 64) % 64, (v * 4096 + d * 16) / (4096 * 1) % 64, (v * (1 * 64 * 64) + d * 16) / 64 % 64, (v * (64 * 64 * 1) + d * 16) / 1 % 64] = [a / 4, a % 4 * 16 + b / 16, b % 16 * 4 + c / 64, c % 64, d / 4, d % 4 * 16]
    rw [hi_div 262144 (by decide) (u_in hd).1 (u_in hd).2, hi_div 4096 (by decide) (u_in hd).1 (u_in hd).2, hi_div 64 (by decide) (u_in hd).1 (u_in hd).2, hi_div 1 (by decide) (u_in hd).1 (u_in hd).2, lo_div (by decide), lo_div (by decide),
      u0 hd, u1 hd, ← hv, g0 ha hb' hc, g1 hb' hc, g2 hc, g3]
  | [a, b, c, d, e], _ =>
    have ha := hb a (by simp); have hb' := hb b (by simp); have hc := hb c (by simp); have hd := hb d (by simp); have he := hb e (by simp)
    have e9 : wholeI [a, b, c, d, e] = (a * 65536 + b * 256 + c) * 262144 + (d * 256 + e) * 4 := by simp [wholeI, rangeKs, List.range_succ]; omega
    have hc9 : ((8 * ((List.length [a, b, c, d, e] : Nat) : Int) + 5) / 6 : Int) = 7 := by simp only [List.length_cons, List.length_nil]; decide
    simp only [hc9]
    refine (sixes7 _).trans ?_
    rw [e9]
    generalize hv : a * 65536 + b * 256 + c = v
    generalize hu : (d * 256 + e) * 4 = u
    have h0 : 0 ≤ u := hu ▸ (p_in hd he).1
    have h1 : u < 262144 := hu ▸ (p_in hd he).2
    show [(v * 262144 + u) / (262144 * 262144) % 64, (v * 262144 + u) / (262144 * 4096) % 64, (v * 262144 + u) / (262144 * 64) % 64, (v * 262144 + u) / (262144 * 1) % 64, (v * (1 * 64 * 4096) + u) / 4096 % 64, (v * (64 * 64 * 64) + u) / 64 % 64, (v * (4096 * 64 * 1) + u) / 1 % 64] = [a / 4, a % 4 * 16 + b / 16, b % 16 * 4 + c / 64, c % 64, d / 4, d % 4 * 16 + e / 16, e % 16 * 4]
    rw [hi_div 262144 (by decide) h0 h1, hi_div 4096 (by decide) h0 h1, hi_div 64 (by decide) h0 h1, hi_div 1 (by decide) h0 h1, lo_div (by decide), lo_div (by decide), lo_div (by decide), ← hu,
      p0 hd he, p1 he, p2, ← hv, g0 ha hb' hc, g1 hb' hc, g2 hc, g3]
end Mine
end
section -- StrL
namespace Mine
theorem str_values {vs : List Value} {ss : List Str} (h : StrsAre vs ss) : ∃ l : List (Str × Tok), vs = strValues l ∧ l.map (·.1) = ss := by
  induction h with
  | nil => exact ⟨[], rfl, rfl⟩
  | cons y t _ ih => obtain ⟨l, h1, h2⟩ := ih; exact ⟨(y, t) :: l, by rw [h1]; rfl, by simp [h2]⟩
theorem join_fold (cs : List Nat) : ∀ acc : Array Nat, (cs.map fun c => (⟨#[c]⟩ : Str)).foldl (fun acc p => acc ++ (Str.ofString "").cps ++ p.cps) acc = acc ++ cs.toArray := by
  induction cs with
  | nil => intro acc; simp
  | cons c r ih =>
    intro acc
    rw [List.map_cons, List.foldl_cons, ih]
    have e : (Str.ofString "").cps = #[] := by decide +kernel
    rw [e]
    apply Array.ext'
    simp
theorem join_ones (cs : List Nat) : Txt.join (Str.ofString "") (cs.map fun c => (⟨#[c]⟩ : Str)) = ⟨cs.toArray⟩ := by
  unfold Txt.join
  rw [StrLaws.glued_eq_join]
  cases cs with
  | nil => rfl
  | cons c r =>
    rw [List.map_cons, ← StrLaws.glued_cons, join_fold]
    apply Str.ext'
    simp
theorem join_call {prog : Program} {w : World} {A : Around} {E : Value → Shared → Prop} {s : Shared} {t : Tok} {Q : Value → Shared → Prop} {D : Addr} {vs : List Value} {cs : List Nat} (hl : s.heap.IsList D vs.toArray) (hS : StrsAre vs (cs.map fun c => (⟨#[c]⟩ : Str))) (hn : cs.length ≤ 1000)
    (hq : ∀ t' k, Q (.str ⟨cs.toArray⟩ t') { s with toks := k }) : wpAny (model prog w) A (call (.builtin "str.join") [.str (Str.ofString "") t, .ref D]) Q E s := by
  obtain ⟨l, rfl, h2⟩ := str_values hS
  refine SC.join hl h2 (joinOk_of ?_) ?_
  · have e : (Str.ofString "").length = 0 := by decide +kernel
    rw [e, List.length_map, Nat.mul_zero, Nat.add_zero]
    have : ∀ l : List Nat, ((l.map fun c => (⟨#[c]⟩ : Str)).map (·.length)).sum = l.length := by
      intro l
      induction l with
      | nil => rfl
      | cons c r ih => simp only [List.map_cons, List.sum_cons, ih, List.length_cons]; show 1 + _ = _; omega
    rw [this]; omega
  · rw [join_ones]; exact hq
noncomputable def signTab : List Nat := [65, 66, 67, 68, 69, 70, 71, 72, 73, 74, 75, 76, 77, 78, 79, 80, 81, 82, 83, 84, 85, 86, 87, 88, 89, 90, 97, 98, 99, 100, 101, 102, 103, 104, 105, 106, 107, 108, 109, 110, 111, 112, 113, 114, 115, 116, 117, 118, 119, 120, 121, 122, 48, 49, 50, 51, 52, 53, 54, 55, 56, 57, 43, 47]
noncomputable def sgn (k : Int) : Nat := signTab.getD k.toNat 0
noncomputable def signsS : Str := Str.ofString "ABCDEFGHIJKLMNOPQRSTUVWXYZabcdefghijklmnopqrstuvwxyz0123456789+/"
theorem signs_cps : (Str.ofString "ABCDEFGHIJKLMNOPQRSTUVWXYZabcdefghijklmnopqrstuvwxyz0123456789+/").cps = signTab.toArray := by decide +kernel
theorem signs_item {k : Int} (h0 : 0 ≤ k) (h1 : k < 64) : Txt.item (Str.ofString "ABCDEFGHIJKLMNOPQRSTUVWXYZabcdefghijklmnopqrstuvwxyz0123456789+/") k = ⟨#[sgn k]⟩ := by
  refine item_meets h0 ?_
  rw [signs_cps]
  have : k.toNat < signTab.length := by show _ < 64; omega
  simp [sgn, List.getD_eq_getElem?_getD, this]
/-- the codes of the name of octets -/
noncomputable def codes (os : List Int) : List Nat := (sixF os).map sgn ++ List.replicate ((-(os.length : Int)) % 3).toNat 61
noncomputable def nameS (os : List Int) : Str := ⟨(codes os).toArray⟩
theorem six_bounds : ∀ os : List Int, (∀ o ∈ os, 0 ≤ o ∧ o < 256) → ∀ k ∈ sixF os, 0 ≤ k ∧ k < 64
  | [], _ => by simp [sixF]
  | [a], h => by
    have ha := h a (by simp)
    simp [sixF]; omega
  | [a, b], h => by
    have ha := h a (by simp); have hb := h b (by simp)
    simp [sixF]; omega
  | a :: b :: c :: r, h => by
    have ha := h a (by simp); have hb := h b (by simp); have hc := h c (by simp)
    have ih := six_bounds r fun o ho => h o (by simp [ho])
    intro k hk
    simp only [sixF, List.mem_cons] at hk
    rcases hk with rfl | rfl | rfl | rfl | hk
    · omega
    · omega
    · omega
    · omega
    · exact ih k hk
theorem six_len : ∀ os : List Int, (sixF os).length ≤ os.length * 2
  | [] => by simp [sixF]
  | [a] => by simp [sixF]
  | [a, b] => by simp [sixF]
  | a :: b :: c :: r => by have := six_len r; simp only [sixF, List.length_cons]; omega
section
noncomputable abbrev sgs : Str := Str.ofString "ABCDEFGHIJKLMNOPQRSTUVWXYZabcdefghijklmnopqrstuvwxyz0123456789+/"
theorem item_call {prog : Program} {w : World} {A : Around} {E : Value → Shared → Prop} {s : Shared} {value slice : PySem.Expr} {t u : Tok} {k : Int} {Q : Value → Shared → Prop} (h0 : 0 ≤ k) (h1 : k < 64)
    (h : Q (.str ⟨#[sgn k]⟩ s.toks) { s with toks := s.toks + 1 })
    (hs : subscripted slice false (.str sgs t) (.int k u) = operate [.str sgs t, .int k u] (getItem (.str sgs t) (.int k u)))
    (ht : ∀ r, letTemporaryGo value (.str sgs t) r = pure ()) :
    wpAny (model prog w) A (subscriptTail value slice (.str sgs t) (.int k u)) Q E s := by
  have hl : sgs.length = 64 := by decide +kernel
  refine item_str (fitsSsize_of (N := 64) (by omega) (by omega) (by decide)) (by omega) (by omega) (fun _ => ?_) hs ht
  rw [signs_item h0 h1]; exact h
end
end Mine
end
section -- Fx
namespace Mine
open LCg
section
variable {prog : Program} {w : World} {A : Around} {E : Value → Shared → Prop} {s : Shared} {h₀ : Heap} {L : Addr} {m : Str → Option Value} {env : Env}
theorem env_x {scope : Scope} {x : Str} {cl : List (Str × Addr)} {Q : Env → Shared → Prop} (hc : ∀ n acc, cellsFrom n scope.names acc = (x, n) :: acc) (hp : ∀ h : Heap, pushCells h scope.names = h.push { cls := .type "cell", data := .cell none })
    (h : Q { scope := scope, locals := s.heap.objs.size, globals := env.globals, cells := (x, s.heap.objs.size + 1) :: cl, qual := env.qual, func := none, code := env.code, frame := env.frame, builtins := env.builtins }
      { s with heap := (s.heap.push { cls := .type "dict", data := .dict #[] }).push { cls := .type "cell", data := .cell none } }) :
    wpAny (model prog w) A (newFunctionEnv scope env.globals cl [] env.qual none .none (some env)) Q E s := by
  simp only [newFunctionEnv, Option.isSome_some, if_true]
  refine wpAny_bind (wpAny_alloc ?_)
  refine wpAny_bind (wpAny_layCells _ (fun name kind cells => by cases hkc : kind == NameKind.cell <;> simp) _ _ _ _ ?_)
  rw [hc, hp]
  rw [show ({ s with heap := s.heap.push { cls := .type "dict", data := .dict #[] } } : Shared).heap.objs.size = s.heap.objs.size + 1 from Heap.size_push ..]
  refine wpAny_bind ?_
  rw [List.forIn_nil]
  exact wpAny_pure (wpAny_pure h)

theorem news_same {h h' : Heap} {d : Addr} {news : List (Addr × Obj)} (N : News h₀ L h news) (hs : Heap.SameBut d h h') (off : ∀ p ∈ news, p.1 ≠ d) : News h₀ L h' news := fun p hp => ⟨(hs.2 _ (off p hp)).trans (N p hp).1, (N p hp).2⟩

noncomputable def TurnX (h₀ : Heap) (L : Addr) (m : Str → Option Value) (s₁ : Shared) (four news new : List (Addr × Obj)) (J : Value → List (Addr × Obj) → Prop) (y : Value) (s' : Shared) : Prop :=
  ∃ h' tk' own, s' = { s₁ with heap := h', toks := tk' } ∧ Fr h₀ L h' m ∧ News h₀ L h' (four ++ (news ++ (own ++ new))) ∧ (∀ p ∈ own, ∀ q ∈ four, p.1 ≠ q.1) ∧ J y (own ++ new)
theorem TurnX.intro {h₀ : Heap} {L : Addr} {m : Str → Option Value} {s₁ : Shared} {h' : Heap} {tk : Nat} {four news new all own : List (Addr × Obj)} {J : Value → List (Addr × Obj) → Prop} {y : Value} (F : Fr h₀ L h' m) (N : News h₀ L h' all) (sub : ∀ p ∈ four ++ (news ++ (own ++ new)), p ∈ all) (fr : ∀ p ∈ own, ∀ q ∈ four, p.1 ≠ q.1) (hJ : J y (own ++ new)) :
    TurnX h₀ L m s₁ four news new J y { s₁ with heap := h', toks := tk } := ⟨h', tk, own, rfl, F, fun p hp => N p (sub p hp), fr, hJ⟩
theorem TurnX.one {h₀ : Heap} {L D' : Addr} {m : Str → Option Value} {s₁ : Shared} {h' : Heap} {tk : Nat} {four news new : List (Addr × Obj)} {o : Obj} {J : Value → List (Addr × Obj) → Prop} {y : Value} (F : Fr h₀ L h' m) (N : News h₀ L h' ((D', o) :: (four ++ (news ++ new)))) (off : ∀ q ∈ four, q.1 ≠ D') (hJ : J y ((D', o) :: new)) :
    TurnX h₀ L m s₁ four news new J y { s₁ with heap := h', toks := tk } := TurnX.intro (own := [(D', o)]) F N (fun p hp => by
      simp only [List.mem_append, List.mem_cons, List.cons_append, List.nil_append] at hp ⊢
      rcases hp with hp | hp | hp | hp
      · exact .inr (.inl hp)
      · exact .inr (.inr (.inl hp))
      · exact .inl hp
      · exact .inr (.inr (.inr hp))) (fun p hp q hq => by rw [List.mem_singleton.mp hp]; exact Ne.symm (off q hq)) hJ
noncomputable def SrcX (prog : Program) (w : World) (A : Around) (h₀ : Heap) (L : Addr) (m : Str → Option Value) (env : Env) (elt : PySem.Expr) (x : Str) (scope : Scope) (cl : List (Str × Addr)) (Q : Value → Shared → Prop) (xv : Value) (s₁ : Shared) : Prop :=
  ∃ ax its news, ∃ J : Nat → List Value → List (Addr × Obj) → Prop, xv = .ref ax ∧ Fr h₀ L s₁.heap m ∧ News h₀ L s₁.heap news ∧ SrcAt h₀ ax its news ∧ its.size ≤ sizeLine ∧ J 0 [] [] ∧
    (∀ i v ys new (I : Addr) oI (C : Addr) oC (c : Addr) oc (D : Addr) h tk (E' : Value → Shared → Prop), its[i]? = some v → J i ys new → oc.data = .cell (some v) → Fr h₀ L h m →
      News h₀ L h ((I, oI) :: (C, oC) :: (c, oc) :: (D, lst ys) :: (news ++ new)) →
      wpAny (model prog w) A (eval elt (compEnvC scope ((x, c) :: cl) C env)) (TurnX h₀ L m s₁ [(I, oI), (C, oC), (c, oc), (D, lst ys)] news new (fun y new' => J (i + 1) (ys ++ [y]) new')) E' { s₁ with heap := h, toks := tk }) ∧
    (∀ ys new D h tk, J its.size ys new → Fr h₀ L h m → News h₀ L h ((D, lst ys) :: (news ++ new)) → Q (.ref D) { s₁ with heap := h, toks := tk })

theorem ListComp_X {elt iter : PySem.Expr} {x : Str} {px : Pos} {scope : Scope} {cl : List (Str × Addr)} {pos : Pos} {Q : Value → Shared → Prop}
    (_F₀ : Fr h₀ L s.heap m) (hh : A.handled = none) (hclos : closureFor scope env = pure cl) (hc : ∀ n acc, cellsFrom n scope.names acc = (x, n) :: acc) (hp : ∀ h : Heap, pushCells h scope.names = h.push { cls := .type "cell", data := .cell none })
    (hkind : scope.kind = .function) (hnames : ∀ y ∈ scope.names, y.2 = .local → scope.names.lookup y.1 = some .local) (hx : (relabel scope env).names.lookup x = some .cell)
    (h : wpAny (model prog w) A (eval iter env) (SrcX prog w A h₀ L m env elt x scope cl Q) E s)
    (hs : ∀ x, foldedSetIterable iter env x = pure x := by intro _; rfl) :
    wpAny (model prog w) A (eval (.ListComp elt [⟨.Name x px, iter, [], 0⟩] scope pos) env) Q E s := by
  rw [eval_ListComp]
  refine wpAny_comprehension_free (use := none) rfl hs hclos hkind hnames (wpAny_mono h (fun xv s₁ h₁ => ?_) fun _ _ e => e)
  refine hideG ?_
  intro q9
  obtain ⟨ax, its, news, J, rfl, F, N, S, hsz, hJ0, turn, fin⟩ := h₁
  (try k_unmd)
  k_unfold
  have hl := S.list F.keep N
  have hlt : ax < s₁.heap.objs.size := by obtain ⟨_, e, _⟩ := hl; exact Heap.lt_size e
  refine wpAny_pyIter_list hl ?_
  refine wpAny_newObj_type (env_x hc hp ?_)
  dsimp only
  have W := Walks.list (prog := prog) (w := w) hh s₁.heap.objs.size ax (Nat.ne_of_lt hlt) its
  -- the heap with iterator, list, locals, cell
  generalize hH1 : s₁.heap.push { cls := .type "list_iterator", data := .fields #[.ref ax, .int 0 0] } = H1
  have z1 : H1.objs.size = s₁.heap.objs.size + 1 := by rw [← hH1, Heap.size_push]
  generalize hH2 : H1.push { cls := .type "list", dict := none, data := .seq ([] : List Value).toArray } = H2
  have z2 : H2.objs.size = s₁.heap.objs.size + 2 := by rw [← hH2, Heap.size_push, z1]
  generalize hH3 : H2.push { cls := .type "dict", data := .dict #[] } = H3
  have z3 : H3.objs.size = s₁.heap.objs.size + 3 := by rw [← hH3, Heap.size_push, z2]
  generalize hH4 : H3.push { cls := .type "cell", data := .cell none } = H4
  have u1 : ∀ b o, s₁.heap.get? b = some o → H1.get? b = some o := fun b o e => hH1 ▸ Heap.get?_push_of_some _ e
  have u2 : ∀ b o, H1.get? b = some o → H2.get? b = some o := fun b o e => hH2 ▸ Heap.get?_push_of_some _ e
  have u3 : ∀ b o, H2.get? b = some o → H3.get? b = some o := fun b o e => hH3 ▸ Heap.get?_push_of_some _ e
  have u4 : ∀ b o, H3.get? b = some o → H4.get? b = some o := fun b o e => hH4 ▸ Heap.get?_push_of_some _ e
  have gI : H4.get? s₁.heap.objs.size = some { cls := .type "list_iterator", data := .fields #[.ref ax, .int 0 0] } := u4 _ _ (u3 _ _ (u2 _ _ (hH1 ▸ Heap.get?_push_size _ rfl)))
  have gD : H4.get? H1.objs.size = some (lst []) := u4 _ _ (u3 _ _ (hH2 ▸ Heap.get?_push_size _ rfl))
  have gC : H4.get? H2.objs.size = some { cls := .type "dict", data := .dict #[] } := u4 _ _ (hH3 ▸ Heap.get?_push_size _ rfl)
  have gc : H4.get? H3.objs.size = some { cls := .type "cell", data := .cell none } := hH4 ▸ Heap.get?_push_size _ rfl
  have up : ∀ b o, s₁.heap.get? b = some o → H4.get? b = some o := fun b o e => u4 _ _ (u3 _ _ (u2 _ _ (u1 _ _ e)))
  have fresh₀ : ∀ a : Nat, s₁.heap.objs.size ≤ a → h₀.get? a = none := fun a ha => by
    cases e : h₀.get? a with
    | none => rfl
    | some o' => exact absurd (Heap.lt_size (F.keep a o' e)) (Nat.not_lt.mpr ha)
  have hLlt : @LT.lt Nat _ L s₁.heap.objs.size := F.ns.lt
  have hnlt : ∀ p ∈ news, @LT.lt Nat _ p.1 s₁.heap.objs.size := fun p hp => Heap.lt_size (N p hp).1
  generalize hI : s₁.heap.objs.size = I at *
  generalize hDa : H1.objs.size = D at *
  generalize hCa : H2.objs.size = C at *
  generalize hca : H3.objs.size = c at *
  have hL4 : (@Ne Nat L I) ∧ (@Ne Nat L D) ∧ (@Ne Nat L C) ∧ (@Ne Nat L c) := ⟨by omega, by omega, by omega, by omega⟩
  have nI := fresh₀ I (Nat.le_refl _)
  have nD := fresh₀ D (by omega)
  have nC := fresh₀ C (by omega)
  have nc := fresh₀ c (by omega)
  have hcb : (@Ne Nat c I) ∧ (@Ne Nat c D) ∧ (@Ne Nat c C) ∧ (@Ne Nat D I) ∧ (@Ne Nat C I) ∧ (@Ne Nat C D) := ⟨by omega, by omega, by omega, by omega, by omega, by omega⟩
  have loop : codeAny (model prog w) A (.compLoop (.ListComp elt [⟨.Name x px, iter, [], 0⟩] scope pos) 0 (.ref I) (.ref D) (compEnvC scope ((x, c) :: cl) C env)) (compPost (model prog w) A E none Q (.ref D) C) { s₁ with heap := H4 } := by
    refine codeAny_compLoop_tests
      (fun k s' => ∃ h' tk i ys new oC oc v₀, s' = { s₁ with heap := h', toks := tk } ∧ i ≤ its.size ∧ k = its.size + 1 - i ∧ ys.length = i ∧ (h'.IsListIter I ax i ∧ h'.IsList ax its) ∧ Fr h₀ L h' m ∧ NsObj oC (fun _ => none) ∧ oc.data = .cell v₀ ∧
        News h₀ L h' ((C, oC) :: (c, oc) :: (D, lst ys) :: (news ++ new)) ∧ (∀ p ∈ news ++ new, p.1 ≠ I ∧ p.1 ≠ C ∧ p.1 ≠ c ∧ p.1 ≠ D) ∧ J i ys new) ?_ (its.size + 1)
      ⟨H4, s₁.toks, 0, [], [], { cls := .type "dict", data := .dict #[] }, { cls := .type "cell", data := .cell none }, none, rfl, Nat.zero_le _, rfl, rfl, ⟨⟨_, gI, rfl, rfl⟩, hl.at fun o e => up ax o e⟩, F.keeps up, ?_, rfl, fun p hp => ?_, fun p hp => ?_, hJ0⟩
    · intro k s' hq9
      refine hideG ?_
      intro q9
      obtain ⟨h', tk, i, ys, new, oC, oc, v₀, rfl, hi, rfl, hyl, hst', F', hoC, hoc, N', off', hJ'⟩ := hq9
      (try k_unmd)
      k_unfold
      by_cases hltn : i < its.size
      · refine W.item i _ _ _ hltn hst' fun v h₂ tk₂ hPv hst₂ hk₂ => ?_
        have k₂ : ∀ b o, b ≠ I → h'.get? b = some o → h₂.get? b = some o := fun b o hb e => hk₂ b o (by simpa using hb) e
        have offI : ∀ p ∈ (C, oC) :: (c, oc) :: (D, lst ys) :: (news ++ new), p.1 ≠ I := fun p hp => by
          rcases List.mem_cons.mp hp with rfl | hp
          · exact hcb.2.2.2.2.1
          rcases List.mem_cons.mp hp with rfl | hp
          · exact hcb.1
          rcases List.mem_cons.mp hp with rfl | hp
          · exact hcb.2.2.2.1
          exact (off' p hp).1
        have N₂ : News h₀ L h₂ ((C, oC) :: (c, oc) :: (D, lst ys) :: (news ++ new)) := fun p hp => ⟨k₂ _ _ (offI p hp) (N' p hp).1, (N' p hp).2⟩
        have F₂ : Fr h₀ L h₂ m := fr_but F' hk₂ hL4.1 nI
        refine wpAny_assign_Name (wpAny_storeName_cell (c := c) (v₀ := v₀) hkind hx (by simp [compEnvC]) ⟨oc, (N₂ (c, oc) (by simp)).1, hoc⟩ fun h₃ hc₃ hs₃ => ?_)
        obtain ⟨oc', hc₃, hcd⟩ := hc₃
        refine wpAny_tests_nil ?_
        simp only [if_true]
        have F₃ : Fr h₀ L h₃ m := F₂.change hs₃ (Ne.symm hL4.2.2.2) nc
        obtain ⟨oI, heI⟩ : ∃ oI, h₃.get? I = some oI := by
          obtain ⟨o, e, _⟩ := hst₂.1
          exact ⟨o, (hs₃.2 I (Ne.symm hcb.1)).trans e⟩
        have N₃ : News h₀ L h₃ ((I, oI) :: (C, oC) :: (c, oc') :: (D, lst ys) :: (news ++ new)) := fun p hp => by
          rcases List.mem_cons.mp hp with rfl | hp
          · exact ⟨heI, Ne.symm hL4.1, nI⟩
          rcases List.mem_cons.mp hp with rfl | hp
          · exact ⟨(hs₃.2 C (Ne.symm hcb.2.2.1)).trans (N₂ (C, oC) (by simp)).1, Ne.symm hL4.2.2.1, nC⟩
          rcases List.mem_cons.mp hp with rfl | hp
          · exact ⟨hc₃, Ne.symm hL4.2.2.2, nc⟩
          rcases List.mem_cons.mp hp with rfl | hp
          · exact ⟨(hs₃.2 D (Ne.symm hcb.2.1)).trans (N₂ (D, lst ys) (by simp)).1, Ne.symm hL4.2.1, nD⟩
          have z := N₂ p (by simp only [List.mem_cons]; exact .inr (.inr (.inr hp)))
          exact ⟨(hs₃.2 _ (off' p hp).2.2.1).trans z.1, z.2⟩
        refine wpAny_mono (turn i v ys new I oI C oC c oc' D h₃ _ _ hPv hJ' hcd F₃ N₃) (fun y s₄ h₄ => ?_) fun _ _ e => e
        refine hideG ?_
        intro q9
        obtain ⟨h₄, tk₄, own, rfl, F₄, N₄, fr₄, hJ₄⟩ := h₄
        (try k_unmd)
        k_unfold
        simp only [List.cons_append, List.nil_append] at N₄
        have zI := (N₄ (I, oI) (by simp)).1
        have zC := (N₄ (C, oC) (by simp)).1
        have zc := (N₄ (c, oc') (by simp)).1
        have zD := (N₄ (D, lst ys) (by simp)).1
        have off4 : ∀ p ∈ news ++ (own ++ new), p.1 ≠ I ∧ p.1 ≠ C ∧ p.1 ≠ c ∧ p.1 ≠ D := fun p hp => by
          have hp : p ∈ own ∨ p ∈ news ++ new := by
            simp only [List.mem_append] at hp ⊢
            rcases hp with hp | hp | hp
            · exact .inr (.inl hp)
            · exact .inl hp
            · exact .inr (.inr hp)
          rcases hp with hp | hp
          · exact ⟨fr₄ p hp (I, oI) (by simp), fr₄ p hp (C, oC) (by simp), fr₄ p hp (c, oc') (by simp), fr₄ p hp (D, lst ys) (by simp)⟩
          · exact off' p hp
        refine append_at (hsz := by show ys.toArray.size ≤ sizeLine; rw [List.size_toArray, hyl]; exact Nat.le_trans hi hsz) zD fun h₅ hs₅ hD₅ => ?_
        refine ⟨its.size + 1 - (i + 1), by omega, h₅, tk₄, i + 1, ys ++ [y], own ++ new, oC, oc', some v, rfl, hltn, rfl, by rw [List.length_append, List.length_singleton, hyl], ⟨?_, ?_⟩, F₄.change hs₅ (Ne.symm hL4.2.1) nD, hoC, hcd, fun p hp => ?_, off4, hJ₄⟩
        · obtain ⟨o, e, r⟩ := hst₂.1
          have e2 : o = oI := by rw [hs₃.2 I (Ne.symm hcb.1), e] at heI; cases heI; rfl
          subst e2
          exact ⟨o, (hs₅.2 I (Ne.symm hcb.2.2.2.1)).trans zI, r⟩
        · have S' : SrcAt h₀ ax its (news ++ (own ++ new)) := S.imp id fun ⟨o, hm, r⟩ => ⟨o, List.mem_append_left _ hm, r⟩
          have N5 : News h₀ L h₅ (news ++ (own ++ new)) := fun p hp => by
            have z := N₄ p (by simp only [List.mem_cons]; exact .inr (.inr (.inr (.inr hp))))
            exact ⟨(hs₅.2 _ (off4 p hp).2.2.2).trans z.1, z.2⟩
          exact S'.list (F₄.change hs₅ (Ne.symm hL4.2.1) nD).keep N5
        · rcases List.mem_cons.mp hp with rfl | hp
          · exact ⟨(hs₅.2 C hcb.2.2.2.2.2).trans zC, Ne.symm hL4.2.2.1, nC⟩
          rcases List.mem_cons.mp hp with rfl | hp
          · exact ⟨(hs₅.2 c hcb.2.1).trans zc, Ne.symm hL4.2.2.2, nc⟩
          rcases List.mem_cons.mp hp with rfl | hp
          · exact ⟨hD₅.trans (congrArg some (lst_snoc ys y)), Ne.symm hL4.2.1, nD⟩
          have z := N₄ p (by simp only [List.mem_cons]; exact .inr (.inr (.inr (.inr hp))))
          exact ⟨(hs₅.2 _ (off4 p hp).2.2.2).trans z.1, z.2⟩
      · obtain rfl : i = its.size := Nat.le_antisymm hi (Nat.not_lt.mp hltn)
        refine W.done _ _ _ hst' fun h₂ tk₂ hk₂ => ?_
        have k₂ : ∀ b o, b ≠ I → h'.get? b = some o → h₂.get? b = some o := fun b o hb e => hk₂ b o (by simpa using hb) e
        have zC : h₂.get? C = some oC := k₂ _ _ hcb.2.2.2.2.1 (N' (C, oC) (by simp)).1
        refine ⟨_, hoC.ns zC, fun h'' hs'' => fin ys new D h'' tk₂ hJ' ((fr_but F' hk₂ hL4.1 nI).change hs'' (Ne.symm hL4.2.2.1) nC) fun p hp => ?_⟩
        have hpI : p.1 ≠ I ∧ p.1 ≠ C := by
          rcases List.mem_cons.mp hp with rfl | hp
          · exact ⟨hcb.2.2.2.1, Ne.symm hcb.2.2.2.2.2⟩
          · exact ⟨(off' p hp).1, (off' p hp).2.1⟩
        have z := N' p (by simp only [List.mem_cons] at hp ⊢; exact .inr (.inr hp))
        exact ⟨(hs''.2 _ hpI.2).trans (k₂ _ _ hpI.1 z.1), z.2⟩
    · exact ⟨#[], 0, rfl, by intro e he; simp at he, fun _ => rfl⟩
    · rcases List.mem_cons.mp hp with rfl | hp
      · exact ⟨gC, Ne.symm hL4.2.2.1, nC⟩
      rcases List.mem_cons.mp hp with rfl | hp
      · exact ⟨gc, Ne.symm hL4.2.2.2, nc⟩
      rcases List.mem_cons.mp hp with rfl | hp
      · exact ⟨gD, Ne.symm hL4.2.1, nD⟩
      rw [List.append_nil] at hp
      exact ⟨up _ _ (N p hp).1, (N p hp).2⟩
    · rw [List.append_nil] at hp
      have hq := hnlt p hp
      exact ⟨Nat.ne_of_lt hq, Nat.ne_of_lt (by omega), Nat.ne_of_lt (by omega), Nat.ne_of_lt (by omega)⟩
  have hcC : C + 1 = c := by omega
  rw [hcC]
  exact codeAny_compStart_list loop (W.self 0 _ _ _ ⟨⟨_, gI, rfl, rfl⟩, hl.at fun o e => up ax o e⟩ loop)
end
end Mine
namespace Mine
theorem ints_item {vs : List Value} {ns : List Int} (hi : IntsAre vs ns) {k : Int} (h0 : 0 ≤ k) (h1 : k < ns.length) : ∃ t, vs[k.toNat]? = some (.int (ns.getD k.toNat 0) t) := by
  have hlt : k.toNat < vs.length := by rw [hi.length]; omega
  obtain ⟨a, ha, t, hv⟩ := (are_ints hi).at k.toNat vs[k.toNat] (by simp [hlt])
  refine ⟨t, ?_⟩
  rw [List.getD_eq_getElem?_getD, ha]
  simp only [Option.getD_some]
  rw [← hv]; simp [hlt]
theorem item_ints {prog : Program} {w : World} {A : Around} {E : Value → Shared → Prop} {s : Shared} {value slice : PySem.Expr} {l : Addr} {vs : List Value} {ns : List Int} {k : Int} {u : Tok} {Q : Value → Shared → Prop}
    (hl : s.heap.IsList l vs.toArray) (hi : IntsAre vs ns) (h0 : 0 ≤ k) (h1 : k < ns.length) (h2 : ns.length ≤ 1000) (h : ∀ t, Q (.int (ns.getD k.toNat 0) t) s)
    (hs : subscripted slice false (.ref l) (.int k u) = operate [.ref l, .int k u] (getItem (.ref l) (.int k u))) :
    wpAny (model prog w) A (subscriptTail value slice (.ref l) (.int k u)) Q E s := by
  obtain ⟨t, ht⟩ := ints_item hi h0 h1
  exact tail_any hl.typeIs slot_list_getitem.lookup (wpAny_getItem_list hl h0 (by omega) (by simpa using ht) (h t)) hs
end Mine
end
section -- C6
namespace Mine

theorem getD_byte {os : List Int} (hb : ∀ o ∈ os, 0 ≤ o ∧ o < 256) (k : Nat) : 0 ≤ os.getD k 0 ∧ os.getD k 0 < 256 := by
  rw [List.getD_eq_getElem?_getD]
  cases h : os[k]? with
  | none => exact ⟨by decide, by decide⟩
  | some o => exact hb o (List.mem_of_getElem? h)
theorem mul_byte {os : List Int} (hb : ∀ o ∈ os, 0 ≤ o ∧ o < 256) (k : Nat) (b : Int) : IntMulOk (os.getD k 0) b :=
  IntMulOk.of_left (intBits_le_64 (by have := (getD_byte hb k).1; omega) (by have := (getD_byte hb k).2; omega))
theorem mul_four (a : Int) (n : Int) : IntMulOk a (4 ^ (n % 3).toNat) := by
  have h0 : n % 3 = 0 ∨ n % 3 = 1 ∨ n % 3 = 2 := by omega
  refine IntMulOk.of_right (intBits_le_64 ?_ ?_) <;> rcases h0 with h | h | h <;> rw [h] <;> decide
theorem six4_pos (k : Nat) : (0 : Int) < 64 ^ k := Int.pow_pos (by decide)
theorem six4_py {e : Int} (h : e ≤ 64) : ((64 : Int) ^ e.toNat).natAbs.log2 < 9000 := by
  have h1 : ((64 : Int) ^ e.toNat).natAbs = 64 ^ e.toNat := by rw [Int.natAbs_pow]; rfl
  rw [h1, show (64 : Nat) = 2 ^ 6 from rfl, ← Nat.pow_mul, Nat.log2_two_pow]
  omega

theorem pow_lo {n k : Int} (h : k < 0 + ((n - 0).toNat : Int)) : 0 ≤ n - 1 - k ∨ k < 0 := by omega
theorem pow_lo' {n k : Int} (h0 : 0 ≤ k) (h : k < 0 + ((n - 0).toNat : Int)) : 0 ≤ n - 1 - k := (pow_lo h).resolve_right (Int.not_lt.mpr h0)
theorem pow_hi {n k : Int} (h0 : 0 ≤ k) (hn : n ≤ 1000) : n - 1 - k ≤ 1000000 := by omega
theorem six_small {n : Nat} (h : n ≤ 5) : (8 * (n : Int) + 5) / 6 ≤ 1000 := by omega
theorem len_small {n : Nat} (h : n ≤ 5) : (n : Int) ≤ 1000 := by omega
theorem ix_lt {n : Nat} {k : Int} (h : k < 0 + (((n : Int) - 0).toNat : Int)) : k < (n : Int) := by omega
theorem ix_63 {n : Nat} {k : Int} (h : k < 0 + (((n : Int) - 0).toNat : Int)) (hn : n ≤ 5) : k < 2 ^ 63 := by omega
set_option maxHeartbeats 8000000 in
theorem c_sixes {w : World} {A : Around} {s : Shared} {Q E : Value → Shared → Prop} {loose : List Str} {mean : ExcName → Option Value} {mg mb : Str → Option Value}
    (X : (hd.heap_1 w.params).In s.heap) (T : Top topProg loose mean mg mb s.heap) (hh : A.handled = none) (hr : A.depth + 8 < recursionLimit) (hu : A.units + 60 < cLine) (l : Addr) (vs : List Value) (os : List Int)
    (hb : ∀ o ∈ os, 0 ≤ o ∧ o < 256) (hn : os.length ≤ 5)
    (hl : s.heap.IsList l vs.toArray) (hI : IntsAre vs os)
    (hQ : ∀ a ws n h' tk', Ext s.heap h' → s.heap.get? a = none → h'.get? a = some { cls := .type "list", data := .seq ws.toArray n } → IntsAre ws (sixF os) → Q (.ref a) { s with heap := h', toks := tk' }) :
    wpAny (model prg w) A (call (.ref 134) [.ref l] []) Q E s := by
  have hlen := hI.length
  obtain ⟨hd', dp, fr, gd, un⟩ := A
  dsimp only at hh hr hu
  subst hh
  refine' pcallC X T ?k6 ?k7 (Nat.lt_of_le_of_lt (Nat.le_add_right _ _) hr) ?k9 ?kB ?kD ?c2 ?c3 ?c4 ?_
  case k6 => k_is
  case k7 => k_is
  case k9 => rfl
  case kB => exact rfl
  case kD => decide +kernel
  case c2 => exact rfl
  case c3 => exact rfl
  case c4 => exact rfl
  intro L' h' tk cells F' N' Y' envL AL
  refine letM F' ?_
  clear F'
  intro mL F'
  k_cells Y'
  (try simp only [List.cons_append, List.nil_append] at N')
  (try dsimp only)
  show wpAny _ _ _ _ _ _
  k_fold
  (repeat' (first | ((try k_unmd); k_unfold; first | (with_reducible (first | refine after_nil ?_ | refine after_next ?_ | refine after_ret ?_ | refine after_brk ?_ | refine after_cont ?_)) | (try dsimp only [List.cons_append, List.nil_append])) | ((with_reducible show wpAny _ _ (subscriptTail (PySem.Expr.Name _ _) (PySem.Expr.Name _ _) (Value.ref _) (Value.int _ _)) _ _ _); (((with_unfolding_all refine' item_list_ints ?k1 ?k2 ?k3 ?k4 ?k5 ?_; (case k1 => is_list); (case k2 => l_ints); (case k3 => assumption); (case k4 => exact ix_lt (by assumption)); (case k5 => exact ix_63 (by assumption) (by assumption)); k_whole); intro _))) | ((with_reducible show wpAny _ _ (binaryOp Operator.Mod (Value.int _ _) (Value.int _ _)) _ _ _); ((refine md_pos (by decide) ?_))) | ((with_reducible show wpAny _ _ (binaryOp Operator.FloorDiv (Value.int _ _) (Value.int _ _)) _ _ _); ((first | refine fd_pos (by decide) (by decide +kernel) ?_ | refine fd_pos (six4_pos _) (six4_py (by omega)) ?_))) | ((with_reducible show wpAny _ _ (binaryOp Operator.Mult (Value.int _ _) (Value.int _ _)) _ _ _); ((refine PyProof.Rows.mul_int ?_ (hm := by first | exact mul_byte (by assumption) _ _ | exact mul_four _ _)))) | ((with_reducible show wpAny _ _ (binaryOp Operator.Pow (Value.int _ _) (Value.int _ _)) _ _ _); (refine pow_int_small (pow_lo' (by assumption) (by assumption)) (pow_hi (by assumption) (by first | exact six_small (by assumption) | exact len_small (by assumption))) (by decide) ?_)) | ((with_reducible show wpAny _ _ (execs (_ :: _) _) _ _ _); ((refine execs_f ?_; intro qk))) | ((with_reducible show wpAny _ _ (storeName _ _ _) _ _ _); ((k_dflt (refine' store_f ?F ?N ?b ?a ?_; (case F => k_asm); (case N => k_asm); (case b => rfl); (case a => rfl); k_whole; intro m' h' F' N'; (try k_sweep))))) | (k_end; wrow_close) | walk1 | dsimp only | (leave1; try dsimp only)))
  (rename Fr _ _ _ _ => F9)
  (rename News _ _ _ _ => N9)
  (rename IntsAre _ _ => I9)
  rw [six_eq os hn hb] at I9
  exact hQ _ _ _ _ _ (Fr.keep F9) (News.fresh N9 (List.Mem.head _)) (News.get N9 (List.Mem.head _)) I9
end Mine
end
section -- C7
namespace Mine


theorem six_lo {os : List Int} {k : Int} (hb : ∀ o ∈ os, 0 ≤ o ∧ o < 256) (h : k ∈ sixF os) : 0 ≤ k := (six_bounds os hb k h).1
theorem six_hi {os : List Int} {k : Int} (hb : ∀ o ∈ os, 0 ≤ o ∧ o < 256) (h : k ∈ sixF os) : k < 64 := (six_bounds os hb k h).2
theorem mul_eqs (n : Int) : (Txt.mul (Str.ofString "=") n).cps.toList = List.replicate n.toNat 61 := by
  rw [show Str.ofString "=" = ⟨#[61]⟩ by decide +kernel]; exact mul_one_list 61 n
theorem name_glue (os : List Int) : (⟨((sixF os).map sgn).toArray⟩ : Str) ++ Txt.mul (Str.ofString "=") (-(os.length : Int) % 3) = nameS os := by
  apply Str.ext'
  rw [Str.cps_append]
  apply Array.ext'
  rw [Array.toList_append, mul_eqs]
  rfl

set_option maxHeartbeats 8000000 in
theorem c_plain {w : World} {A : Around} {s : Shared} {Q E : Value → Shared → Prop} {loose : List Str} {mean : ExcName → Option Value} {mg mb : Str → Option Value}
    (X : (hd.heap_1 w.params).In s.heap) (T : Top topProg loose mean mg mb s.heap) (hh : A.handled = none) (hr : A.depth + 9 < recursionLimit) (hu : A.units + 70 < cLine) (l : Addr) (vs : List Value) (os : List Int)
    (hb : ∀ o ∈ os, 0 ≤ o ∧ o < 256) (hn : os.length ≤ 5)
    (hl : s.heap.IsList l vs.toArray) (hI : IntsAre vs os)
    (hQ : ∀ t h' tk', Ext s.heap h' → Q (.str (nameS os) t) { s with heap := h', toks := tk' }) :
    wpAny (model prg w) A (call (.ref 139) [.ref l] []) Q E s := by
  have hlen := hI.length
  obtain ⟨hd', dp, fr, gd, un⟩ := A
  dsimp only at hh hr hu
  subst hh
  refine' pcallC X T ?k6 ?k7 (Nat.lt_of_le_of_lt (Nat.le_add_right _ _) hr) ?k9 ?kB ?kD ?c2 ?c3 ?c4 ?_
  case k6 => k_is
  case k7 => k_is
  case k9 => rfl
  case kB => exact rfl
  case kD => decide +kernel
  case c2 => exact rfl
  case c3 => exact rfl
  case c4 => exact rfl
  intro L' h' tk cells F' N' Y' envL AL
  refine letM F' ?_
  clear F'
  intro mL F'
  k_cells Y'
  (try simp only [List.cons_append, List.nil_append] at N')
  (try dsimp only)
  show wpAny _ _ _ _ _ _
  k_fold
  (repeat' (first | ((try k_unmd); k_unfold; first | (with_reducible (first | refine after_nil ?_ | refine after_next ?_ | refine after_ret ?_ | refine after_brk ?_ | refine after_cont ?_)) | (try dsimp only [List.cons_append, List.nil_append])) | ((with_reducible show wpAny _ _ (subscriptTail (PySem.Expr.Name _ _) (PySem.Expr.Name _ _) (Value.str _ _) (Value.int _ _)) _ _ _); ((refine item_call (six_lo (by assumption) (by assumption)) (six_hi (by assumption) (by assumption)) ?_ (by with_unfolding_all rfl) (by intro _; with_unfolding_all rfl)))) | ((with_reducible show wpAny _ _ (binaryOp Operator.Mod (Value.int _ _) (Value.int _ _)) _ _ _); ((refine md_pos (by decide) ?_))) | ((with_reducible show wpAny _ _ (call (Value.builtin "str.join") _ _) _ _ _); (((rename StrsAre _ _ => S9); (rename News _ _ _ _ => N9); refine join_call (News.isList N9 (List.Mem.head _)) S9 (by simp only [List.length_map]; omega) ?_; intro t8 k8; (try dsimp only); (try k_fold)))) | ((with_reducible show wpAny _ _ (call (Value.ref _) _ _) _ _ _); ((refine' c_sixes ?cx ?ct rfl ?cr ?cu _ _ _ ?cb ?cn ?cl ?ci ?_; (case cl => (((rename Fr _ _ _ _ => F9); exact Heap.IsList.at (by assumption) fun o e => F9.keep _ o e))); (case ci => assumption); (case cx => ((first | assumption | exact Frag.In.keeps (by assumption) (Fr.keep (by assumption))))); (case ct => ((first | assumption | exact Top.keeps (by assumption) (Fr.keep (by assumption))))); (case cr => ((simp +zetaDelta only [depth_deeper, units_deeper]; omega))); (case cu => ((simp +zetaDelta only [depth_deeper, units_deeper]; omega))); (case cb => assumption); (case cn => assumption); ((intro a9 ws9 n9 h9 tk9 hx9 hf9 he9 hI9; (rename Fr _ _ _ _ => F9); (rename News _ _ _ _ => N9); (have F8 := fr_ext F9 hx9); (have N8 := news_add F9 N9 hx9 hf9 he9); clear F9 N9 hf9 he9; (try dsimp only); (try k_fold)))))) | ((with_reducible show wpAny _ _ (eval (PySem.Expr.ListComp _ _ _ _) _) _ _ _); ((k_dflt (refine LCg.ListComp_U (F₀ := by k_asm) (by with_unfolding_all rfl) (by decide) (by rfl) (by decide) (by rfl) ?_)))) | ((with_reducible show wpAny _ _ (execs (_ :: _) _) _ _ _); ((refine execs_f ?_; intro qk))) | ((with_reducible show wpAny _ _ (storeName _ _ _) _ _ _); ((k_dflt (refine' store_f ?F ?N ?b ?a ?_; (case F => k_asm); (case N => k_asm); (case b => rfl); (case a => rfl); k_whole; intro m' h' F' N'; (try k_sweep))))) | (k_end; wrow_close) | walk1 | dsimp only | (leave1; try dsimp only)))
  (rename IntsAre _ _ => I9)
  have hL := six_len os
  have hz := I9.length
  refine LCg.CompSrc.ledger (by rfl) (by k_asm) (by k_asm) (by k_mem) ?_ ?_
  · rw [sizeLine_eq]; simp only [List.size_toArray]; omega
  intro g'
  refine rest_gen (sixF os) (fun k => ⟨#[sgn k]⟩) (Ri := IsInt) (Ro := IsStr) (by simp only [List.size_toArray]; omega) (src_ints I9) (Or.inr ⟨_, by k_mem, rfl, _, rfl⟩) ?_ ?_
  · intro a v I oI C oC D m₂ ys h tk E' ha hv hC hx F N
    obtain ⟨tv, rfl⟩ := hv
    k_fold
    (repeat' (first | ((try k_unmd); k_unfold; first | (with_reducible (first | refine after_nil ?_ | refine after_next ?_ | refine after_ret ?_ | refine after_brk ?_ | refine after_cont ?_)) | (try dsimp only [List.cons_append, List.nil_append])) | ((with_reducible show wpAny _ _ (subscriptTail (PySem.Expr.Name _ _) (PySem.Expr.Name _ _) (Value.str _ _) (Value.int _ _)) _ _ _); ((refine item_call (six_lo (by assumption) (by assumption)) (six_hi (by assumption) (by assumption)) ?_ (by with_unfolding_all rfl) (by intro _; with_unfolding_all rfl)))) | ((with_reducible show wpAny _ _ (binaryOp Operator.Mod (Value.int _ _) (Value.int _ _)) _ _ _); ((refine md_pos (by decide) ?_))) | ((with_reducible show wpAny _ _ (call (Value.builtin "str.join") _ _) _ _ _); (((rename StrsAre _ _ => S9); (rename News _ _ _ _ => N9); refine join_call (News.isList N9 (List.Mem.head _)) S9 (by simp only [List.length_map]; omega) ?_; intro t8 k8; (try dsimp only); (try k_fold)))) | ((with_reducible show wpAny _ _ (call (Value.ref _) _ _) _ _ _); ((refine' c_sixes ?cx ?ct rfl ?cr ?cu _ _ _ ?cb ?cn ?cl ?ci ?_; (case cl => (((rename Fr _ _ _ _ => F9); exact Heap.IsList.at (by assumption) fun o e => F9.keep _ o e))); (case ci => assumption); (case cx => ((first | assumption | exact Frag.In.keeps (by assumption) (Fr.keep (by assumption))))); (case ct => ((first | assumption | exact Top.keeps (by assumption) (Fr.keep (by assumption))))); (case cr => ((simp +zetaDelta only [depth_deeper, units_deeper]; omega))); (case cu => ((simp +zetaDelta only [depth_deeper, units_deeper]; omega))); (case cb => assumption); (case cn => assumption); ((intro a9 ws9 n9 h9 tk9 hx9 hf9 he9 hI9; (rename Fr _ _ _ _ => F9); (rename News _ _ _ _ => N9); (have F8 := fr_ext F9 hx9); (have N8 := news_add F9 N9 hx9 hf9 he9); clear F9 N9 hf9 he9; (try dsimp only); (try k_fold)))))) | ((with_reducible show wpAny _ _ (eval (PySem.Expr.ListComp _ _ _ _) _) _ _ _); ((k_dflt (refine LCg.ListComp_U (F₀ := by k_asm) (by with_unfolding_all rfl) (by decide) (by rfl) (by decide) (by rfl) ?_)))) | ((with_reducible show wpAny _ _ (execs (_ :: _) _) _ _ _); ((refine execs_f ?_; intro qk))) | ((with_reducible show wpAny _ _ (storeName _ _ _) _ _ _); ((k_dflt (refine' store_f ?F ?N ?b ?a ?_; (case F => k_asm); (case N => k_asm); (case b => rfl); (case a => rfl); k_whole; intro m' h' F' N'; (try k_sweep))))) | (k_end; wrow_close) | walk1 | dsimp only | (leave1; try dsimp only)))
    exact TurnE.intro (by assumption) (by assumption) (by kcf_all) ⟨_, rfl⟩
  · intro ys hys
    have hys := hys.strs
    rw [show (sixF os).map (fun k => (⟨#[sgn k]⟩ : Str)) = ((sixF os).map sgn).map fun c => (⟨#[c]⟩ : Str) by simp] at hys
    (repeat' (first | ((try k_unmd); k_unfold; first | (with_reducible (first | refine after_nil ?_ | refine after_next ?_ | refine after_ret ?_ | refine after_brk ?_ | refine after_cont ?_)) | (try dsimp only [List.cons_append, List.nil_append])) | ((with_reducible show wpAny _ _ (subscriptTail (PySem.Expr.Name _ _) (PySem.Expr.Name _ _) (Value.str _ _) (Value.int _ _)) _ _ _); ((refine item_call (six_lo (by assumption) (by assumption)) (six_hi (by assumption) (by assumption)) ?_ (by with_unfolding_all rfl) (by intro _; with_unfolding_all rfl)))) | ((with_reducible show wpAny _ _ (binaryOp Operator.Mod (Value.int _ _) (Value.int _ _)) _ _ _); ((refine md_pos (by decide) ?_))) | ((with_reducible show wpAny _ _ (call (Value.builtin "str.join") _ _) _ _ _); (((rename StrsAre _ _ => S9); (rename News _ _ _ _ => N9); refine join_call (News.isList N9 (List.Mem.head _)) S9 (by simp only [List.length_map]; omega) ?_; intro t8 k8; (try dsimp only); (try k_fold)))) | ((with_reducible show wpAny _ _ (call (Value.ref _) _ _) _ _ _); ((refine' c_sixes ?cx ?ct rfl ?cr ?cu _ _ _ ?cb ?cn ?cl ?ci ?_; (case cl => (((rename Fr _ _ _ _ => F9); exact Heap.IsList.at (by assumption) fun o e => F9.keep _ o e))); (case ci => assumption); (case cx => ((first | assumption | exact Frag.In.keeps (by assumption) (Fr.keep (by assumption))))); (case ct => ((first | assumption | exact Top.keeps (by assumption) (Fr.keep (by assumption))))); (case cr => ((simp +zetaDelta only [depth_deeper, units_deeper]; omega))); (case cu => ((simp +zetaDelta only [depth_deeper, units_deeper]; omega))); (case cb => assumption); (case cn => assumption); ((intro a9 ws9 n9 h9 tk9 hx9 hf9 he9 hI9; (rename Fr _ _ _ _ => F9); (rename News _ _ _ _ => N9); (have F8 := fr_ext F9 hx9); (have N8 := news_add F9 N9 hx9 hf9 he9); clear F9 N9 hf9 he9; (try dsimp only); (try k_fold)))))) | ((with_reducible show wpAny _ _ (eval (PySem.Expr.ListComp _ _ _ _) _) _ _ _); ((k_dflt (refine LCg.ListComp_U (F₀ := by k_asm) (by with_unfolding_all rfl) (by decide) (by rfl) (by decide) (by rfl) ?_)))) | ((with_reducible show wpAny _ _ (execs (_ :: _) _) _ _ _); ((refine execs_f ?_; intro qk))) | ((with_reducible show wpAny _ _ (storeName _ _ _) _ _ _); ((k_dflt (refine' store_f ?F ?N ?b ?a ?_; (case F => k_asm); (case N => k_asm); (case b => rfl); (case a => rfl); k_whole; intro m' h' F' N'; (try k_sweep))))) | (k_end; wrow_close) | walk1 | dsimp only | (leave1; try dsimp only)))
    rw [name_glue]
    (rename Fr _ _ _ _ => F9)
    exact hQ _ _ _ F9.keep
end Mine
end
section -- C8
namespace Mine


noncomputable def aheadF (os : List Int) : Int := os.headD 255
noncomputable def meansF (os : List Int) : List Bool := [decide (aheadF os < 104), decide (104 ≤ aheadF os ∧ aheadF os < 208), decide (208 ≤ aheadF os ∧ aheadF os < 248), (sixF os).any (fun k => decide (61 < k)), (sixF os).any (fun k => k == 0),
  decide (0 < (os.length : Int) % 3), decide ((os.length : Int) % 3 = 0 ∧ 0 < (os.length : Int)), (os.length : Int) % 3 == 1, decide (0 < (os.length : Int) ∧ (os.length : Int) < 4)]
theorem means_obj {os : List Int} {b0 b1 b2 b3 b4 b5 b6 b7 b8 : Bool} (h0 : b0 = decide (aheadF os < 104)) (h1 : b1 = decide (104 ≤ aheadF os ∧ aheadF os < 208)) (h2 : b2 = decide (208 ≤ aheadF os ∧ aheadF os < 248))
    (h3 : b3 = (sixF os).any (fun k => decide (61 < k))) (h4 : b4 = (sixF os).any (fun k => k == 0)) (h5 : b5 = decide (0 < (os.length : Int) % 3)) (h6 : b6 = decide ((os.length : Int) % 3 = 0 ∧ 0 < (os.length : Int)))
    (h7 : b7 = ((os.length : Int) % 3 == 1)) (h8 : b8 = decide (0 < (os.length : Int) ∧ (os.length : Int) < 4)) :
    some (W.listOf #[.bool b0, .bool b1, .bool b2, .bool b3, .bool b4, .bool b5, .bool b6, .bool b7, .bool b8] 0) = some ({ cls := .type "list", data := .seq ((meansF os).map Value.bool).toArray 0 } : Obj) := by
  subst h0 h1 h2 h3 h4 h5 h6 h7 h8; rfl
theorem head_eq (os : List Int) : List.getD (os ++ [255]) (Int.toNat 0) 0 = aheadF os := by cases os <;> rfl
theorem max_eq {os : List Int} {M : Int} (h1 : M ∈ [0] ++ sixF os) (h2 : ∀ a : Int, a ∈ [0] ++ sixF os → a ≤ M) : decide (61 < M) = (sixF os).any (fun k => decide (61 < k)) := by
  rw [Bool.eq_iff_iff, decide_eq_true_eq, List.any_eq_true]
  constructor
  · intro h
    simp only [List.cons_append, List.nil_append, List.mem_cons] at h1
    rcases h1 with rfl | h1
    · omega
    · exact ⟨M, h1, by simpa using h⟩
  · rintro ⟨k, hk, hd⟩
    have := h2 k (by simp [hk])
    have : 61 < k := by simpa using hd
    omega
set_option maxHeartbeats 8000000 in
theorem c_means {w : World} {A : Around} {s : Shared} {Q E : Value → Shared → Prop} {loose : List Str} {mean : ExcName → Option Value} {mg mb : Str → Option Value}
    (X : (hd.heap_1 w.params).In s.heap) (T : Top topProg loose mean mg mb s.heap) (hh : A.handled = none) (hr : A.depth + 9 < recursionLimit) (hu : A.units + 70 < cLine) (l : Addr) (vs : List Value) (os : List Int)
    (hb : ∀ o ∈ os, 0 ≤ o ∧ o < 256) (hn : os.length ≤ 5)
    (hl : s.heap.IsList l vs.toArray) (hI : IntsAre vs os)
    (hQ : ∀ a n h' tk', Ext s.heap h' → s.heap.get? a = none → h'.get? a = some { cls := .type "list", data := .seq ((meansF os).map Value.bool).toArray n } → Q (.ref a) { s with heap := h', toks := tk' }) :
    wpAny (model prg w) A (call (.ref 153) [.ref l] []) Q E s := by
  have hlen := hI.length
  have hLs := six_len os
  obtain ⟨hd', dp, fr, gd, un⟩ := A
  dsimp only at hh hr hu
  subst hh
  refine' pcall X T ?k6 ?k7 (Nat.lt_of_le_of_lt (Nat.le_add_right _ _) hr) ?k9 ?kB ?c2 ?c3 ?c4 ?c5 ?_
  case k6 => k_is
  case k7 => k_is
  case k9 => exact BindsTo.of_eq rfl
  case c5 => decide
  case kB => exact locs rfl
  case c2 => exact rfl
  case c3 => exact rfl
  case c4 => exact rfl
  intro L' h' F N envL AL
  refine letM F ?_
  clear F
  intro mL F
  (try dsimp only)
  show wpAny _ _ _ _ _ _
  k_fold
  (repeat' (first | ((try k_unmd); k_unfold; first | (with_reducible (first | refine after_nil ?_ | refine after_next ?_ | refine after_ret ?_ | refine after_brk ?_ | refine after_cont ?_)) | (try dsimp only [List.cons_append, List.nil_append])) | ((with_reducible show wpAny _ _ (binaryOp Operator.Add (Value.ref _) (Value.ref _)) _ _ _); ((refine' add_lists_ints ?fF ?fN ?fa ?fb ?fi ?fj ?_ ?fz; (case fF => assumption); (case fN => assumption); (case fa => (first | exact News.isList (by assumption) (by k_mem) | (((rename Fr _ _ _ _ => F9); exact Heap.IsList.at (by assumption) fun o e => F9.keep _ o e)))); (case fb => (first | exact News.isList (by assumption) (by k_mem) | (((rename Fr _ _ _ _ => F9); exact Heap.IsList.at (by assumption) fun o e => F9.keep _ o e)))); (case fi => first | assumption | exact IntsAre.cons _ _ IntsAre.nil); (case fj => first | assumption | exact IntsAre.cons _ _ IntsAre.nil); (case fz => ((rw [sizeLine_eq]; simp only [List.length_cons, List.length_nil]; omega))); intro h7 F7 N7 I7; (try k_sweep)))) | ((with_reducible show wpAny _ _ (binaryOp Operator.Mod (Value.int _ _) (Value.int _ _)) _ _ _); ((refine md_pos (by decide) ?_))) | ((with_reducible show wpAny _ _ (call (Value.ref _) _ _) _ _ _); ((refine' c_sixes ?cx ?ct rfl ?cr ?cu _ _ _ ?cb ?cn ?cl ?ci ?_; (case cl => (((rename Fr _ _ _ _ => F9); exact Heap.IsList.at (by assumption) fun o e => F9.keep _ o e))); (case ci => assumption); (case cx => ((first | assumption | exact Frag.In.keeps (by assumption) (Fr.keep (by assumption))))); (case ct => ((first | assumption | exact Top.keeps (by assumption) (Fr.keep (by assumption))))); (case cr => ((simp +zetaDelta only [depth_deeper, units_deeper]; omega))); (case cu => ((simp +zetaDelta only [depth_deeper, units_deeper]; omega))); (case cb => assumption); (case cn => assumption); ((intro a9 ws9 n9 h9 tk9 hx9 hf9 he9 hI9; (rename Fr _ _ _ _ => F9); (rename News _ _ _ _ => N9); (have F8 := fr_ext F9 hx9); (have N8 := news_add F9 N9 hx9 hf9 he9); clear F9 N9 hf9 he9; (try dsimp only); (try k_fold)))))) | ((with_reducible show wpAny _ _ (execs (_ :: _) _) _ _ _); ((refine execs_f ?_; intro qk))) | ((with_reducible show wpAny _ _ (storeName _ _ _) _ _ _); ((k_dflt (refine' store_f ?F ?N ?b ?a ?_; (case F => k_asm); (case N => k_asm); (case b => rfl); (case a => rfl); k_whole; intro m' h' F' N'; (try k_sweep))))) | (k_end; wrow_close) | walk1 | dsimp only | (leave1; try dsimp only)))
  all_goals (
    (rename Fr _ _ _ _ => F9)
    (rename News _ _ _ _ => N9)
    (rename (_ ∈ _ ++ sixF _) => hm1)
    (rename (∀ a : Int, a ∈ _ ++ sixF _ → a ≤ _) => hm2)
    have hhead := head_eq os
    refine hQ _ 0 _ _ (Fr.keep F9) (News.fresh N9 (List.Mem.head _)) ((News.get N9 (List.Mem.head _)).trans (means_obj ?_ ?_ ?_ (max_eq hm1 hm2) rfl ?_ ?_ ?_ ?_))
    all_goals first | rfl | (rw [decide_eq_decide]; omega) | (symm; rw [decide_eq_false_iff_not]; omega) | (rw [Bool.eq_iff_iff]; simp only [beq_iff_eq, decide_eq_true_eq]; omega))
end Mine
end
section -- C9
namespace Mine


set_option maxHeartbeats 8000000 in
theorem c_buffer {w : World} {A : Around} {s : Shared} {Q E : Value → Shared → Prop} {loose : List Str} {mean : ExcName → Option Value} {mg mb : Str → Option Value}
    (X : (hd.heap_1 w.params).In s.heap) (T : Top topProg loose mean mg mb s.heap) (hh : A.handled = none) (hr : A.depth + 3 < recursionLimit) (hu : A.units + 20 < cLine) (b : Array UInt8) (t : Tok)
    (hQ : ∀ t' h' tk', Ext s.heap h' → Q (.bytes b t') { s with heap := h', toks := tk' }) :
    wpAny (model prg w) A (call (.ref 72) [.bytes b t] []) Q E s := by
  obtain ⟨hd', dp, fr, gd, un⟩ := A
  dsimp only at hh hr hu
  subst hh
  refine' pcall X T ?k6 ?k7 (Nat.lt_of_le_of_lt (Nat.le_add_right _ _) hr) ?k9 ?kB ?c2 ?c3 ?c4 ?c5 ?_
  case k6 => k_is
  case k7 => k_is
  case k9 => first | exact BindsTo.of_eq rfl | exact binds_K X rfl (by k_is) rfl rfl rfl
  case c5 => decide
  case kB => exact locs rfl
  case c2 => exact rfl
  case c3 => exact rfl
  case c4 => exact rfl
  intro L' h' F N envL AL
  refine letM F ?_
  clear F
  intro mL F
  (try dsimp only)
  show wpAny _ _ _ _ _ _
  k_fold
  (repeat' (first | ((try k_unmd); k_unfold; first | (with_reducible (first | refine after_nil ?_ | refine after_next ?_ | refine after_ret ?_ | refine after_brk ?_ | refine after_cont ?_)) | (try dsimp only [List.cons_append, List.nil_append])) | ((with_reducible show wpAny _ _ (binaryOp Operator.Mod (Value.int _ _) (Value.int _ _)) _ _ _); ((refine md_pos (by decide) ?_))) | ((with_reducible show wpAny _ _ (call (Value.type "type") _ _) _ _ _); ((refine call_type_of (Tx := "bytes") rfl (by decide +kernel) ?_))) | ((with_reducible show wpAny _ _ (call (Value.ref _) _ _) _ _ _); ((refine' c_sixes ?cx ?ct rfl ?cr ?cu _ _ _ ?cb ?cn ?cl ?ci ?_; (case cl => (((rename Fr _ _ _ _ => F9); exact Heap.IsList.at (by assumption) fun o e => F9.keep _ o e))); (case ci => assumption); (case cx => ((first | assumption | exact Frag.In.keeps (by assumption) (Fr.keep (by assumption))))); (case ct => ((first | assumption | exact Top.keeps (by assumption) (Fr.keep (by assumption))))); (case cr => ((simp +zetaDelta only [depth_deeper, units_deeper]; omega))); (case cu => ((simp +zetaDelta only [depth_deeper, units_deeper]; omega))); (case cb => assumption); (case cn => assumption); ((intro a9 ws9 n9 h9 tk9 hx9 hf9 he9 hI9; (rename Fr _ _ _ _ => F9); (rename News _ _ _ _ => N9); (have F8 := fr_ext F9 hx9); (have N8 := news_add F9 N9 hx9 hf9 he9); clear F9 N9 hf9 he9; (try dsimp only); (try k_fold)))))) | ((with_reducible show wpAny _ _ (execs (_ :: _) _) _ _ _); ((refine execs_f ?_; intro qk))) | ((with_reducible show wpAny _ _ (storeName _ _ _) _ _ _); ((k_dflt (refine' store_f ?F ?N ?b ?a ?_; (case F => k_asm); (case N => k_asm); (case b => rfl); (case a => rfl); k_whole; intro m' h' F' N'; (try k_sweep))))) | (k_end; wrow_close) | walk1 | dsimp only | (leave1; try dsimp only)))
  (rename Fr _ _ _ _ => F9)
  exact hQ _ _ _ F9.keep
set_option maxHeartbeats 8000000 in
theorem c_truth {w : World} {A : Around} {s : Shared} {Q E : Value → Shared → Prop} {loose : List Str} {mean : ExcName → Option Value} {mg mb : Str → Option Value}
    (X : (hd.heap_1 w.params).In s.heap) (T : Top topProg loose mean mg mb s.heap) (hh : A.handled = none) (hr : A.depth + 3 < recursionLimit) (hu : A.units + 20 < cLine) 
    (hQ : ∀ h' tk', Ext s.heap h' → Q (.bool false) { s with heap := h', toks := tk' }) :
    wpAny (model prg w) A (call (.ref 79) [.bool false] []) Q E s := by
  obtain ⟨hd', dp, fr, gd, un⟩ := A
  dsimp only at hh hr hu
  subst hh
  refine' pcall X T ?k6 ?k7 (Nat.lt_of_le_of_lt (Nat.le_add_right _ _) hr) ?k9 ?kB ?c2 ?c3 ?c4 ?c5 ?_
  case k6 => k_is
  case k7 => k_is
  case k9 => first | exact BindsTo.of_eq rfl | exact binds_K X rfl (by k_is) rfl rfl rfl
  case c5 => decide
  case kB => exact locs rfl
  case c2 => exact rfl
  case c3 => exact rfl
  case c4 => exact rfl
  intro L' h' F N envL AL
  refine letM F ?_
  clear F
  intro mL F
  (try dsimp only)
  show wpAny _ _ _ _ _ _
  k_fold
  (repeat' (first | ((try k_unmd); k_unfold; first | (with_reducible (first | refine after_nil ?_ | refine after_next ?_ | refine after_ret ?_ | refine after_brk ?_ | refine after_cont ?_)) | (try dsimp only [List.cons_append, List.nil_append])) | ((with_reducible show wpAny _ _ (binaryOp Operator.Mod (Value.int _ _) (Value.int _ _)) _ _ _); ((refine md_pos (by decide) ?_))) | ((with_reducible show wpAny _ _ (call (Value.type "type") _ _) _ _ _); ((refine call_type_of (Tx := "bytes") rfl (by decide +kernel) ?_))) | ((with_reducible show wpAny _ _ (call (Value.ref _) _ _) _ _ _); ((refine' c_sixes ?cx ?ct rfl ?cr ?cu _ _ _ ?cb ?cn ?cl ?ci ?_; (case cl => (((rename Fr _ _ _ _ => F9); exact Heap.IsList.at (by assumption) fun o e => F9.keep _ o e))); (case ci => assumption); (case cx => ((first | assumption | exact Frag.In.keeps (by assumption) (Fr.keep (by assumption))))); (case ct => ((first | assumption | exact Top.keeps (by assumption) (Fr.keep (by assumption))))); (case cr => ((simp +zetaDelta only [depth_deeper, units_deeper]; omega))); (case cu => ((simp +zetaDelta only [depth_deeper, units_deeper]; omega))); (case cb => assumption); (case cn => assumption); ((intro a9 ws9 n9 h9 tk9 hx9 hf9 he9 hI9; (rename Fr _ _ _ _ => F9); (rename News _ _ _ _ => N9); (have F8 := fr_ext F9 hx9); (have N8 := news_add F9 N9 hx9 hf9 he9); clear F9 N9 hf9 he9; (try dsimp only); (try k_fold)))))) | ((with_reducible show wpAny _ _ (execs (_ :: _) _) _ _ _); ((refine execs_f ?_; intro qk))) | ((with_reducible show wpAny _ _ (storeName _ _ _) _ _ _); ((k_dflt (refine' store_f ?F ?N ?b ?a ?_; (case F => k_asm); (case N => k_asm); (case b => rfl); (case a => rfl); k_whole; intro m' h' F' N'; (try k_sweep))))) | (k_end; wrow_close) | walk1 | dsimp only | (leave1; try dsimp only)))
  (rename Fr _ _ _ _ => F9)
  exact hQ _ _ F9.keep
end Mine
end
section -- G1
namespace Mine
theorem runs_toks {M : Model} {Γ : PySem.Ctx} {p : Pos} {t : Sem PySem.Fin} {fs : List Frame} {s : Shared} {e : End} {s' : Shared} (h : Runs M Γ p t fs s e s') : s.toks ≤ s'.toks := by
  induction h <;> (try simp only [Shared.setGen] at *) <;> first | exact Nat.le_refl _ | assumption | omega
theorem wakes_toks {M : Model} {Γ : PySem.Ctx} {p : Pos} {g : Nat} {r : Resume} {s : Shared} {res : GenResult} {s' : Shared} (h : Wakes M Γ p g r s res s') : s.toks ≤ s'.toks := by
  unfold Wakes at h
  split at h
  · exact h.elim
  · split at h
    · obtain ⟨e₁, s₁, hr, _, _, rfl⟩ := h
      have z := runs_toks hr; exact z
    · obtain ⟨_, rfl⟩ := h; exact Nat.le_refl _
    · obtain ⟨_, rfl⟩ := h; exact Nat.le_refl _
  · obtain ⟨e₁, s₁, hr, _, _, rfl⟩ := h
    have z := runs_toks hr; exact z
  · obtain ⟨_, rfl⟩ := h; exact Nat.le_refl _
  · obtain ⟨_, rfl⟩ := h; exact Nat.le_refl _
theorem wp_toks {α : Type} {M : Model} {Γ : PySem.Ctx} (t : Sem α) {Q : α → Pos → Shared → Prop} {E : Value → Pos → Shared → Prop} (T : Nat) : ∀ (p : Pos) (s : Shared), T ≤ s.toks → Sem.wp M Γ t (fun a p s' => T ≤ s'.toks → Q a p s') (fun e p s' => T ≤ s'.toks → E e p s') p s → Sem.wp M Γ t Q E p s := by
  induction t with
  | pure a => intro p s hT h; rw [Sem.wp] at h ⊢; exact h hT
  | raise e => intro p s hT h; rw [Sem.wp] at h ⊢; exact h hT
  | unsupported w => intro p s hT h; rw [Sem.wp] at h; exact h.elim
  | finish e => intro p s hT h; rw [Sem.wp] at h; exact h.elim
  | rule tag k ih => intro p s hT h; rw [Sem.wp] at h ⊢; exact ih _ _ _ hT h
  | «at» q k ih => intro p s hT h; rw [Sem.wp] at h ⊢; exact ih _ _ _ hT h
  | load a part k ih => intro p s hT h; rw [Sem.wp] at h ⊢; obtain ⟨o, ho, h⟩ := h; exact ⟨o, ho, ih _ _ _ hT h⟩
  | update a part f k ih => intro p s hT h; rw [Sem.wp] at h ⊢; exact ⟨h.1, ih _ _ _ hT h.2⟩
  | loadIfAlive a k ih => intro p s hT h; rw [Sem.wp] at h ⊢; exact ih _ _ _ hT h
  | point l k ih => intro p s hT h; rw [Sem.wp] at h ⊢; exact ih _ _ _ hT h
  | register a k ih => intro p s hT h; rw [Sem.wp] at h; exact h.elim
  | alloc o k ih => intro p s hT h; rw [Sem.wp] at h ⊢; exact ih _ _ _ hT h
  | fresh k ih => intro p s hT h; rw [Sem.wp] at h ⊢; exact ih _ _ _ (Nat.le_succ_of_le hT) h
  | ask k ih => intro p s hT h; rw [Sem.wp] at h ⊢; exact ih _ _ _ hT h
  | choose src n k ih => intro p s hT h; rw [Sem.wp] at h ⊢; exact ⟨h.1, ih _ _ _ hT h.2⟩
  | os q l k ih => intro p s hT h; rw [Sem.wp] at h ⊢; exact ih _ _ _ hT h
  | call c hd g l k ih =>
    intro p s hT h; rw [Sem.wp] at h ⊢
    obtain ⟨r, s₁, hr, h⟩ := h
    exact ⟨r, s₁, hr, ih _ _ _ (Nat.le_trans hT (runs_toks hr)) h⟩
  | handled own k ih => intro p s hT h; rw [Sem.wp] at h ⊢; exact ih _ _ _ hT h
  | genState g k ih => intro p s hT h; rw [Sem.wp] at h ⊢; obtain ⟨o, ho, h⟩ := h; exact ⟨o, ho, ih _ _ _ hT h⟩
  | newGen c k ih => intro p s hT h; rw [Sem.wp] at h ⊢; exact ih _ _ _ hT h
  | resume g r l k ih =>
    intro p s hT h; rw [Sem.wp] at h ⊢
    obtain ⟨res, s₁, hr, h⟩ := h
    exact ⟨res, s₁, hr, ih _ _ _ (Nat.le_trans hT (wakes_toks hr)) h⟩
  | yield v g l k ih => intro p s hT h; rw [Sem.wp] at h; exact h.elim
  | stack k ih => intro p s hT h; rw [Sem.wp] at h ⊢; exact ih _ _ _ hT h
  | fork c k ih => intro p s hT h; rw [Sem.wp] at h; exact h.elim
  | thread k ih => intro p s hT h; rw [Sem.wp] at h ⊢; exact ih _ _ _ hT h
  | await a tk tm l k ih => intro p s hT h; rw [Sem.wp] at h; exact h.elim
theorem wpAny_grow {α : Type} {M : Model} {A : Around} {t : Sem α} {Q : α → Shared → Prop} {E : Value → Shared → Prop} {s : Shared}
    (h : wpAny M A t (fun v s' => s.toks ≤ s'.toks → Q v s') (fun e s' => s.toks ≤ s'.toks → E e s') s) : wpAny M A t Q E s :=
  fun Γ p hΓ => wp_toks t s.toks p s (Nat.le_refl _) (h Γ p hΓ)
end Mine
namespace Mine
theorem wpAny_growQ {α : Type} {M : Model} {A : Around} {t : Sem α} {Q : α → Shared → Prop} {E : Value → Shared → Prop} {s : Shared}
    (h : wpAny M A t (fun v s' => s.toks ≤ s'.toks → Q v s') E s) : wpAny M A t Q E s :=
  wpAny_grow (wpAny_mono h (fun _ _ x => x) fun _ _ x _ => x)
end Mine
end
section -- B1
namespace Mine
theorem slot_md_get : Slot "method_descriptor" "__get__" "method_descriptor.__get__" :=
  .of (owner := "method_descriptor") (n := "__get__") (by rw [typeLookup_type, builtinLookup_eq_fast]; kernel_rfl) (by decide +kernel) (by decide +kernel) (by decide +kernel)
    (by first | exact .inl (by decide +kernel) | exact .inr (by decide +kernel)) (by rw [isSubtype_type]; kernel_rfl)
theorem entry_md_get : entryFor table "method_descriptor.__get__" = some Builtin.«method_descriptor.__get__» := entryFor_of_tree (by kernel_rfl)
theorem args_md_get (a b c : Value) : argsOk "method_descriptor.__get__" ⟨[a, b, c], []⟩ := by unfold argsOk; kernel_rfl
theorem md_noset : typeLookup (.type "method_descriptor") "__set__" = pure none := by rw [typeLookup_type, builtinLookup_eq_fast]; kernel_rfl
theorem md_nodel : typeLookup (.type "method_descriptor") "__delete__" = pure none := by rw [typeLookup_type, builtinLookup_eq_fast]; kernel_rfl
theorem owner_list_append : (".".intercalate ("list.append".cutAt '.').dropLast) = "list" := by
  have e0 : "list.append".cutAt '.' = ["list", "append"] := by first | rfl | decide +kernel
  rw [e0]; decide +kernel
theorem sub_list_list : isSubtype (.type "list") (.type (".".intercalate ("list.append".cutAt '.').dropLast)) = pure true := by
  rw [owner_list_append, isSubtype_type]; kernel_rfl
noncomputable abbrev appOf (a : Addr) : Obj := { cls := .type "builtin_function_or_method", data := .fields #[.builtin "list.append", .ref a] }
section
variable {prog : Program} {w : World} {A : Around} {E : Value → Shared → Prop} {h : Heap} {g : Array GenState} {d : Drawn} {t : Nat} {os : OsState} {a : Addr} {o : Obj}
theorem app_get {R : Result → Shared → Prop} (hx : h.get? a = some o) (hc : o.cls = .type "list") (hq : R (.ok (.ret (.ref h.objs.size))) ⟨h.push (appOf a), g, d, t, os⟩) :
    codeAny (model prog w) A (.call (.builtin "method_descriptor.__get__") ⟨[.builtin "list.append", .ref a, .type "list"], []⟩) R ⟨h, g, d, t, os⟩ := by
  have hT : (⟨h, g, d, t, os⟩ : Shared).TypeIs (.ref a) "list" := ⟨_, hx, hc⟩
  have hT5 : (⟨h, g, d, t, os⟩ : Shared).TypeIs (.builtin "list.append") "method_descriptor" := F.type_list_append
  have f8 := sub_list_list
  refine codeAny_call_builtin slot_md_get.plain entry_md_get (slot_md_get.check _ _ _ _ _ _ _ _ hT5 (args_md_get _ _ _) ?_)
  repeat (any_goals (first | assumption | wp_step))
variable {its : Array Value} {n : Nat}
set_option maxHeartbeats 4000000 in
theorem app_entry {tk : Tok} {Q : Fin → Shared → Prop} (hx : h.get? a = some { cls := .type "list", data := .seq its n }) (hq : Q (.done (.ret (.ref h.objs.size))) ⟨h.push (appOf a), g, d, t, os⟩) :
    wpAny (model prog w) A (Builtin.«object.__getattribute__» ⟨[.ref a, .str "append" tk], []⟩) Q E ⟨h, g, d, t, os⟩ := by
  have hT : (⟨h, g, d, t, os⟩ : Shared).TypeIs (.ref a) "list" := ⟨_, hx, rfl⟩
  have hT5 : (⟨h, g, d, t, os⟩ : Shared).TypeIs (.builtin "list.append") "method_descriptor" := F.type_list_append
  have f4 := F.slot_list_append.lookup
  have f5 := F.type_list_append
  have f6 := slot_md_get.lookup
  have f7 := md_noset
  have f8 := md_nodel
  have f9 : wpAny (model prog w) A (instanceDict a false) (fun x s' => x = none ∧ s' = ⟨h, g, d, t, os⟩) E ⟨h, g, d, t, os⟩ := by
    unfold instanceDict
    repeat (any_goals (first | assumption | wp_step))
    exact ⟨rfl, rfl⟩
  repeat (any_goals (first | assumption | wp_step))
  refine app_get hx rfl ?_
  repeat (any_goals (first | assumption | wp_step))
theorem app_call {tk : Tok} {R : Result → Shared → Prop} (hx : h.get? a = some { cls := .type "list", data := .seq its n }) (hq : R (.ok (.ret (.ref h.objs.size))) ⟨h.push (appOf a), g, d, t, os⟩) :
    codeAny (model prog w) A (.call (.builtin "list.__getattribute__") ⟨[.ref a, .str "append" tk], []⟩) R ⟨h, g, d, t, os⟩ :=
  codeAny_call_builtin F.slot_list_getattribute.plain F.entry_list_ga (F.slot_list_getattribute.check _ _ _ _ _ _ _ _ (show (⟨h, g, d, t, os⟩ : Shared).TypeIs (.ref a) "list" from ⟨_, hx, rfl⟩) (F.args_list_getattribute_2 _ _) (app_entry hx hq))
set_option maxHeartbeats 4000000 in
theorem app_by {tk : Tok} {fill expr : Bool} {Q : Value → Shared → Prop} (hx : h.get? a = some { cls := .type "list", data := .seq its n }) (hq : Q (.ref h.objs.size) ⟨h.push (appOf a), g, d, t, os⟩) :
    wpAny (model prog w) A (getAttrBy (.ref a) (.str "append" tk) fill expr) Q E ⟨h, g, d, t, os⟩ := by
  have hT : (⟨h, g, d, t, os⟩ : Shared).TypeIs (.ref a) "list" := ⟨_, hx, rfl⟩
  have f2 := F.slot_list_getattribute.lookup
  have f3 := F.slot_list_getattribute.bind (.ref a)
  have hx0 : (expr && onTheHeap (Value.builtin "list.__getattribute__")) = false := by cases expr <;> rfl
  repeat (any_goals (first | assumption | wp_step))
  refine app_call hx ?_
  repeat (any_goals (first | assumption | wp_step))
theorem app_attr {expr : Bool} {Q : Value → Shared → Prop} (hx : h.get? a = some { cls := .type "list", data := .seq its n }) (hq : Q (.ref h.objs.size) ⟨h.push (appOf a), g, d, t + 1, os⟩) :
    wpAny (model prog w) A (getAttr (.ref a) (Str.ofString "append") expr) Q E ⟨h, g, d, t, os⟩ := by
  unfold getAttr
  exact wpAny_bind (wpAny_mkText (app_by hx hq))
end
end Mine
end
section -- B2
namespace Mine
section
variable {prog : Program} {w : World} {M : Model} {A : Around} {E : Value → Shared → Prop} {s : Shared} {h₀ : Heap} {L : Addr} {m : Str → Option Value} {news : List (Addr × Obj)}
theorem quiet_app {as : Args} : (Code.builtin "list.append" as).quiet = true := Code.quiet_builtin _ (by decide +kernel)
theorem sub_list_module : isSubtype (.type "list") (.type "module") = pure false := by rw [isSubtype_type]; kernel_rfl
theorem sub_list_type : isSubtype (.type "list") (.type "type") = pure false := by rw [isSubtype_type]; kernel_rfl
theorem app_args (a b : Value) : (match Manifest.signature? "list.append" with | some sg => Bind.checkArgs "list.append" { sg with full := s!"{Bind.lastOf "list"}.{Bind.lastOf "list.append"}" } ⟨[a, b], []⟩ | none => pure ()) = pure () := by kernel_rfl
theorem app_kind : builtinKind "list.append" = some .method := by kernel_rfl
theorem app_var : Manifest.varargsMethods.contains "list.append" = false := by decide +kernel
theorem app_sig : (Manifest.signature? "list.append").isSome = true := by kernel_rfl
set_option maxHeartbeats 4000000 in
theorem check_app {l : Addr} {v : Value} {Q : Unit → Shared → Prop} {its : Array Value} {n : Nat} (ho : s.heap.get? l = some { cls := .type "list", data := .seq its n }) (h : Q () s) : wpAny (model prog w) A (checkBoundCall "list.append" ⟨[.ref l, v], []⟩) Q E s := by
  have hT : s.TypeIs (.ref l) "list" := ⟨_, ho, rfl⟩
  have e4 := app_args (.ref l) v
  have e3 := app_var
  unfold checkBoundCall
  rw [app_kind]
  cases e1 : Manifest.signature? "list.append" with
  | none => have := app_sig; rw [e1] at this; cases this
  | some sg =>
  rw [e1] at e4
  dsimp only at e4 ⊢
  have f1 := sub_list_module
  have f2 := sub_list_type
  refine KFB.if_not rfl ?_
  repeat (any_goals (first | assumption | wp_step))
noncomputable def AppAt (u l : Addr) (h : Heap) : Prop := h.get? u = some (appOf l)
theorem app_at {u l : Addr} {h : Heap} (N : News h₀ L h news) (hm : (u, appOf l) ∈ news) : AppAt u l h := (N _ hm).1
theorem call_app {x D : Addr} {its : Array Value} {n : Nat} {v : Value} {Q : Value → Shared → Prop} (ha : AppAt x D s.heap) (ho : s.heap.get? D = some { cls := .type "list", data := .seq its n })
    (h : ∀ h', Heap.SameBut D s.heap h' → h'.get? D = some { cls := .type "list", data := .seq (its.push v) (n + 1) } → Q .none { s with heap := h' })
    (hsz : its.size ≤ sizeLine := by size_fits) :
    wpAny (model prog w) A (call (.ref x) [v]) Q E s := by
  refine wpAny_call (codeAny_of_tree ?_)
  show wpAny _ A.in1 (callAny (.ref x) ⟨[v], []⟩) _ _ s
  simp only [callAny]
  refine wpAny_bind (wpAny_load ha ?_)
  simp only [appOf, show (Value.type "builtin_function_or_method" == Value.type "method" || Value.type "builtin_function_or_method" == Value.type "builtin_function_or_method" || Value.type "builtin_function_or_method" == Value.type "method-wrapper") = true by decide, if_true]
  refine KFB.if_so (by decide) ?_
  refine wpAny_bind (check_app ho ?_)
  refine wpAny_bind (wpAny_pure (wpAny_pure ?_))
  refine ⟨quiet_app, codeAny_builtin F.entry_list_append ?_⟩
  show wpAny _ _ (updateSeq D (·.push v) >>= fun _ => ret .none) _ _ s
  refine wpAny_bind ?_
  refine wpAny_updateSeq ho rfl (wpAny_pure (h _ (Heap.SameBut.update ..) ?_))
  rw [Heap.get?_update_self _ ho (by rw [mapSeq_push]; rfl), mapSeq_push]
theorem callWith_app {pos : Pos} {u l : Addr} {env : Env} {e : PySem.Expr} {Q : Value → Shared → Prop} (_N : News h₀ L s.heap news) (_hm : (u, appOf l) ∈ news)
    (h : wpAny M A (spliced (backTo pos (starEach [e] env))) (fun vs s₁ => AppAt u l s₁.heap ∧ wpAny M A (call (.ref u) vs) Q E s₁) E s)
    (he : starEach [e] env = (false, eval e env) :: starEach [] env := by rfl) :
    wpAny M A (callWith pos (.ref u) [] (backTo pos (starEach [e] env)) []) Q E s := by
  have hplain : (backTo pos (starEach [e] env)).any (·.1) = false := by rw [he]; rfl
  have h' : wpAny M A (evalArgs (.ref u) true (backTo pos (starEach [e] env)) []) (fun x s₁ => AppAt u l s₁.heap ∧ wpAny M A (call (.ref u) ([] ++ x.pos) x.kw) Q E s₁) E s := by
    rw [he] at h ⊢
    exact evalArgs_plain h
  unfold callWith
  refine wpAny_bind (wpAny_holding (wpAny_mono h' (fun x s₁ h₁ => wpAny_bind (wpAny_standAt ?_)) fun _ _ x => x))
  obtain ⟨ho, hcall⟩ := h₁
  simp only [hplain, List.any_nil, Bool.or_false]
  refine wpAny_bind (m := keeperOf (.ref u)) ?_
  unfold keeperOf
  refine wpAny_bind (wpAny_load ho ?_)
  simp only [appOf, show (Value.type "builtin_function_or_method" != Value.type "method") = true by decide, show (Value.type "builtin_function_or_method" == Value.type "builtin_function_or_method" || Value.type "builtin_function_or_method" == Value.type "method-wrapper") = true by decide, if_true]
  refine wpAny_pure ?_
  exact wpAny_bind (wpAny_mono hcall (fun r s₂ hr => wpAny_bind (wpAny_holding (wpAny_point (wpAny_pure hr)))) fun _ _ x => x)
end
end Mine
end
section -- B3x
namespace Mine
section
variable {w : World} {A : Around} {E : Value → Shared → Prop} {s : Shared}
theorem esc_none {c : Nat} (hc : c = 65 ∨ c = 61) (X : (hd.heap_1 w.params).In s.heap) : ∃ f, s.heap.MapOf (intKind prg w) 102 f ∧ f (c : Int) = none := by
  refine ⟨_, ⟨_, _, _, X 102 _ rfl, ⟨rfl, rfl, rfl⟩, rfl, ?_, fun _ => rfl⟩, ?_⟩
  · intro e he
    refine ⟨e.hash, ?_⟩
    simp only [List.mem_toArray, List.mem_cons, List.not_mem_nil, or_false] at he
    rcases he with rfl | rfl | rfl | rfl | rfl | rfl | rfl | rfl | rfl | rfl | rfl | rfl | rfl | rfl | rfl | rfl | rfl | rfl | rfl | rfl | rfl | rfl | rfl | rfl
    all_goals exact ⟨rfl, rfl⟩
  · rcases hc with rfl | rfl <;> rfl
theorem sub_key_lookup : isSubtype (.type "KeyError") (.type "LookupError") = pure true := by rw [isSubtype_type]; kernel_rfl
theorem look_keep {c : Nat} {Q : Builtin.Str.Mapped → Shared → Prop} (hh : A.handled = none) (hc : c = 65 ∨ c = 61) (X : (hd.heap_1 w.params).In s.heap) (h : ∀ h', Mine.Ext s.heap h' → Q .keep { s with heap := h', toks := s.toks + 2 }) :
    wpAny (model prg w) A (Builtin.Str.tableLookup (.ref 102) c) Q E s := by
  obtain ⟨f, hM, hf⟩ := esc_none hc X
  unfold Builtin.Str.tableLookup
  refine wpAny_bind (wpAny_attempt (wpAny_bind (wpAny_mkInt (wpAny_getItem_missing_of (knd := intKind prg w) (k := (c : Int)) (by simp [intKind, Value.isInt]) (by decide) hh hM hf fun h' e hx => ?_))))
  have hT : (⟨h', s.gens, s.drawn, s.toks + 1 + 1, s.os⟩ : Shared).TypeIs (.ref e) "KeyError" := by
    obtain ⟨_, _, o, _, ho, hc, _⟩ := hx
    exact ⟨o, ho, hc⟩
  have f1 := sub_key_lookup
  refine wpAny_bind (wpAny_isInstance hT f1 ?_)
  refine KFB.if_so rfl ?_
  refine wpAny_bind (wpAny_rule (wpAny_pure ?_))
  refine h _ ?_
  obtain ⟨hk, _⟩ := hx
  exact hk
theorem tree_translate {c : Nat} {t : Tok} {P : PySem.Fin → Shared → Prop} (hh : A.handled = none) (hc : c = 65 ∨ c = 61) (X : (hd.heap_1 w.params).In s.heap) (h : ∀ h', Mine.Ext s.heap h' → P (.done (.ret (.str ⟨#[c]⟩ (s.toks + 2)))) { s with heap := h', toks := s.toks + 3 }) :
    wpAny (model prg w) A (Builtin.«str.translate» ⟨[.str ⟨#[c]⟩ t, .ref 102], []⟩) P E s := by
  unfold Builtin.«str.translate»
  refine wpAny_bind (wpAny_of_eq (a := (Value.str ⟨#[c]⟩ t, (⟨#[c]⟩ : Str), Value.ref 102)) (by rcases hc with rfl | rfl <;> kernel_rfl) ?_)
  refine KFB.if_not rfl ?_
  have e0 : (({ cps := #[c] } : Str).cps.all fun x => decide (x < 128)) = true := by rcases hc with rfl | rfl <;> decide +kernel
  dsimp only at e0
  simp only [e0]
  rw [← Array.forIn_toList]
  simp only [List.forIn_cons, List.forIn_nil, List.lookup_nil, show Builtin.Str.tooLong 0 = false from rfl, Bool.false_eq_true, if_false, if_true]
  refine wpAny_bind (wpAny_bind (wpAny_bind (look_keep hh hc X fun h' hx => ?_)))
  dsimp only
  refine wpAny_bind (wpAny_pure ?_)
  dsimp only
  refine wpAny_pure ?_
  dsimp only
  refine wpAny_pure ?_
  refine KFB.if_not rfl ?_
  have e1 : List.foldl (fun (acc : Array Nat) (p : Str) => acc ++ p.cps) #[] ([({ cps := #[c] } : Str)].reverse) = #[c] := by simp
  dsimp only
  rw [e1]
  unfold retStr
  refine wpAny_bind ?_
  repeat (any_goals (first | assumption | wp_step))
  exact h _ hx
theorem call_translate {c : Nat} {t : Tok} {Q : Value → Shared → Prop} (hh : A.handled = none) (hc : c = 65 ∨ c = 61) (X : (hd.heap_1 w.params).In s.heap) (h : ∀ h', Mine.Ext s.heap h' → Q (.str ⟨#[c]⟩ (s.toks + 2)) { s with heap := h', toks := s.toks + 3 }) :
    wpAny (model prg w) A (call (.builtin "str.translate") [.str ⟨#[c]⟩ t, .ref 102]) Q E s := by
  refine wpAny_call_entry F.slot_str_translate rfl F.entry_str_translate ?_ (F.args_str_translate_2 _ _)
  exact tree_translate hh hc X fun h' hx => ⟨_, rfl, h h' hx⟩
end
end Mine
end
section -- B4x
namespace Mine
theorem mem_ext {h h' : Heap} {news : List (Addr × Obj)} (D : W.X.Mem h h' [] news) : Mine.Ext h h' := fun b o e => D.keep b o e (by simp [W.X.away])
noncomputable def SubQ (s : Shared) (x : Str) (Q : Value → Shared → Prop) : Prop := ∀ h' t' k, Mine.Ext s.heap h' → Q (.str x t') { s with heap := h', toks := k }
theorem sub_end {Q : Value → Shared → Prop} {s : Shared} {h : Heap} {t T : Nat} {x y : Str} {news : List (Addr × Obj)} (D : W.X.Mem s.heap h [] news) (hQ : SubQ s x Q) (e : y = x) : Q (.str y T) ⟨h, s.gens, s.drawn, t, s.os⟩ := by
  subst e; exact hQ _ _ _ (mem_ext D)
local macro_rules | `(tactic| x_close) => `(tactic| (refine sub_end (by assumption) (by assumption) ?_; kernel_rfl))
section
variable {w : World} {dp un : Nat} {fr : Option (List Env)} {gd : Option (List Code)} {s : Shared} {Q E : Value → Shared → Prop}
set_option maxHeartbeats 4000000 in
theorem sub_up (X : (hd.heap_1 w.params).In s.heap) (tp : Tok) (lam : Addr) (c : Data) (sl : Array (Option Value)) (hlam : s.heap.get? lam = some ⟨.type "function", none, c, sl⟩) (hQ : SubQ s (Str.ofString "A-Z") Q) :
    wpAny (model prg w) ⟨none, dp, fr, gd, un⟩ (call (.builtin "re.Pattern.sub") [.ref (nat_lit 100), .ref lam, .str (Str.ofString "A-Z") tp] []) Q E s := by
  x_run
set_option maxHeartbeats 4000000 in
theorem sub_lo (X : (hd.heap_1 w.params).In s.heap) (tp : Tok) (lam : Addr) (c : Data) (sl : Array (Option Value)) (hlam : s.heap.get? lam = some ⟨.type "function", none, c, sl⟩) (hQ : SubQ s (Str.ofString "a-z") Q) :
    wpAny (model prg w) ⟨none, dp, fr, gd, un⟩ (call (.builtin "re.Pattern.sub") [.ref (nat_lit 100), .ref lam, .str (Str.ofString "a-z") tp] []) Q E s := by
  x_run
set_option maxHeartbeats 4000000 in
theorem sub_fig (X : (hd.heap_1 w.params).In s.heap) (tp : Tok) (lam : Addr) (c : Data) (sl : Array (Option Value)) (hlam : s.heap.get? lam = some ⟨.type "function", none, c, sl⟩) (hQ : SubQ s (Str.ofString "0-9") Q) :
    wpAny (model prg w) ⟨none, dp, fr, gd, un⟩ (call (.builtin "re.Pattern.sub") [.ref (nat_lit 100), .ref lam, .str (Str.ofString "0-9") tp] []) Q E s := by
  x_run
set_option maxHeartbeats 4000000 in
theorem sub_ps (X : (hd.heap_1 w.params).In s.heap) (tp : Tok) (lam : Addr) (c : Data) (sl : Array (Option Value)) (hlam : s.heap.get? lam = some ⟨.type "function", none, c, sl⟩) (hQ : SubQ s (Str.ofString "+/") Q) :
    wpAny (model prg w) ⟨none, dp, fr, gd, un⟩ (call (.builtin "re.Pattern.sub") [.ref (nat_lit 100), .ref lam, .str (Str.ofString "+/") tp] []) Q E s := by
  x_run
set_option maxHeartbeats 4000000 in
theorem sub_ne (X : (hd.heap_1 w.params).In s.heap) (tp : Tok) (lam : Addr) (c : Data) (sl : Array (Option Value)) (hlam : s.heap.get? lam = some ⟨.type "function", none, c, sl⟩) (hQ : SubQ s (Str.ofString "!=") Q) :
    wpAny (model prg w) ⟨none, dp, fr, gd, un⟩ (call (.builtin "re.Pattern.sub") [.ref (nat_lit 100), .ref lam, .str (Str.ofString "!=") tp] []) Q E s := by
  x_run
end
end Mine
end
section -- B5
namespace Mine
theorem plainAttrs_pat : PlainAttrs "re.Pattern" :=
  ⟨⟨"object.__getattribute__", by rw [typeLookup_type, builtinLookup_eq_fast]; kernel_rfl, by decide +kernel⟩, by rw [typeLookup_type, builtinLookup_eq_fast]; kernel_rfl⟩
theorem slot_pat_sub : Slot "re.Pattern" "sub" "re.Pattern.sub" :=
  .of (owner := "re.Pattern") (n := "sub") (by rw [typeLookup_type, builtinLookup_eq_fast]; kernel_rfl) (by decide +kernel) (by decide +kernel) (by decide +kernel)
    (by first | exact .inl (by decide +kernel) | exact .inr (by decide +kernel)) (by rw [isSubtype_type]; kernel_rfl)
theorem type_pat_sub : typeOf (.builtin "re.Pattern.sub") = pure (.type "method_descriptor") := by show builtinType _ = _; rw [builtinType_eq_fast]; kernel_rfl
theorem getm_sub {M : Model} {w : World} {A : Around} {E : Value → Shared → Prop} {s : Shared} {pl : Sem Bool} {Q : Value × List Value → Shared → Prop} (X : (hd.heap_1 w.params).In s.heap) (h : Q (.builtin "re.Pattern.sub", [.ref 100]) s) :
    wpAny M A (getMethod (.ref 100) (Str.ofString "sub") pl) Q E s :=
  getMethod_builtin (T := "re.Pattern") ⟨_, X 100 _ rfl, rfl⟩ plainAttrs_pat slot_pat_sub type_pat_sub (fun a e => by cases e; exact ⟨_, X 100 _ rfl, rfl⟩) h
end Mine
end
section -- C10
namespace Mine



noncomputable abbrev mpB (base : Str → Option Value) (out : Addr) (lb lc : Int) (tb tc : Tok) (u : Option Value) : Str → Option Value := fun y => if y = Str.ofString "b" then u else if y = Str.ofString "leftchar" then some (.int lc tc) else if y = Str.ofString "leftbits" then some (.int lb tb) else if y = Str.ofString "out" then some (.ref out) else base y
theorem mpB_start {m0 : Str → Option Value} {D : Addr} {tb tc : Tok} {lb lc : Int} (e1 : m0 (Str.ofString "leftchar") = some (.int lc tc)) (e2 : m0 (Str.ofString "leftbits") = some (.int lb tb)) (e3 : m0 (Str.ofString "out") = some (.ref D)) : m0 = mpB m0 D lb lc tb tc (m0 (Str.ofString "b")) := by
  funext y
  by_cases h1 : y = Str.ofString "b"
  · subst h1; rfl
  by_cases h2 : y = Str.ofString "leftchar"
  · subst h2; rw [e1]; rfl
  by_cases h3 : y = Str.ofString "leftbits"
  · subst h3; rw [e2]; rfl
  by_cases h4 : y = Str.ofString "out"
  · subst h4; rw [e3]; rfl
  simp only [mpB, if_neg h1, if_neg h2, if_neg h3, if_neg h4]
noncomputable def tbl (k : Int) : Int := (sgn k : Int)
noncomputable def B2 (pre : List Int) (lc lb : Int) (outs : List Int) : Prop := ∃ dn rest, pre = dn ++ rest ∧ dn.length % 3 = 0 ∧ ((rest = [] ∧ lb = 0 ∧ outs = (sixF dn).map tbl) ∨ (∃ a, rest = [a] ∧ lb = 2 ∧ lc % 4 = a % 4 ∧ outs = (sixF dn).map tbl ++ [tbl (a / 4)]) ∨
  (∃ a b, rest = [a, b] ∧ lb = 4 ∧ lc % 16 = b % 16 ∧ outs = (sixF dn).map tbl ++ [tbl (a / 4), tbl (a % 4 * 16 + b / 16)]))
theorem fr_name {h₀ h : Heap} {L : Addr} {m : Str → Option Value} (F : Fr h₀ L h m) : ∃ m0, m = m0 ∧ Fr h₀ L h m0 := ⟨m, rfl, F⟩
theorem news_one {h₀ h : Heap} {L D : Addr} {o : Obj} {r : List (Addr × Obj)} (_N : News h₀ L h ((D, o) :: r)) : ∃ D', D' = D := ⟨D, rfl⟩
noncomputable def JB (os : List Int) (m0 : Str → Option Value) (D : Addr) (i : Nat) (m : Str → Option Value) (news : List (Addr × Obj)) : Prop :=
  ∃ lb lc tb tc u vs n outs, m = mpB m0 D lb lc tb tc u ∧ news = [(D, { cls := .type "list", data := .seq (List.toArray vs) n })] ∧ IntsAre vs outs ∧ 0 ≤ lc ∧ lc < 65536 ∧ outs.length ≤ 2 * i ∧ B2 (os.take i) lc lb outs
theorem JB.mk {os : List Int} {m0 m : Str → Option Value} {D : Addr} {i : Nat} {news : List (Addr × Obj)} {lb lc : Int} {tb tc : Tok} {u : Option Value} {vs : List Value} {n : Nat} {outs : List Int} (e1 : m = mpB m0 D lb lc tb tc u) (e2 : news = [(D, { cls := .type "list", data := .seq (List.toArray vs) n })]) (e3 : IntsAre vs outs) (e4 : 0 ≤ lc) (e5 : lc < 65536) (e6 : outs.length ≤ 2 * i) (e7 : B2 (os.take i) lc lb outs) : JB os m0 D i m news :=
  ⟨lb, lc, tb, tc, u, vs, n, outs, e1, e2, e3, e4, e5, e6, e7⟩
theorem six_app : ∀ (dn r : List Int), dn.length % 3 = 0 → sixF (dn ++ r) = sixF dn ++ sixF r
  | [], r, _ => rfl
  | [a], r, h => by simp at h
  | [a, b], r, h => by simp at h
  | a :: b :: c :: d, r, h => by
    have ih := six_app d r (by simp only [List.length_cons] at h; omega)
    simp [sixF, ih]
theorem bints_arr {os : List Int} (hb : ∀ o ∈ os, 0 ≤ o ∧ o < 256) : KBw.bInts (byteArr os) = os := by
  unfold byteArr
  rw [KBw.ints_list, List.map_map]
  conv => rhs; rw [← List.map_id os]
  apply List.map_congr_left
  intro o ho
  have := hb o ho
  show ((o.toNat.toUInt8).toNat : Int) = o
  have e : (o.toNat.toUInt8).toNat = o.toNat := by
    show (UInt8.ofNat o.toNat).toNat = _
    rw [UInt8.toNat_ofNat']; omega
  rw [e]; omega
theorem and_half (x y : Int) : Builtin.bitAnd (x * 2) y = 2 * Builtin.bitAnd x (y / 2) := by
  rw [kbt_halves, Int.mul_ediv_cancel _ (by decide), Int.mul_emod_left, if_neg (fun h => absurd h.1 (by decide)), Int.add_zero]
theorem and_disj (lc k : Int) (hk : 0 ≤ k ∧ k < 256) : Builtin.bitAnd (lc * 256) k = 0 := by
  have z : ∀ x : Int, Builtin.bitAnd x 0 = 0 := fun x => by have := bitAnd_range x (y := 0) (by decide); omega
  rw [show lc * 256 = lc * 2 * 2 * 2 * 2 * 2 * 2 * 2 * 2 by simp only [Int.mul_assoc]; rfl, and_half, and_half, and_half, and_half, and_half, and_half, and_half, and_half,
    show k / 2 / 2 / 2 / 2 / 2 / 2 / 2 / 2 = 0 by rw [Int.ediv_ediv_of_nonneg (by decide), Int.ediv_ediv_of_nonneg (by decide), Int.ediv_ediv_of_nonneg (by decide), Int.ediv_ediv_of_nonneg (by decide), Int.ediv_ediv_of_nonneg (by decide), Int.ediv_ediv_of_nonneg (by decide), Int.ediv_ediv_of_nonneg (by decide)]; exact Int.ediv_eq_zero_of_lt hk.1 hk.2, z]
  rfl
theorem b64_item {prog : Program} {w : World} {A : Around} {E : Value → Shared → Prop} {s : Shared} {value slice : PySem.Expr} {b : Array UInt8} {t ui : Tok} {idx j : Int} {Q : Value → Shared → Prop} (e : idx = j) (h0 : 0 ≤ j) (h1 : j < 64)
    (hk : KBw.bInts b = signTab.map Int.ofNat) (h : ∀ t' k, Q (.int (tbl j) t') { s with toks := k })
    (hs : subscripted slice false (.bytes b t) (.int j ui) = operate [.bytes b t, .int j ui] (getItem (.bytes b t) (.int j ui)))
    (ht : ∀ r, letTemporaryGo value (.bytes b t) r = pure ()) : wpAny (model prog w) A (subscriptTail value slice (.bytes b t) (.int idx ui)) Q E s := by
  subst e
  refine KBw.item_K hk (by simp [signTab]) h0 (by simpa [signTab] using h1) (fun t' k _ _ => ?_) hs ht
  have e2 : (signTab.map Int.ofNat).getD idx.toNat 0 = tbl idx := by
    show _ = ((signTab.getD idx.toNat 0 : Nat) : Int)
    rw [List.getD_eq_getElem?_getD, List.getD_eq_getElem?_getD, List.getElem?_map]
    cases signTab[idx.toNat]? <;> rfl
  rw [e2]
  exact h t' k
theorem two_p (n : Nat) : (0 : Int) < 2 ^ n := Int.pow_pos (by decide)
theorem lc_eq {lc k : Int} (h0 : 0 ≤ lc) (hk : 0 ≤ k ∧ k < 256) : Builtin.bitAnd (Builtin.bitOr (lc * 2 ^ Int.toNat 8) k) 65535 = (lc * 256 + k) % 65536 := by
  rw [bitAnd_m16]
  have e : Builtin.bitOr (lc * 2 ^ Int.toNat 8) k = lc * 256 + k := by
    rw [show lc * 2 ^ Int.toNat 8 = lc * 256 from rfl, bitOr_and, and_disj lc k hk]; omega
  rw [e]
theorem mod16 {lc k : Int} (hk : 0 ≤ k ∧ k < 256) : (lc * 256 + k) % 65536 = lc % 256 * 256 + k := by omega
theorem md4 (lc : Int) : lc % 256 % 4 = lc % 4 := Int.emod_emod_of_dvd lc (by decide)
theorem md16 (lc : Int) : lc % 256 % 16 = lc % 16 := Int.emod_emod_of_dvd lc (by decide)
theorem ix0 {lc k : Int} (h0 : 0 ≤ lc) (hk : 0 ≤ k ∧ k < 256) : Builtin.bitAnd (Int.fdiv (Builtin.bitAnd (Builtin.bitOr (lc * 2 ^ Int.toNat 8) k) 65535) (2 ^ Int.toNat (0 + 8 - 6))) 63 = k / 4 := by
  rw [lc_eq h0 hk, bitAnd_m6, show (2 : Int) ^ Int.toNat (0 + 8 - 6) = 4 from by decide, Int.fdiv_eq_ediv_of_nonneg _ (by decide), mod16 hk,
    show lc % 256 * 256 = lc % 256 * 64 * 4 by rw [Int.mul_assoc]; rfl, Int.add_comm, Int.add_mul_ediv_right _ _ (by decide), Int.add_mul_emod_self_right, q4 hk]
theorem ix2 {lc k a : Int} (h0 : 0 ≤ lc) (hk : 0 ≤ k ∧ k < 256) (ha : lc % 4 = a % 4) : Builtin.bitAnd (Int.fdiv (Builtin.bitAnd (Builtin.bitOr (lc * 2 ^ Int.toNat 8) k) 65535) (2 ^ Int.toNat (2 + 8 - 6))) 63 = a % 4 * 16 + k / 16 := by
  rw [lc_eq h0 hk, bitAnd_m6, show (2 : Int) ^ Int.toNat (2 + 8 - 6) = 16 from by decide, Int.fdiv_eq_ediv_of_nonneg _ (by decide), mod16 hk, d16, lo16 _ (q16 hk).1 (q16 hk).2, md4, ha]
theorem ix4 {lc k a : Int} (h0 : 0 ≤ lc) (hk : 0 ≤ k ∧ k < 256) (ha : lc % 16 = a % 16) : Builtin.bitAnd (Int.fdiv (Builtin.bitAnd (Builtin.bitOr (lc * 2 ^ Int.toNat 8) k) 65535) (2 ^ Int.toNat (4 + 8 - 6))) 63 = a % 16 * 4 + k / 64 := by
  rw [lc_eq h0 hk, bitAnd_m6, show (2 : Int) ^ Int.toNat (4 + 8 - 6) = 64 from by decide, Int.fdiv_eq_ediv_of_nonneg _ (by decide), mod16 hk, d64, lo4 _ (q64 hk).1 (q64 hk).2, md16, ha]
theorem ix6 {lc k : Int} (h0 : 0 ≤ lc) (hk : 0 ≤ k ∧ k < 256) : Builtin.bitAnd (Int.fdiv (Builtin.bitAnd (Builtin.bitOr (lc * 2 ^ Int.toNat 8) k) 65535) (2 ^ Int.toNat (4 + 8 - 6 - 6))) 63 = k % 64 := by
  rw [lc_eq h0 hk, bitAnd_m6, show (2 : Int) ^ Int.toNat (4 + 8 - 6 - 6) = 1 from by decide, Int.fdiv_eq_ediv_of_nonneg _ (by decide), mod16 hk, Int.ediv_one, m64]
theorem and_small (x : Int) {y : Int} (h0 : 0 ≤ y) (h1 : y < 65536) : (Builtin.bitAnd x y).natAbs < 2 ^ 64 := by
  have := bitAnd_range x h0; omega
theorem TurnP.next {h₀ h' : Heap} {L I : Addr} {it : Obj} {J : (Str → Option Value) → List (Addr × Obj) → Prop} {s : Shared} {R : Result → Shared → Prop} {tk : Nat} {m' : Str → Option Value} {all news' : List (Addr × Obj)} (F : Fr h₀ L h' m') (N : News h₀ L h' all) (sub : ∀ p ∈ (I, it) :: news', p ∈ all) (off : ∀ p ∈ news', p.1 ≠ I) (hJ : J m' news') :
    TurnP h₀ L I it J s R .next { s with heap := h', toks := tk } := ⟨h', tk, m', news', rfl, F, fun p hp => N p (sub p hp), off, hJ⟩
theorem mpB_of {m' m0 : Str → Option Value} {D : Addr} {tb tc : Tok} {lb lc : Int} {u : Option Value} (e0 : m' (Str.ofString "b") = u) (e1 : m' (Str.ofString "leftchar") = some (.int lc tc)) (e2 : m' (Str.ofString "leftbits") = some (.int lb tb)) (e3 : m' (Str.ofString "out") = some (.ref D))
    (eo : ∀ y, y ≠ Str.ofString "b" → y ≠ Str.ofString "leftchar" → y ≠ Str.ofString "leftbits" → y ≠ Str.ofString "out" → m' y = m0 y) : m' = mpB m0 D lb lc tb tc u := by
  funext y
  by_cases h1 : y = Str.ofString "b"
  · subst h1; rw [e0]; rfl
  by_cases h2 : y = Str.ofString "leftchar"
  · subst h2; rw [e1]; rfl
  by_cases h3 : y = Str.ofString "leftbits"
  · subst h3; rw [e2]; rfl
  by_cases h4 : y = Str.ofString "out"
  · subst h4; rw [e3]; rfl
  rw [eo y h1 h2 h3 h4]
  simp only [mpB, if_neg h1, if_neg h2, if_neg h3, if_neg h4]
theorem lc_in {lc k : Int} (h0 : 0 ≤ lc) (hk : 0 ≤ k ∧ k < 256) : 0 ≤ Builtin.bitAnd (Builtin.bitOr (lc * 2 ^ Int.toNat 8) k) 65535 ∧ Builtin.bitAnd (Builtin.bitOr (lc * 2 ^ Int.toNat 8) k) 65535 < 65536 ∧ Builtin.bitAnd (Builtin.bitOr (lc * 2 ^ Int.toNat 8) k) 65535 % 4 = k % 4 ∧ Builtin.bitAnd (Builtin.bitOr (lc * 2 ^ Int.toNat 8) k) 65535 % 16 = k % 16 := by
  rw [lc_eq h0 hk]
  refine ⟨Int.emod_nonneg _ (by decide), Int.emod_lt_of_pos _ (by decide), ?_, ?_⟩
  · rw [Int.emod_emod_of_dvd _ (by decide), show lc * 256 = lc * 64 * 4 by rw [Int.mul_assoc]; rfl, Int.add_comm, Int.add_mul_emod_self_right]
  · rw [Int.emod_emod_of_dvd _ (by decide), m16]
theorem j0 {k : Int} (h : 0 ≤ k ∧ k < 256) : 0 ≤ k / 4 ∧ k / 4 < 64 := b1 (fun k => 0 ≤ k / 4 ∧ k / 4 < 64) (by decide +kernel) h
theorem jl {q : Int} (a : Int) (h : 0 ≤ q ∧ q < 16) : 0 ≤ a % 4 * 16 + q ∧ a % 4 * 16 + q < 64 := by omega
theorem jh {q : Int} (a : Int) (h : 0 ≤ q ∧ q < 4) : 0 ≤ a % 16 * 4 + q ∧ a % 16 * 4 + q < 64 := by omega
theorem j2 {a k : Int} (h : 0 ≤ k ∧ k < 256) : 0 ≤ a % 4 * 16 + k / 16 ∧ a % 4 * 16 + k / 16 < 64 := jl a (q16 h)
theorem j4 {a k : Int} (h : 0 ≤ k ∧ k < 256) : 0 ≤ a % 16 * 4 + k / 64 ∧ a % 16 * 4 + k / 64 < 64 := jh a (q64 h)
theorem j6 {k : Int} : 0 ≤ k % 64 ∧ k % 64 < 64 := ⟨Int.emod_nonneg _ (by decide), Int.emod_lt_of_pos _ (by decide)⟩
theorem jA {a : Int} : 0 ≤ a % 4 * 16 ∧ a % 4 * 16 < 64 := by have := jl a (q := 0) (by decide); rwa [Int.add_zero] at this
theorem jB {a : Int} : 0 ≤ a % 16 * 4 ∧ a % 16 * 4 < 64 := by have := jh a (q := 0) (by decide); rwa [Int.add_zero] at this
theorem ixA {lc a : Int} (ha : lc % 4 = a % 4) : Builtin.bitAnd lc 3 * 2 ^ Int.toNat 4 = a % 4 * 16 := by
  rw [bitAnd_m2, show (2 : Int) ^ Int.toNat 4 = 16 from rfl, ha]
theorem ixB {lc a : Int} (ha : lc % 16 = a % 16) : Builtin.bitAnd lc 15 * 2 ^ Int.toNat 2 = a % 16 * 4 := by
  rw [bitAnd_m4, show (2 : Int) ^ Int.toNat 2 = 4 from rfl, ha]
theorem B2_0 {pre dn : List Int} {k lc : Int} (hp : pre = dn) (h3 : dn.length % 3 = 0) (hl : lc % 4 = k % 4) : B2 (pre ++ [k]) lc 2 ((sixF dn).map tbl ++ [tbl (k / 4)]) :=
  ⟨dn, [k], by rw [hp], h3, .inr (.inl ⟨k, rfl, rfl, hl, rfl⟩)⟩
theorem B2_2 {pre dn : List Int} {a k lc : Int} (hp : pre = dn ++ [a]) (h3 : dn.length % 3 = 0) (hl : lc % 16 = k % 16) : B2 (pre ++ [k]) lc 4 ((sixF dn).map tbl ++ [tbl (a / 4), tbl (a % 4 * 16 + k / 16)]) :=
  ⟨dn, [a, k], by rw [hp]; simp, h3, .inr (.inr ⟨a, k, rfl, rfl, hl, rfl⟩)⟩
theorem B2_4 {pre dn : List Int} {a b k lc : Int} (hp : pre = dn ++ [a, b]) (h3 : dn.length % 3 = 0) : B2 (pre ++ [k]) lc 0 ((sixF dn).map tbl ++ [tbl (a / 4), tbl (a % 4 * 16 + b / 16), tbl (b % 16 * 4 + k / 64), tbl (k % 64)]) :=
  ⟨dn ++ [a, b, k], [], by rw [hp]; simp, by simp; omega, .inl ⟨rfl, rfl, by rw [six_app _ _ h3]; simp [sixF]⟩⟩
theorem tbl_map (l : List Int) : l.map tbl = (l.map sgn).map Int.ofNat := by rw [List.map_map]; rfl
theorem codes0 {dn : List Int} (h : dn.length % 3 = 0) : (codes dn).map Int.ofNat = (sixF dn).map tbl := by
  unfold codes
  rw [show (-(dn.length : Int) % 3).toNat = 0 by omega]
  simp [tbl_map]
theorem codes1 {dn : List Int} {a : Int} (h : dn.length % 3 = 0) : (codes (dn ++ [a])).map Int.ofNat = (sixF dn).map tbl ++ [tbl (a / 4)] ++ [tbl (a % 4 * 16), 61, 61] := by
  unfold codes
  rw [six_app _ _ h, show (-((dn ++ [a]).length : Int) % 3).toNat = 2 by simp; omega]
  simp [tbl_map, sixF, List.replicate, tbl]
theorem codes2 {dn : List Int} {a b : Int} (h : dn.length % 3 = 0) : (codes (dn ++ [a, b])).map Int.ofNat = (sixF dn).map tbl ++ [tbl (a / 4), tbl (a % 4 * 16 + b / 16)] ++ [tbl (b % 16 * 4), 61] := by
  unfold codes
  rw [six_app _ _ h, show (-((dn ++ [a, b]).length : Int) % 3).toNat = 1 by simp; omega]
  simp [tbl_map, sixF, List.replicate, tbl]
theorem sgn_in (k : Int) : 0 ≤ tbl k ∧ tbl k < 256 := by
  unfold tbl sgn
  rw [List.getD_eq_getElem?_getD]
  cases h : signTab[k.toNat]? with
  | none => exact ⟨by decide, by decide⟩
  | some c =>
    have hc := List.mem_of_getElem? h
    have : ∀ c ∈ signTab, c < 256 := by decide +kernel
    have := this c hc
    simp; omega
theorem codes_in (os : List Int) : ∀ k ∈ (codes os).map Int.ofNat, 0 ≤ k ∧ k < 256 := by
  intro k hk
  obtain ⟨c, hc, rfl⟩ := List.mem_map.mp hk
  unfold codes at hc
  rcases List.mem_append.mp hc with hc | hc
  · obtain ⟨j, _, rfl⟩ := List.mem_map.mp hc
    exact sgn_in j
  · rw [(List.mem_replicate.mp hc).2]; decide
theorem codes_len (os : List Int) : (codes os).length ≤ os.length * 2 + 3 := by
  unfold codes
  have := six_len os
  simp only [List.length_append, List.length_map, List.length_replicate]
  omega
theorem bytes_end {prog : Program} {w : World} {A : Around} {E : Value → Shared → Prop} {s : Shared} {h₀ : Heap} {L D : Addr} {m : Str → Option Value} {news : List (Addr × Obj)} {vs : List Value} {os ns : List Int} {Q : Value → Shared → Prop} (F : Fr h₀ L s.heap m) (N : News h₀ L s.heap news) (hh : A.handled = none) (hl : s.heap.IsList D vs.toArray) (hi : IntsAre vs ns) (e : ns = (codes os).map Int.ofNat) (hn : os.length ≤ 5)
    (h : ∀ h' t' k, Fr h₀ L h' m → Q (.bytes (byteArr ((codes os).map Int.ofNat)) t') { s with heap := h', toks := k }) : wpAny (model prog w) A (call (.type "bytes") [.ref D]) Q E s := by
  subst e
  exact KBa.make_K F N hh hl hi (codes_in os) (by have := codes_len os; rw [List.length_map]; omega) fun h' t' k F' _ _ => h h' t' k F'
set_option maxHeartbeats 8000000 in
theorem c_b2a {w : World} {A : Around} {s : Shared} {Q E : Value → Shared → Prop} {loose : List Str} {mean : ExcName → Option Value} {mg mb : Str → Option Value}
    (X : (hd.heap_1 w.params).In s.heap) (T : Top topProg loose mean mg mb s.heap) (hh : A.handled = none) (hr : A.depth + 6 < recursionLimit) (hu : A.units + 40 < cLine) (os : List Int) (t : Tok) (hb : ∀ o ∈ os, 0 ≤ o ∧ o < 256) (hn : os.length ≤ 5)
    (hQ : ∀ t' h' tk', Ext s.heap h' → Q (.bytes (byteArr ((codes os).map Int.ofNat)) t') { s with heap := h', toks := tk' }) :
    wpAny (model prg w) A (call (.ref 87) [.bytes (byteArr os) t] [(Str.ofString "newline", .bool false)]) Q E s := by
  obtain ⟨hd', dp, fr, gd, un⟩ := A
  dsimp only at hh hr hu
  subst hh
  refine' pcall X T ?k6 ?k7 (Nat.lt_of_le_of_lt (Nat.le_add_right _ _) hr) ?k9 ?kB ?c2 ?c3 ?c4 ?c5 ?_
  case k6 => k_is
  case k7 => k_is
  case k9 => first | exact BindsTo.of_eq rfl | exact binds_K X rfl (by k_is) rfl rfl rfl
  case c5 => decide
  case kB => exact locs rfl
  case c2 => exact rfl
  case c3 => exact rfl
  case c4 => exact rfl
  intro L' h' F N envL AL
  refine letM F ?_
  clear F
  intro mL F
  (try dsimp only)
  show wpAny _ _ _ _ _ _
  k_fold
  (repeat' (first | ((try k_unmd); k_unfold; first | (with_reducible (first | refine after_nil ?_ | refine after_next ?_ | refine after_ret ?_ | refine after_brk ?_ | refine after_cont ?_)) | (try dsimp only [List.cons_append, List.nil_append])) | ((with_reducible show wpAny _ _ (exec (Stmt.For _ (PySem.Expr.Name _ _) _ _ _) _) _ _ _); ((k_dflt (refine for_any ?_)))) | ((with_reducible show wpAny _ _ (exec (Stmt.For _ _ _ _ _) _) _ _ _); ((k_dflt (refine for_any ?_)))) | ((with_reducible show wpAny _ _ (subscriptTail (PySem.Expr.Name _ _) (PySem.Expr.BinOp _ _ _ _) (Value.bytes _ _) (Value.int _ _)) _ _ _); (((k_dflt (first | refine b64_item (ix0 (by assumption) (by assumption)) (And.left (j0 (by assumption))) (And.right (j0 (by assumption))) (by decide +kernel) ?_ (by with_unfolding_all rfl) (by intro _; with_unfolding_all rfl) | refine b64_item (ix2 (by assumption) (by assumption) (by assumption)) (And.left (j2 (by assumption))) (And.right (j2 (by assumption))) (by decide +kernel) ?_ (by with_unfolding_all rfl) (by intro _; with_unfolding_all rfl) | refine b64_item (ix4 (by assumption) (by assumption) (by assumption)) (And.left (j4 (by assumption))) (And.right (j4 (by assumption))) (by decide +kernel) ?_ (by with_unfolding_all rfl) (by intro _; with_unfolding_all rfl) | refine b64_item (ix6 (by assumption) (by assumption)) (And.left (j6)) (And.right (j6)) (by decide +kernel) ?_ (by with_unfolding_all rfl) (by intro _; with_unfolding_all rfl) | refine b64_item (ixA (by assumption)) (And.left (jA)) (And.right (jA)) (by decide +kernel) ?_ (by with_unfolding_all rfl) (by intro _; with_unfolding_all rfl) | refine b64_item (ixB (by assumption)) (And.left (jB)) (And.right (jB)) (by decide +kernel) ?_ (by with_unfolding_all rfl) (by intro _; with_unfolding_all rfl))); intro t8 k8; (try dsimp only)))) | ((with_reducible show wpAny _ _ (binaryOp Operator.LShift (Value.int _ _) (Value.int _ _)) _ _ _); ((refine lshift_int_small (by decide) (by decide) (by first | omega | exact and_small _ (by decide) (by decide)) ?_))) | ((with_reducible show wpAny _ _ (binaryOp Operator.Mod (Value.int _ _) (Value.int _ _)) _ _ _); ((refine md_pos (by decide) ?_))) | ((with_reducible show wpAny _ _ (binaryOp Operator.RShift (Value.int _ _) (Value.int _ _)) _ _ _); (refine rshift_int (by decide) ?_)) | ((with_reducible show wpAny _ _ (call (Value.ref _) _ _) _ _ _); (first | (refine' c_buffer ?cx ?ct rfl ?cr ?cu _ _ ?_; (case cx => ((first | assumption | exact Frag.In.keeps (by assumption) (Fr.keep (by assumption))))); (case ct => ((first | assumption | exact Top.keeps (by assumption) (Fr.keep (by assumption))))); (case cr => ((simp +zetaDelta only [depth_deeper, units_deeper]; omega))); (case cu => ((simp +zetaDelta only [depth_deeper, units_deeper]; omega))); intro t9 h9 tk9 hx9; (((rename Fr _ _ _ _ => F9); (rename News _ _ _ _ => N9); (rename Ext _ _ => hx9); (have F8 := fr_ext F9 hx9); (have N8 := news_ext N9 hx9); clear F9 N9 hx9; (try dsimp only); (try k_fold)))) | (refine' c_truth ?cx ?ct rfl ?cr ?cu ?_; (case cx => ((first | assumption | exact Frag.In.keeps (by assumption) (Fr.keep (by assumption))))); (case ct => ((first | assumption | exact Top.keeps (by assumption) (Fr.keep (by assumption))))); (case cr => ((simp +zetaDelta only [depth_deeper, units_deeper]; omega))); (case cu => ((simp +zetaDelta only [depth_deeper, units_deeper]; omega))); intro h9 tk9 hx9; (((rename Fr _ _ _ _ => F9); (rename News _ _ _ _ => N9); (rename Ext _ _ => hx9); (have F8 := fr_ext F9 hx9); (have N8 := news_ext N9 hx9); clear F9 N9 hx9; (try dsimp only); (try k_fold)))))) | ((with_reducible show wpAny _ _ (execs (_ :: _) _) _ _ _); ((refine execs_f ?_; intro qk))) | ((with_reducible show wpAny _ _ (storeName _ _ _) _ _ _); ((k_dflt (refine' store_f ?F ?N ?b ?a ?_; (case F => k_asm); (case N => k_asm); (case b => rfl); (case a => rfl); k_whole; intro m' h' F' N'; (try k_sweep))))) | (k_end; wrow_close) | walk1 | dsimp only | (leave1; try dsimp only)))
  (rename Fr _ _ _ _ => F9)
  (rename News _ _ _ _ => N9)
  obtain ⟨m0, hm0, F8⟩ := fr_name F9
  obtain ⟨D9, hD9⟩ := news_one N9
  refine iter_bytes (by rfl) (JB os m0 D9) F8 N9 ?_ ?_ ?_
  · obtain ⟨tc, e1⟩ : ∃ tc, m0 (Str.ofString "leftchar") = some (.int 0 tc) := by subst hm0; exact ⟨_, rfl⟩
    obtain ⟨tb, e2⟩ : ∃ tb, m0 (Str.ofString "leftbits") = some (.int 0 tb) := by subst hm0; exact ⟨_, rfl⟩
    have e3 : m0 (Str.ofString "out") = some (.ref D9) := by subst hm0; subst hD9; exact rfl
    refine ⟨0, 0, tb, tc, m0 (Str.ofString "b"), [], 0, [], mpB_start e1 e2 e3, ?_, .nil, by decide, by decide, Nat.le_refl _, [], [], rfl, rfl, .inl ⟨rfl, rfl, rfl⟩⟩
    subst hD9; rfl
  · intro i k u m₁ news₁ I it h tk hk hI hJ off F N
    refine hideG ?_
    intro q9
    obtain ⟨lb, lc, tb, tc, u', vs, n, outs, rfl, rfl, hvs, hl0, hl1, hlen, hB⟩ := hJ
    rw [bints_arr hb] at hk
    have hkb : 0 ≤ k ∧ k < 256 := hb k (List.mem_of_getElem? hk)
    have hil : i < os.length := (List.getElem?_eq_some_iff.mp hk).1
    have htk : os.take (i + 1) = os.take i ++ [k] := by rw [List.take_add_one, hk]; rfl
    clear F8 F9 N9
    have hDI : (@Ne Nat D9 I) := off _ (List.Mem.head _)
    have hvl : vs.length ≤ 10 := by rw [hvs.length]; omega
    obtain ⟨q1, q2, q3, q4⟩ := lc_in hl0 hkb
    obtain ⟨dn, rest, hpre, hd3, ⟨hr, hlb, ho⟩ | ⟨a, hr, hlb, ha, ho⟩ | ⟨a, b, hr, hlb, ha, ho⟩⟩ := hB <;> subst hlb hr
    · (try k_unmd)
      k_unfold
      refine letM F ?_
      clear F
      intro mT F
      (repeat' (first | ((try k_unmd); k_unfold; first | (with_reducible (first | refine after_nil ?_ | refine after_next ?_ | refine after_ret ?_ | refine after_brk ?_ | refine after_cont ?_)) | (try dsimp only [List.cons_append, List.nil_append])) | ((with_reducible show wpAny _ _ (exec (Stmt.For _ (PySem.Expr.Name _ _) _ _ _) _) _ _ _); ((k_dflt (refine for_any ?_)))) | ((with_reducible show wpAny _ _ (exec (Stmt.For _ _ _ _ _) _) _ _ _); ((k_dflt (refine for_any ?_)))) | ((with_reducible show wpAny _ _ (subscriptTail (PySem.Expr.Name _ _) (PySem.Expr.BinOp _ _ _ _) (Value.bytes _ _) (Value.int _ _)) _ _ _); (((k_dflt (first | refine b64_item (ix0 (by assumption) (by assumption)) (And.left (j0 (by assumption))) (And.right (j0 (by assumption))) (by decide +kernel) ?_ (by with_unfolding_all rfl) (by intro _; with_unfolding_all rfl) | refine b64_item (ix2 (by assumption) (by assumption) (by assumption)) (And.left (j2 (by assumption))) (And.right (j2 (by assumption))) (by decide +kernel) ?_ (by with_unfolding_all rfl) (by intro _; with_unfolding_all rfl) | refine b64_item (ix4 (by assumption) (by assumption) (by assumption)) (And.left (j4 (by assumption))) (And.right (j4 (by assumption))) (by decide +kernel) ?_ (by with_unfolding_all rfl) (by intro _; with_unfolding_all rfl) | refine b64_item (ix6 (by assumption) (by assumption)) (And.left (j6)) (And.right (j6)) (by decide +kernel) ?_ (by with_unfolding_all rfl) (by intro _; with_unfolding_all rfl) | refine b64_item (ixA (by assumption)) (And.left (jA)) (And.right (jA)) (by decide +kernel) ?_ (by with_unfolding_all rfl) (by intro _; with_unfolding_all rfl) | refine b64_item (ixB (by assumption)) (And.left (jB)) (And.right (jB)) (by decide +kernel) ?_ (by with_unfolding_all rfl) (by intro _; with_unfolding_all rfl))); intro t8 k8; (try dsimp only)))) | ((with_reducible show wpAny _ _ (binaryOp Operator.LShift (Value.int _ _) (Value.int _ _)) _ _ _); ((refine lshift_int_small (by decide) (by decide) (by first | omega | exact and_small _ (by decide) (by decide)) ?_))) | ((with_reducible show wpAny _ _ (binaryOp Operator.Mod (Value.int _ _) (Value.int _ _)) _ _ _); ((refine md_pos (by decide) ?_))) | ((with_reducible show wpAny _ _ (binaryOp Operator.RShift (Value.int _ _) (Value.int _ _)) _ _ _); (refine rshift_int (by decide) ?_)) | ((with_reducible show wpAny _ _ (call (Value.ref _) _ _) _ _ _); (first | (refine' c_buffer ?cx ?ct rfl ?cr ?cu _ _ ?_; (case cx => ((first | assumption | exact Frag.In.keeps (by assumption) (Fr.keep (by assumption))))); (case ct => ((first | assumption | exact Top.keeps (by assumption) (Fr.keep (by assumption))))); (case cr => ((simp +zetaDelta only [depth_deeper, units_deeper]; omega))); (case cu => ((simp +zetaDelta only [depth_deeper, units_deeper]; omega))); intro t9 h9 tk9 hx9; (((rename Fr _ _ _ _ => F9); (rename News _ _ _ _ => N9); (rename Ext _ _ => hx9); (have F8 := fr_ext F9 hx9); (have N8 := news_ext N9 hx9); clear F9 N9 hx9; (try dsimp only); (try k_fold)))) | (refine' c_truth ?cx ?ct rfl ?cr ?cu ?_; (case cx => ((first | assumption | exact Frag.In.keeps (by assumption) (Fr.keep (by assumption))))); (case ct => ((first | assumption | exact Top.keeps (by assumption) (Fr.keep (by assumption))))); (case cr => ((simp +zetaDelta only [depth_deeper, units_deeper]; omega))); (case cu => ((simp +zetaDelta only [depth_deeper, units_deeper]; omega))); intro h9 tk9 hx9; (((rename Fr _ _ _ _ => F9); (rename News _ _ _ _ => N9); (rename Ext _ _ => hx9); (have F8 := fr_ext F9 hx9); (have N8 := news_ext N9 hx9); clear F9 N9 hx9; (try dsimp only); (try k_fold)))))) | ((with_reducible show wpAny _ _ (execs (_ :: _) _) _ _ _); ((refine execs_f ?_; intro qk))) | ((with_reducible show wpAny _ _ (storeName _ _ _) _ _ _); ((k_dflt (refine' store_f ?F ?N ?b ?a ?_; (case F => k_asm); (case N => k_asm); (case b => rfl); (case a => rfl); k_whole; intro m' h' F' N'; (try k_sweep))))) | (k_end; wrow_close) | walk1 | dsimp only | (leave1; try dsimp only)))
      (rename Fr _ _ _ _ => F7)
      (rename News _ _ _ _ => N7)
      refine TurnP.next F7 N7 (fun p hp => hp) (fun p hp => by rw [List.mem_singleton.mp hp]; exact hDI) (JB.mk (lb := 2) (vs := vs ++ [_]) (n := n + 1) (outs := outs ++ [tbl (k / 4)]) (mpB_of rfl rfl rfl rfl (fun y h1 h2 h3 h4 => by simp +zetaDelta only [mpB, if_neg h1, if_neg h2, if_neg h3, if_neg h4])) (by rw [← List.push_toArray]) (hvs.append (.cons _ _ .nil)) q1 q2 ?_ ?_)
      · simp; omega
      · rw [htk, ho]; exact B2_0 (by simpa using hpre) hd3 q3
    · (try k_unmd)
      k_unfold
      refine letM F ?_
      clear F
      intro mT F
      (repeat' (first | ((try k_unmd); k_unfold; first | (with_reducible (first | refine after_nil ?_ | refine after_next ?_ | refine after_ret ?_ | refine after_brk ?_ | refine after_cont ?_)) | (try dsimp only [List.cons_append, List.nil_append])) | ((with_reducible show wpAny _ _ (exec (Stmt.For _ (PySem.Expr.Name _ _) _ _ _) _) _ _ _); ((k_dflt (refine for_any ?_)))) | ((with_reducible show wpAny _ _ (exec (Stmt.For _ _ _ _ _) _) _ _ _); ((k_dflt (refine for_any ?_)))) | ((with_reducible show wpAny _ _ (subscriptTail (PySem.Expr.Name _ _) (PySem.Expr.BinOp _ _ _ _) (Value.bytes _ _) (Value.int _ _)) _ _ _); (((k_dflt (first | refine b64_item (ix0 (by assumption) (by assumption)) (And.left (j0 (by assumption))) (And.right (j0 (by assumption))) (by decide +kernel) ?_ (by with_unfolding_all rfl) (by intro _; with_unfolding_all rfl) | refine b64_item (ix2 (by assumption) (by assumption) (by assumption)) (And.left (j2 (by assumption))) (And.right (j2 (by assumption))) (by decide +kernel) ?_ (by with_unfolding_all rfl) (by intro _; with_unfolding_all rfl) | refine b64_item (ix4 (by assumption) (by assumption) (by assumption)) (And.left (j4 (by assumption))) (And.right (j4 (by assumption))) (by decide +kernel) ?_ (by with_unfolding_all rfl) (by intro _; with_unfolding_all rfl) | refine b64_item (ix6 (by assumption) (by assumption)) (And.left (j6)) (And.right (j6)) (by decide +kernel) ?_ (by with_unfolding_all rfl) (by intro _; with_unfolding_all rfl) | refine b64_item (ixA (by assumption)) (And.left (jA)) (And.right (jA)) (by decide +kernel) ?_ (by with_unfolding_all rfl) (by intro _; with_unfolding_all rfl) | refine b64_item (ixB (by assumption)) (And.left (jB)) (And.right (jB)) (by decide +kernel) ?_ (by with_unfolding_all rfl) (by intro _; with_unfolding_all rfl))); intro t8 k8; (try dsimp only)))) | ((with_reducible show wpAny _ _ (binaryOp Operator.LShift (Value.int _ _) (Value.int _ _)) _ _ _); ((refine lshift_int_small (by decide) (by decide) (by first | omega | exact and_small _ (by decide) (by decide)) ?_))) | ((with_reducible show wpAny _ _ (binaryOp Operator.Mod (Value.int _ _) (Value.int _ _)) _ _ _); ((refine md_pos (by decide) ?_))) | ((with_reducible show wpAny _ _ (binaryOp Operator.RShift (Value.int _ _) (Value.int _ _)) _ _ _); (refine rshift_int (by decide) ?_)) | ((with_reducible show wpAny _ _ (call (Value.ref _) _ _) _ _ _); (first | (refine' c_buffer ?cx ?ct rfl ?cr ?cu _ _ ?_; (case cx => ((first | assumption | exact Frag.In.keeps (by assumption) (Fr.keep (by assumption))))); (case ct => ((first | assumption | exact Top.keeps (by assumption) (Fr.keep (by assumption))))); (case cr => ((simp +zetaDelta only [depth_deeper, units_deeper]; omega))); (case cu => ((simp +zetaDelta only [depth_deeper, units_deeper]; omega))); intro t9 h9 tk9 hx9; (((rename Fr _ _ _ _ => F9); (rename News _ _ _ _ => N9); (rename Ext _ _ => hx9); (have F8 := fr_ext F9 hx9); (have N8 := news_ext N9 hx9); clear F9 N9 hx9; (try dsimp only); (try k_fold)))) | (refine' c_truth ?cx ?ct rfl ?cr ?cu ?_; (case cx => ((first | assumption | exact Frag.In.keeps (by assumption) (Fr.keep (by assumption))))); (case ct => ((first | assumption | exact Top.keeps (by assumption) (Fr.keep (by assumption))))); (case cr => ((simp +zetaDelta only [depth_deeper, units_deeper]; omega))); (case cu => ((simp +zetaDelta only [depth_deeper, units_deeper]; omega))); intro h9 tk9 hx9; (((rename Fr _ _ _ _ => F9); (rename News _ _ _ _ => N9); (rename Ext _ _ => hx9); (have F8 := fr_ext F9 hx9); (have N8 := news_ext N9 hx9); clear F9 N9 hx9; (try dsimp only); (try k_fold)))))) | ((with_reducible show wpAny _ _ (execs (_ :: _) _) _ _ _); ((refine execs_f ?_; intro qk))) | ((with_reducible show wpAny _ _ (storeName _ _ _) _ _ _); ((k_dflt (refine' store_f ?F ?N ?b ?a ?_; (case F => k_asm); (case N => k_asm); (case b => rfl); (case a => rfl); k_whole; intro m' h' F' N'; (try k_sweep))))) | (k_end; wrow_close) | walk1 | dsimp only | (leave1; try dsimp only)))
      (rename Fr _ _ _ _ => F7)
      (rename News _ _ _ _ => N7)
      refine TurnP.next F7 N7 (fun p hp => hp) (fun p hp => by rw [List.mem_singleton.mp hp]; exact hDI) (JB.mk (lb := 4) (vs := vs ++ [_]) (n := n + 1) (outs := outs ++ [tbl (a % 4 * 16 + k / 16)]) (mpB_of rfl rfl rfl rfl (fun y h1 h2 h3 h4 => by simp +zetaDelta only [mpB, if_neg h1, if_neg h2, if_neg h3, if_neg h4])) (by rw [← List.push_toArray]) (hvs.append (.cons _ _ .nil)) q1 q2 ?_ ?_)
      · simp; omega
      · rw [htk, ho, List.append_assoc]; exact B2_2 hpre hd3 q4
    · (try k_unmd)
      k_unfold
      refine letM F ?_
      clear F
      intro mT F
      (repeat' (first | ((try k_unmd); k_unfold; first | (with_reducible (first | refine after_nil ?_ | refine after_next ?_ | refine after_ret ?_ | refine after_brk ?_ | refine after_cont ?_)) | (try dsimp only [List.cons_append, List.nil_append])) | ((with_reducible show wpAny _ _ (exec (Stmt.For _ (PySem.Expr.Name _ _) _ _ _) _) _ _ _); ((k_dflt (refine for_any ?_)))) | ((with_reducible show wpAny _ _ (exec (Stmt.For _ _ _ _ _) _) _ _ _); ((k_dflt (refine for_any ?_)))) | ((with_reducible show wpAny _ _ (subscriptTail (PySem.Expr.Name _ _) (PySem.Expr.BinOp _ _ _ _) (Value.bytes _ _) (Value.int _ _)) _ _ _); (((k_dflt (first | refine b64_item (ix0 (by assumption) (by assumption)) (And.left (j0 (by assumption))) (And.right (j0 (by assumption))) (by decide +kernel) ?_ (by with_unfolding_all rfl) (by intro _; with_unfolding_all rfl) | refine b64_item (ix2 (by assumption) (by assumption) (by assumption)) (And.left (j2 (by assumption))) (And.right (j2 (by assumption))) (by decide +kernel) ?_ (by with_unfolding_all rfl) (by intro _; with_unfolding_all rfl) | refine b64_item (ix4 (by assumption) (by assumption) (by assumption)) (And.left (j4 (by assumption))) (And.right (j4 (by assumption))) (by decide +kernel) ?_ (by with_unfolding_all rfl) (by intro _; with_unfolding_all rfl) | refine b64_item (ix6 (by assumption) (by assumption)) (And.left (j6)) (And.right (j6)) (by decide +kernel) ?_ (by with_unfolding_all rfl) (by intro _; with_unfolding_all rfl) | refine b64_item (ixA (by assumption)) (And.left (jA)) (And.right (jA)) (by decide +kernel) ?_ (by with_unfolding_all rfl) (by intro _; with_unfolding_all rfl) | refine b64_item (ixB (by assumption)) (And.left (jB)) (And.right (jB)) (by decide +kernel) ?_ (by with_unfolding_all rfl) (by intro _; with_unfolding_all rfl))); intro t8 k8; (try dsimp only)))) | ((with_reducible show wpAny _ _ (binaryOp Operator.LShift (Value.int _ _) (Value.int _ _)) _ _ _); ((refine lshift_int_small (by decide) (by decide) (by first | omega | exact and_small _ (by decide) (by decide)) ?_))) | ((with_reducible show wpAny _ _ (binaryOp Operator.Mod (Value.int _ _) (Value.int _ _)) _ _ _); ((refine md_pos (by decide) ?_))) | ((with_reducible show wpAny _ _ (binaryOp Operator.RShift (Value.int _ _) (Value.int _ _)) _ _ _); (refine rshift_int (by decide) ?_)) | ((with_reducible show wpAny _ _ (call (Value.ref _) _ _) _ _ _); (first | (refine' c_buffer ?cx ?ct rfl ?cr ?cu _ _ ?_; (case cx => ((first | assumption | exact Frag.In.keeps (by assumption) (Fr.keep (by assumption))))); (case ct => ((first | assumption | exact Top.keeps (by assumption) (Fr.keep (by assumption))))); (case cr => ((simp +zetaDelta only [depth_deeper, units_deeper]; omega))); (case cu => ((simp +zetaDelta only [depth_deeper, units_deeper]; omega))); intro t9 h9 tk9 hx9; (((rename Fr _ _ _ _ => F9); (rename News _ _ _ _ => N9); (rename Ext _ _ => hx9); (have F8 := fr_ext F9 hx9); (have N8 := news_ext N9 hx9); clear F9 N9 hx9; (try dsimp only); (try k_fold)))) | (refine' c_truth ?cx ?ct rfl ?cr ?cu ?_; (case cx => ((first | assumption | exact Frag.In.keeps (by assumption) (Fr.keep (by assumption))))); (case ct => ((first | assumption | exact Top.keeps (by assumption) (Fr.keep (by assumption))))); (case cr => ((simp +zetaDelta only [depth_deeper, units_deeper]; omega))); (case cu => ((simp +zetaDelta only [depth_deeper, units_deeper]; omega))); intro h9 tk9 hx9; (((rename Fr _ _ _ _ => F9); (rename News _ _ _ _ => N9); (rename Ext _ _ => hx9); (have F8 := fr_ext F9 hx9); (have N8 := news_ext N9 hx9); clear F9 N9 hx9; (try dsimp only); (try k_fold)))))) | ((with_reducible show wpAny _ _ (execs (_ :: _) _) _ _ _); ((refine execs_f ?_; intro qk))) | ((with_reducible show wpAny _ _ (storeName _ _ _) _ _ _); ((k_dflt (refine' store_f ?F ?N ?b ?a ?_; (case F => k_asm); (case N => k_asm); (case b => rfl); (case a => rfl); k_whole; intro m' h' F' N'; (try k_sweep))))) | (k_end; wrow_close) | walk1 | dsimp only | (leave1; try dsimp only)))
      (rename Fr _ _ _ _ => F7)
      (rename News _ _ _ _ => N7)
      refine TurnP.next F7 N7 (fun p hp => hp) (fun p hp => by rw [List.mem_singleton.mp hp]; exact hDI) (JB.mk (lb := 0) (vs := vs ++ [_, _]) (n := n + 2) (outs := outs ++ [tbl (b % 16 * 4 + k / 64), tbl (k % 64)]) (mpB_of rfl rfl rfl rfl (fun y h1 h2 h3 h4 => by simp +zetaDelta only [mpB, if_neg h1, if_neg h2, if_neg h3, if_neg h4])) (by rw [List.push_toArray, List.push_toArray, List.append_assoc]; rfl) (hvs.append (.cons _ _ (.cons _ _ .nil))) q1 q2 ?_ ?_)
      · simp; omega
      · rw [htk, ho, List.append_assoc]; exact B2_4 hpre hd3
  · intro h tk m₁ news₁ hJ F N
    refine hideG ?_
    intro q9
    obtain ⟨lb, lc, tb, tc, u', vs, n, outs, rfl, rfl, hvs, hl0, hl1, hlen, hB⟩ := hJ
    clear F8 F9 N9
    subst hm0
    rw [byteArr_size] at hlen hB
    rw [List.take_length] at hB
    have hvl : vs.length ≤ 10 := by rw [hvs.length]; omega
    obtain ⟨dn, rest, hpre, hd3, ⟨hr, hlb, ho⟩ | ⟨a, hr, hlb, ha, ho⟩ | ⟨a, b, hr, hlb, ha, ho⟩⟩ := hB <;> subst hlb hr
    · (try k_unmd)
      k_unfold
      refine letM F ?_
      clear F
      intro mT F
      try dsimp only
      (repeat' (first | ((try k_unmd); k_unfold; first | (with_reducible (first | refine after_nil ?_ | refine after_next ?_ | refine after_ret ?_ | refine after_brk ?_ | refine after_cont ?_)) | (try dsimp only [List.cons_append, List.nil_append])) | ((with_reducible show wpAny _ _ (exec (Stmt.For _ (PySem.Expr.Name _ _) _ _ _) _) _ _ _); ((k_dflt (refine for_any ?_)))) | ((with_reducible show wpAny _ _ (exec (Stmt.For _ _ _ _ _) _) _ _ _); ((k_dflt (refine for_any ?_)))) | ((with_reducible show wpAny _ _ (subscriptTail (PySem.Expr.Name _ _) (PySem.Expr.BinOp _ _ _ _) (Value.bytes _ _) (Value.int _ _)) _ _ _); (((k_dflt (first | refine b64_item (ix0 (by assumption) (by assumption)) (And.left (j0 (by assumption))) (And.right (j0 (by assumption))) (by decide +kernel) ?_ (by with_unfolding_all rfl) (by intro _; with_unfolding_all rfl) | refine b64_item (ix2 (by assumption) (by assumption) (by assumption)) (And.left (j2 (by assumption))) (And.right (j2 (by assumption))) (by decide +kernel) ?_ (by with_unfolding_all rfl) (by intro _; with_unfolding_all rfl) | refine b64_item (ix4 (by assumption) (by assumption) (by assumption)) (And.left (j4 (by assumption))) (And.right (j4 (by assumption))) (by decide +kernel) ?_ (by with_unfolding_all rfl) (by intro _; with_unfolding_all rfl) | refine b64_item (ix6 (by assumption) (by assumption)) (And.left (j6)) (And.right (j6)) (by decide +kernel) ?_ (by with_unfolding_all rfl) (by intro _; with_unfolding_all rfl) | refine b64_item (ixA (by assumption)) (And.left (jA)) (And.right (jA)) (by decide +kernel) ?_ (by with_unfolding_all rfl) (by intro _; with_unfolding_all rfl) | refine b64_item (ixB (by assumption)) (And.left (jB)) (And.right (jB)) (by decide +kernel) ?_ (by with_unfolding_all rfl) (by intro _; with_unfolding_all rfl))); intro t8 k8; (try dsimp only)))) | ((with_reducible show wpAny _ _ (binaryOp Operator.LShift (Value.int _ _) (Value.int _ _)) _ _ _); ((refine lshift_int_small (by decide) (by decide) (by first | omega | exact and_small _ (by decide) (by decide)) ?_))) | ((with_reducible show wpAny _ _ (binaryOp Operator.Mod (Value.int _ _) (Value.int _ _)) _ _ _); ((refine md_pos (by decide) ?_))) | ((with_reducible show wpAny _ _ (binaryOp Operator.RShift (Value.int _ _) (Value.int _ _)) _ _ _); (refine rshift_int (by decide) ?_)) | ((with_reducible show wpAny _ _ (call (Value.ref _) _ _) _ _ _); (first | (refine' c_buffer ?cx ?ct rfl ?cr ?cu _ _ ?_; (case cx => ((first | assumption | exact Frag.In.keeps (by assumption) (Fr.keep (by assumption))))); (case ct => ((first | assumption | exact Top.keeps (by assumption) (Fr.keep (by assumption))))); (case cr => ((simp +zetaDelta only [depth_deeper, units_deeper]; omega))); (case cu => ((simp +zetaDelta only [depth_deeper, units_deeper]; omega))); intro t9 h9 tk9 hx9; (((rename Fr _ _ _ _ => F9); (rename News _ _ _ _ => N9); (rename Ext _ _ => hx9); (have F8 := fr_ext F9 hx9); (have N8 := news_ext N9 hx9); clear F9 N9 hx9; (try dsimp only); (try k_fold)))) | (refine' c_truth ?cx ?ct rfl ?cr ?cu ?_; (case cx => ((first | assumption | exact Frag.In.keeps (by assumption) (Fr.keep (by assumption))))); (case ct => ((first | assumption | exact Top.keeps (by assumption) (Fr.keep (by assumption))))); (case cr => ((simp +zetaDelta only [depth_deeper, units_deeper]; omega))); (case cu => ((simp +zetaDelta only [depth_deeper, units_deeper]; omega))); intro h9 tk9 hx9; (((rename Fr _ _ _ _ => F9); (rename News _ _ _ _ => N9); (rename Ext _ _ => hx9); (have F8 := fr_ext F9 hx9); (have N8 := news_ext N9 hx9); clear F9 N9 hx9; (try dsimp only); (try k_fold)))))) | ((with_reducible show wpAny _ _ (execs (_ :: _) _) _ _ _); ((refine execs_f ?_; intro qk))) | ((with_reducible show wpAny _ _ (storeName _ _ _) _ _ _); ((k_dflt (refine' store_f ?F ?N ?b ?a ?_; (case F => k_asm); (case N => k_asm); (case b => rfl); (case a => rfl); k_whole; intro m' h' F' N'; (try k_sweep))))) | (k_end; wrow_close) | walk1 | dsimp only | (leave1; try dsimp only)))
      (rename Fr _ _ _ _ => F7)
      (rename News _ _ _ _ => N7)
      refine bytes_end F7 N7 (by rfl) (News.isList N7 (List.Mem.head _)) hvs (os := os) ?_ hn ?_
      · rw [hpre, List.append_nil, codes0 hd3, ho]
      intro h' t' k F6
      dsimp only
      exact hQ _ _ _ F6.keep
    · (try k_unmd)
      k_unfold
      refine letM F ?_
      clear F
      intro mT F
      try dsimp only
      (repeat' (first | ((try k_unmd); k_unfold; first | (with_reducible (first | refine after_nil ?_ | refine after_next ?_ | refine after_ret ?_ | refine after_brk ?_ | refine after_cont ?_)) | (try dsimp only [List.cons_append, List.nil_append])) | ((with_reducible show wpAny _ _ (exec (Stmt.For _ (PySem.Expr.Name _ _) _ _ _) _) _ _ _); ((k_dflt (refine for_any ?_)))) | ((with_reducible show wpAny _ _ (exec (Stmt.For _ _ _ _ _) _) _ _ _); ((k_dflt (refine for_any ?_)))) | ((with_reducible show wpAny _ _ (subscriptTail (PySem.Expr.Name _ _) (PySem.Expr.BinOp _ _ _ _) (Value.bytes _ _) (Value.int _ _)) _ _ _); (((k_dflt (first | refine b64_item (ix0 (by assumption) (by assumption)) (And.left (j0 (by assumption))) (And.right (j0 (by assumption))) (by decide +kernel) ?_ (by with_unfolding_all rfl) (by intro _; with_unfolding_all rfl) | refine b64_item (ix2 (by assumption) (by assumption) (by assumption)) (And.left (j2 (by assumption))) (And.right (j2 (by assumption))) (by decide +kernel) ?_ (by with_unfolding_all rfl) (by intro _; with_unfolding_all rfl) | refine b64_item (ix4 (by assumption) (by assumption) (by assumption)) (And.left (j4 (by assumption))) (And.right (j4 (by assumption))) (by decide +kernel) ?_ (by with_unfolding_all rfl) (by intro _; with_unfolding_all rfl) | refine b64_item (ix6 (by assumption) (by assumption)) (And.left (j6)) (And.right (j6)) (by decide +kernel) ?_ (by with_unfolding_all rfl) (by intro _; with_unfolding_all rfl) | refine b64_item (ixA (by assumption)) (And.left (jA)) (And.right (jA)) (by decide +kernel) ?_ (by with_unfolding_all rfl) (by intro _; with_unfolding_all rfl) | refine b64_item (ixB (by assumption)) (And.left (jB)) (And.right (jB)) (by decide +kernel) ?_ (by with_unfolding_all rfl) (by intro _; with_unfolding_all rfl))); intro t8 k8; (try dsimp only)))) | ((with_reducible show wpAny _ _ (binaryOp Operator.LShift (Value.int _ _) (Value.int _ _)) _ _ _); ((refine lshift_int_small (by decide) (by decide) (by first | omega | exact and_small _ (by decide) (by decide)) ?_))) | ((with_reducible show wpAny _ _ (binaryOp Operator.Mod (Value.int _ _) (Value.int _ _)) _ _ _); ((refine md_pos (by decide) ?_))) | ((with_reducible show wpAny _ _ (binaryOp Operator.RShift (Value.int _ _) (Value.int _ _)) _ _ _); (refine rshift_int (by decide) ?_)) | ((with_reducible show wpAny _ _ (call (Value.ref _) _ _) _ _ _); (first | (refine' c_buffer ?cx ?ct rfl ?cr ?cu _ _ ?_; (case cx => ((first | assumption | exact Frag.In.keeps (by assumption) (Fr.keep (by assumption))))); (case ct => ((first | assumption | exact Top.keeps (by assumption) (Fr.keep (by assumption))))); (case cr => ((simp +zetaDelta only [depth_deeper, units_deeper]; omega))); (case cu => ((simp +zetaDelta only [depth_deeper, units_deeper]; omega))); intro t9 h9 tk9 hx9; (((rename Fr _ _ _ _ => F9); (rename News _ _ _ _ => N9); (rename Ext _ _ => hx9); (have F8 := fr_ext F9 hx9); (have N8 := news_ext N9 hx9); clear F9 N9 hx9; (try dsimp only); (try k_fold)))) | (refine' c_truth ?cx ?ct rfl ?cr ?cu ?_; (case cx => ((first | assumption | exact Frag.In.keeps (by assumption) (Fr.keep (by assumption))))); (case ct => ((first | assumption | exact Top.keeps (by assumption) (Fr.keep (by assumption))))); (case cr => ((simp +zetaDelta only [depth_deeper, units_deeper]; omega))); (case cu => ((simp +zetaDelta only [depth_deeper, units_deeper]; omega))); intro h9 tk9 hx9; (((rename Fr _ _ _ _ => F9); (rename News _ _ _ _ => N9); (rename Ext _ _ => hx9); (have F8 := fr_ext F9 hx9); (have N8 := news_ext N9 hx9); clear F9 N9 hx9; (try dsimp only); (try k_fold)))))) | ((with_reducible show wpAny _ _ (execs (_ :: _) _) _ _ _); ((refine execs_f ?_; intro qk))) | ((with_reducible show wpAny _ _ (storeName _ _ _) _ _ _); ((k_dflt (refine' store_f ?F ?N ?b ?a ?_; (case F => k_asm); (case N => k_asm); (case b => rfl); (case a => rfl); k_whole; intro m' h' F' N'; (try k_sweep))))) | (k_end; wrow_close) | walk1 | dsimp only | (leave1; try dsimp only)))
      (rename Fr _ _ _ _ => F7)
      (rename News _ _ _ _ => N7)
      simp only [List.push_toArray] at N7
      refine bytes_end F7 N7 (by rfl) (News.isList N7 (List.Mem.head _)) (((hvs.append (.cons _ _ .nil)).append (.cons _ _ .nil)).append (.cons _ _ .nil)) (os := os) ?_ hn ?_
      · rw [hpre, codes1 hd3, ho]; simp
      intro h' t' k F6
      dsimp only
      exact hQ _ _ _ F6.keep
    · (try k_unmd)
      k_unfold
      refine letM F ?_
      clear F
      intro mT F
      try dsimp only
      (repeat' (first | ((try k_unmd); k_unfold; first | (with_reducible (first | refine after_nil ?_ | refine after_next ?_ | refine after_ret ?_ | refine after_brk ?_ | refine after_cont ?_)) | (try dsimp only [List.cons_append, List.nil_append])) | ((with_reducible show wpAny _ _ (exec (Stmt.For _ (PySem.Expr.Name _ _) _ _ _) _) _ _ _); ((k_dflt (refine for_any ?_)))) | ((with_reducible show wpAny _ _ (exec (Stmt.For _ _ _ _ _) _) _ _ _); ((k_dflt (refine for_any ?_)))) | ((with_reducible show wpAny _ _ (subscriptTail (PySem.Expr.Name _ _) (PySem.Expr.BinOp _ _ _ _) (Value.bytes _ _) (Value.int _ _)) _ _ _); (((k_dflt (first | refine b64_item (ix0 (by assumption) (by assumption)) (And.left (j0 (by assumption))) (And.right (j0 (by assumption))) (by decide +kernel) ?_ (by with_unfolding_all rfl) (by intro _; with_unfolding_all rfl) | refine b64_item (ix2 (by assumption) (by assumption) (by assumption)) (And.left (j2 (by assumption))) (And.right (j2 (by assumption))) (by decide +kernel) ?_ (by with_unfolding_all rfl) (by intro _; with_unfolding_all rfl) | refine b64_item (ix4 (by assumption) (by assumption) (by assumption)) (And.left (j4 (by assumption))) (And.right (j4 (by assumption))) (by decide +kernel) ?_ (by with_unfolding_all rfl) (by intro _; with_unfolding_all rfl) | refine b64_item (ix6 (by assumption) (by assumption)) (And.left (j6)) (And.right (j6)) (by decide +kernel) ?_ (by with_unfolding_all rfl) (by intro _; with_unfolding_all rfl) | refine b64_item (ixA (by assumption)) (And.left (jA)) (And.right (jA)) (by decide +kernel) ?_ (by with_unfolding_all rfl) (by intro _; with_unfolding_all rfl) | refine b64_item (ixB (by assumption)) (And.left (jB)) (And.right (jB)) (by decide +kernel) ?_ (by with_unfolding_all rfl) (by intro _; with_unfolding_all rfl))); intro t8 k8; (try dsimp only)))) | ((with_reducible show wpAny _ _ (binaryOp Operator.LShift (Value.int _ _) (Value.int _ _)) _ _ _); ((refine lshift_int_small (by decide) (by decide) (by first | omega | exact and_small _ (by decide) (by decide)) ?_))) | ((with_reducible show wpAny _ _ (binaryOp Operator.Mod (Value.int _ _) (Value.int _ _)) _ _ _); ((refine md_pos (by decide) ?_))) | ((with_reducible show wpAny _ _ (binaryOp Operator.RShift (Value.int _ _) (Value.int _ _)) _ _ _); (refine rshift_int (by decide) ?_)) | ((with_reducible show wpAny _ _ (call (Value.ref _) _ _) _ _ _); (first | (refine' c_buffer ?cx ?ct rfl ?cr ?cu _ _ ?_; (case cx => ((first | assumption | exact Frag.In.keeps (by assumption) (Fr.keep (by assumption))))); (case ct => ((first | assumption | exact Top.keeps (by assumption) (Fr.keep (by assumption))))); (case cr => ((simp +zetaDelta only [depth_deeper, units_deeper]; omega))); (case cu => ((simp +zetaDelta only [depth_deeper, units_deeper]; omega))); intro t9 h9 tk9 hx9; (((rename Fr _ _ _ _ => F9); (rename News _ _ _ _ => N9); (rename Ext _ _ => hx9); (have F8 := fr_ext F9 hx9); (have N8 := news_ext N9 hx9); clear F9 N9 hx9; (try dsimp only); (try k_fold)))) | (refine' c_truth ?cx ?ct rfl ?cr ?cu ?_; (case cx => ((first | assumption | exact Frag.In.keeps (by assumption) (Fr.keep (by assumption))))); (case ct => ((first | assumption | exact Top.keeps (by assumption) (Fr.keep (by assumption))))); (case cr => ((simp +zetaDelta only [depth_deeper, units_deeper]; omega))); (case cu => ((simp +zetaDelta only [depth_deeper, units_deeper]; omega))); intro h9 tk9 hx9; (((rename Fr _ _ _ _ => F9); (rename News _ _ _ _ => N9); (rename Ext _ _ => hx9); (have F8 := fr_ext F9 hx9); (have N8 := news_ext N9 hx9); clear F9 N9 hx9; (try dsimp only); (try k_fold)))))) | ((with_reducible show wpAny _ _ (execs (_ :: _) _) _ _ _); ((refine execs_f ?_; intro qk))) | ((with_reducible show wpAny _ _ (storeName _ _ _) _ _ _); ((k_dflt (refine' store_f ?F ?N ?b ?a ?_; (case F => k_asm); (case N => k_asm); (case b => rfl); (case a => rfl); k_whole; intro m' h' F' N'; (try k_sweep))))) | (k_end; wrow_close) | walk1 | dsimp only | (leave1; try dsimp only)))
      (rename Fr _ _ _ _ => F7)
      (rename News _ _ _ _ => N7)
      simp only [List.push_toArray] at N7
      refine bytes_end F7 N7 (by rfl) (News.isList N7 (List.Mem.head _)) ((hvs.append (.cons _ _ .nil)).append (.cons _ _ .nil)) (os := os) ?_ hn ?_
      · rw [hpre, codes2 hd3, ho]; simp
      intro h' t' k F6
      dsimp only
      exact hQ _ _ _ F6.keep
end Mine
end
section -- C11
namespace Mine


set_option maxHeartbeats 8000000 in
theorem c_b64 {w : World} {A : Around} {s : Shared} {Q E : Value → Shared → Prop} {loose : List Str} {mean : ExcName → Option Value} {mg mb : Str → Option Value}
    (X : (hd.heap_1 w.params).In s.heap) (T : Top topProg loose mean mg mb s.heap) (hh : A.handled = none) (hr : A.depth + 8 < recursionLimit) (hu : A.units + 50 < cLine) (os : List Int) (t : Tok) (hb : ∀ o ∈ os, 0 ≤ o ∧ o < 256) (hn : os.length ≤ 5)
    (hQ : ∀ t' h' tk', Ext s.heap h' → Q (.bytes (byteArr ((codes os).map Int.ofNat)) t') { s with heap := h', toks := tk' }) :
    wpAny (model prg w) A (call (.ref 95) [.bytes (byteArr os) t] []) Q E s := by
  obtain ⟨hd', dp, fr, gd, un⟩ := A
  dsimp only at hh hr hu
  subst hh
  refine' pcall X T ?k6 ?k7 (Nat.lt_of_le_of_lt (Nat.le_add_right _ _) hr) ?k9 ?kB ?c2 ?c3 ?c4 ?c5 ?_
  case k6 => k_is
  case k7 => k_is
  case k9 => first | exact BindsTo.of_eq rfl | exact binds_K X rfl (by k_is) rfl rfl rfl
  case c5 => decide
  case kB => exact locs rfl
  case c2 => exact rfl
  case c3 => exact rfl
  case c4 => exact rfl
  intro L' h' F N envL AL
  refine letM F ?_
  clear F
  intro mL F
  (try dsimp only)
  show wpAny _ _ _ _ _ _
  k_fold
  (repeat' (first | ((try k_unmd); k_unfold; first | (with_reducible (first | refine after_nil ?_ | refine after_next ?_ | refine after_ret ?_ | refine after_brk ?_ | refine after_cont ?_)) | (try dsimp only [List.cons_append, List.nil_append])) | ((with_reducible show wpAny _ _ (binaryOp Operator.Mod (Value.int _ _) (Value.int _ _)) _ _ _); ((refine md_pos (by decide) ?_))) | ((with_reducible show wpAny _ _ (call (Value.ref _) _ _) _ _ _); (first | (refine' c_b2a ?cx ?ct rfl ?cr ?cu _ _ ?cb ?cn ?_; (case cx => ((first | assumption | exact Frag.In.keeps (by assumption) (Fr.keep (by assumption))))); (case ct => ((first | assumption | exact Top.keeps (by assumption) (Fr.keep (by assumption))))); (case cr => ((simp +zetaDelta only [depth_deeper, units_deeper]; omega))); (case cu => ((simp +zetaDelta only [depth_deeper, units_deeper]; omega))); (case cb => assumption); (case cn => assumption); intro t9 h9 tk9 hx9; (((rename Fr _ _ _ _ => F9); (rename News _ _ _ _ => N9); (rename Ext _ _ => hx9); (have F8 := fr_ext F9 hx9); (have N8 := news_ext N9 hx9); clear F9 N9 hx9; (try dsimp only); (try k_fold)))))) | ((with_reducible show wpAny _ _ (execs (_ :: _) _) _ _ _); ((refine execs_f ?_; intro qk))) | ((with_reducible show wpAny _ _ (storeName _ _ _) _ _ _); ((k_dflt (refine' store_f ?F ?N ?b ?a ?_; (case F => k_asm); (case N => k_asm); (case b => rfl); (case a => rfl); k_whole; intro m' h' F' N'; (try k_sweep))))) | (k_end; wrow_close) | walk1 | dsimp only | (leave1; try dsimp only)))
  (rename Fr _ _ _ _ => F9)
  exact hQ _ _ _ F9.keep
set_option maxHeartbeats 8000000 in
theorem c_name {w : World} {A : Around} {s : Shared} {Q E : Value → Shared → Prop} {loose : List Str} {mean : ExcName → Option Value} {mg mb : Str → Option Value}
    (X : (hd.heap_1 w.params).In s.heap) (T : Top topProg loose mean mg mb s.heap) (hh : A.handled = none) (hr : A.depth + 10 < recursionLimit) (hu : A.units + 80 < cLine) (l : Addr) (vs : List Value) (os : List Int)
    (hb : ∀ o ∈ os, 0 ≤ o ∧ o < 256) (hn : os.length ≤ 5)
    (hl : s.heap.IsList l vs.toArray) (hI : IntsAre vs os)
    (hQ : ∀ t h' tk', Ext s.heap h' → Q (.str (nameS os) t) { s with heap := h', toks := tk' }) :
    wpAny (model prg w) A (call (.ref 129) [.ref l] []) Q E s := by
  have hlen := hI.length
  obtain ⟨hd', dp, fr, gd, un⟩ := A
  dsimp only at hh hr hu
  subst hh
  refine' pcall X T ?k6 ?k7 (Nat.lt_of_le_of_lt (Nat.le_add_right _ _) hr) ?k9 ?kB ?c2 ?c3 ?c4 ?c5 ?_
  case k6 => k_is
  case k7 => k_is
  case k9 => first | exact BindsTo.of_eq rfl | exact binds_K X rfl (by k_is) rfl rfl rfl
  case c5 => decide
  case kB => exact locs rfl
  case c2 => exact rfl
  case c3 => exact rfl
  case c4 => exact rfl
  intro L' h' F N envL AL
  refine letM F ?_
  clear F
  intro mL F
  (try dsimp only)
  show wpAny _ _ _ _ _ _
  k_fold
  (repeat' (first | ((try k_unmd); k_unfold; first | (with_reducible (first | refine after_nil ?_ | refine after_next ?_ | refine after_ret ?_ | refine after_brk ?_ | refine after_cont ?_)) | (try dsimp only [List.cons_append, List.nil_append])) | ((with_reducible show wpAny _ _ (binaryOp Operator.Mod (Value.int _ _) (Value.int _ _)) _ _ _); ((refine md_pos (by decide) ?_))) | ((with_reducible show wpAny _ _ (call (Value.builtin "str.join") _ _) _ _ _); (((rename StrsAre _ _ => S9); (rename News _ _ _ _ => N9); refine join_call (News.isList N9 (List.Mem.head _)) S9 (by (try simp only [List.length_map]); omega) ?_; intro t8 k8; (try dsimp only); (try k_fold)))) | ((with_reducible show wpAny _ _ (call (Value.ref _) _ _) _ _ _); (first | (first | (refine' c_b64 ?cx ?ct rfl ?cr ?cu _ _ ?cb ?cn ?_; (case cx => ((first | assumption | exact Frag.In.keeps (by assumption) (Fr.keep (by assumption))))); (case ct => ((first | assumption | exact Top.keeps (by assumption) (Fr.keep (by assumption))))); (case cr => ((simp +zetaDelta only [depth_deeper, units_deeper]; omega))); (case cu => ((simp +zetaDelta only [depth_deeper, units_deeper]; omega))); (case cb => assumption); (case cn => assumption); intro t9 h9 tk9 hx9; (((rename Fr _ _ _ _ => F9); (rename News _ _ _ _ => N9); (rename Ext _ _ => hx9); (have F8 := fr_ext F9 hx9); (have N8 := news_ext N9 hx9); clear F9 N9 hx9; (try dsimp only); (try k_fold))))) | (first | (refine' c_b2a ?cx ?ct rfl ?cr ?cu _ _ ?cb ?cn ?_; (case cx => ((first | assumption | exact Frag.In.keeps (by assumption) (Fr.keep (by assumption))))); (case ct => ((first | assumption | exact Top.keeps (by assumption) (Fr.keep (by assumption))))); (case cr => ((simp +zetaDelta only [depth_deeper, units_deeper]; omega))); (case cu => ((simp +zetaDelta only [depth_deeper, units_deeper]; omega))); (case cb => assumption); (case cn => assumption); intro t9 h9 tk9 hx9; (((rename Fr _ _ _ _ => F9); (rename News _ _ _ _ => N9); (rename Ext _ _ => hx9); (have F8 := fr_ext F9 hx9); (have N8 := news_ext N9 hx9); clear F9 N9 hx9; (try dsimp only); (try k_fold))))))) | ((with_reducible show wpAny _ _ (eval (PySem.Expr.ListComp _ _ _ _) _) _ _ _); ((k_dflt (refine ListComp_B (by k_asm) (by rfl) (by with_unfolding_all rfl) (by decide) (by rfl) (by decide) (by rfl) ?_)))) | ((with_reducible show wpAny _ _ (execs (_ :: _) _) _ _ _); ((refine execs_f ?_; intro qk))) | ((with_reducible show wpAny _ _ (storeName _ _ _) _ _ _); ((k_dflt (refine' store_f ?F ?N ?b ?a ?_; (case F => k_asm); (case N => k_asm); (case b => rfl); (case a => rfl); k_whole; intro m' h' F' N'; (try k_sweep))))) | (k_end; wrow_close) | walk1 | dsimp only | (leave1; try dsimp only)))
  (rename Fr _ _ _ _ => F9)
  (rename News _ _ _ _ => N9)
  have hcl := codes_len os
  refine ⟨_, _, _, rfl, F9, N9, ?_, fun g => ?_⟩
  · rw [byteArr_size, sizeLine_eq, List.length_map]; omega
  refine rest_gen ((codes os).map Int.ofNat) (fun k => ⟨#[k.toNat]⟩) (Ri := IsInt) (Ro := IsStr) ?_ ?_ trivial ?_ ?_
  · rw [byteArr_size]
  · rintro i v hi ⟨k, u, hk, rfl⟩
    rw [bints_arr (codes_in os)] at hk
    exact ⟨k, hk, u, rfl⟩
  · intro a v I oI C oC D m₂ ys h tk E' ha hv hC hx F N
    obtain ⟨tv, rfl⟩ := hv
    have hab := codes_in os a ha
    clear F9 N9
    show wpAny _ _ _ _ _ _
    k_fold
    (repeat' (first | ((try k_unmd); k_unfold; first | (with_reducible (first | refine after_nil ?_ | refine after_next ?_ | refine after_ret ?_ | refine after_brk ?_ | refine after_cont ?_)) | (try dsimp only [List.cons_append, List.nil_append])) | ((with_reducible show wpAny _ _ (binaryOp Operator.Mod (Value.int _ _) (Value.int _ _)) _ _ _); ((refine md_pos (by decide) ?_))) | ((with_reducible show wpAny _ _ (call (Value.builtin "str.join") _ _) _ _ _); (((rename StrsAre _ _ => S9); (rename News _ _ _ _ => N9); refine join_call (News.isList N9 (List.Mem.head _)) S9 (by (try simp only [List.length_map]); omega) ?_; intro t8 k8; (try dsimp only); (try k_fold)))) | ((with_reducible show wpAny _ _ (call (Value.ref _) _ _) _ _ _); (first | (first | (refine' c_b64 ?cx ?ct rfl ?cr ?cu _ _ ?cb ?cn ?_; (case cx => ((first | assumption | exact Frag.In.keeps (by assumption) (Fr.keep (by assumption))))); (case ct => ((first | assumption | exact Top.keeps (by assumption) (Fr.keep (by assumption))))); (case cr => ((simp +zetaDelta only [depth_deeper, units_deeper]; omega))); (case cu => ((simp +zetaDelta only [depth_deeper, units_deeper]; omega))); (case cb => assumption); (case cn => assumption); intro t9 h9 tk9 hx9; (((rename Fr _ _ _ _ => F9); (rename News _ _ _ _ => N9); (rename Ext _ _ => hx9); (have F8 := fr_ext F9 hx9); (have N8 := news_ext N9 hx9); clear F9 N9 hx9; (try dsimp only); (try k_fold))))) | (first | (refine' c_b2a ?cx ?ct rfl ?cr ?cu _ _ ?cb ?cn ?_; (case cx => ((first | assumption | exact Frag.In.keeps (by assumption) (Fr.keep (by assumption))))); (case ct => ((first | assumption | exact Top.keeps (by assumption) (Fr.keep (by assumption))))); (case cr => ((simp +zetaDelta only [depth_deeper, units_deeper]; omega))); (case cu => ((simp +zetaDelta only [depth_deeper, units_deeper]; omega))); (case cb => assumption); (case cn => assumption); intro t9 h9 tk9 hx9; (((rename Fr _ _ _ _ => F9); (rename News _ _ _ _ => N9); (rename Ext _ _ => hx9); (have F8 := fr_ext F9 hx9); (have N8 := news_ext N9 hx9); clear F9 N9 hx9; (try dsimp only); (try k_fold))))))) | ((with_reducible show wpAny _ _ (eval (PySem.Expr.ListComp _ _ _ _) _) _ _ _); ((k_dflt (refine ListComp_B (by k_asm) (by rfl) (by with_unfolding_all rfl) (by decide) (by rfl) (by decide) (by rfl) ?_)))) | ((with_reducible show wpAny _ _ (execs (_ :: _) _) _ _ _); ((refine execs_f ?_; intro qk))) | ((with_reducible show wpAny _ _ (storeName _ _ _) _ _ _); ((k_dflt (refine' store_f ?F ?N ?b ?a ?_; (case F => k_asm); (case N => k_asm); (case b => rfl); (case a => rfl); k_whole; intro m' h' F' N'; (try k_sweep))))) | (k_end; wrow_close) | walk1 | dsimp only | (leave1; try dsimp only)))
    exact TurnE.intro (by assumption) (by assumption) (by kcf_all) ⟨_, rfl⟩
  · intro ys hys
    have hys := hys.strs
    rw [show ((codes os).map Int.ofNat).map (fun k => (⟨#[k.toNat]⟩ : Str)) = (codes os).map fun c => (⟨#[c]⟩ : Str) by simp] at hys
    (repeat' (first | ((try k_unmd); k_unfold; first | (with_reducible (first | refine after_nil ?_ | refine after_next ?_ | refine after_ret ?_ | refine after_brk ?_ | refine after_cont ?_)) | (try dsimp only [List.cons_append, List.nil_append])) | ((with_reducible show wpAny _ _ (binaryOp Operator.Mod (Value.int _ _) (Value.int _ _)) _ _ _); ((refine md_pos (by decide) ?_))) | ((with_reducible show wpAny _ _ (call (Value.builtin "str.join") _ _) _ _ _); (((rename StrsAre _ _ => S9); (rename News _ _ _ _ => N9); refine join_call (News.isList N9 (List.Mem.head _)) S9 (by (try simp only [List.length_map]); omega) ?_; intro t8 k8; (try dsimp only); (try k_fold)))) | ((with_reducible show wpAny _ _ (call (Value.ref _) _ _) _ _ _); (first | (first | (refine' c_b64 ?cx ?ct rfl ?cr ?cu _ _ ?cb ?cn ?_; (case cx => ((first | assumption | exact Frag.In.keeps (by assumption) (Fr.keep (by assumption))))); (case ct => ((first | assumption | exact Top.keeps (by assumption) (Fr.keep (by assumption))))); (case cr => ((simp +zetaDelta only [depth_deeper, units_deeper]; omega))); (case cu => ((simp +zetaDelta only [depth_deeper, units_deeper]; omega))); (case cb => assumption); (case cn => assumption); intro t9 h9 tk9 hx9; (((rename Fr _ _ _ _ => F9); (rename News _ _ _ _ => N9); (rename Ext _ _ => hx9); (have F8 := fr_ext F9 hx9); (have N8 := news_ext N9 hx9); clear F9 N9 hx9; (try dsimp only); (try k_fold))))) | (first | (refine' c_b2a ?cx ?ct rfl ?cr ?cu _ _ ?cb ?cn ?_; (case cx => ((first | assumption | exact Frag.In.keeps (by assumption) (Fr.keep (by assumption))))); (case ct => ((first | assumption | exact Top.keeps (by assumption) (Fr.keep (by assumption))))); (case cr => ((simp +zetaDelta only [depth_deeper, units_deeper]; omega))); (case cu => ((simp +zetaDelta only [depth_deeper, units_deeper]; omega))); (case cb => assumption); (case cn => assumption); intro t9 h9 tk9 hx9; (((rename Fr _ _ _ _ => F9); (rename News _ _ _ _ => N9); (rename Ext _ _ => hx9); (have F8 := fr_ext F9 hx9); (have N8 := news_ext N9 hx9); clear F9 N9 hx9; (try dsimp only); (try k_fold))))))) | ((with_reducible show wpAny _ _ (eval (PySem.Expr.ListComp _ _ _ _) _) _ _ _); ((k_dflt (refine ListComp_B (by k_asm) (by rfl) (by with_unfolding_all rfl) (by decide) (by rfl) (by decide) (by rfl) ?_)))) | ((with_reducible show wpAny _ _ (execs (_ :: _) _) _ _ _); ((refine execs_f ?_; intro qk))) | ((with_reducible show wpAny _ _ (storeName _ _ _) _ _ _); ((k_dflt (refine' store_f ?F ?N ?b ?a ?_; (case F => k_asm); (case N => k_asm); (case b => rfl); (case a => rfl); k_whole; intro m' h' F' N'; (try k_sweep))))) | (k_end; wrow_close) | walk1 | dsimp only | (leave1; try dsimp only)))
    (rename Fr _ _ _ _ => F7)
    exact hQ _ _ _ F7.keep
end Mine
end
section -- C12
namespace Mine



noncomputable def Made (h h' : Heap) (l : List (Addr × Obj)) : Prop := ∀ p ∈ l, h.get? p.1 = none ∧ h'.get? p.1 = some p.2
noncomputable def RowIn (new : List (Addr × Obj)) (v : Value) (os : List Int) : Prop := ∃ a ws n, v = .ref a ∧ (a, ({ cls := .type "list", data := .seq (List.toArray ws) n } : Obj)) ∈ new ∧ IntsAre ws os
theorem rowin_mono {new new' : List (Addr × Obj)} {vs : List Value} {rs : List (List Int)} (h : Are (RowIn new) vs rs) (hs : ∀ p ∈ new, p ∈ new') : Are (RowIn new') vs rs := by
  induction h with
  | nil => exact .nil
  | cons r _ ih => obtain ⟨a, ws, n, e, hm, hi⟩ := r; exact .cons ⟨a, ws, n, e, hs _ hm, hi⟩ ih
noncomputable def rowF (x : Int) : List Int := (rangeKs 0 (x % 6).toNat).map fun k => ([0, 3, 97, 104, 251, 255] : List Int).getD (x / 6 / 6 ^ k.toNat % 6).toNat 0
noncomputable def rowsF (ns : List Int) : List (List Int) := (ns.take 8 ++ [20, 25, 987, 1293, 1558, 0, 13]).map rowF
theorem six_pos (k : Nat) : (0 : Int) < 6 ^ k := Int.pow_pos (by decide)
theorem six_py {e : Int} (h : e ≤ 64) : ((6 : Int) ^ e.toNat).natAbs.log2 < 9000 := by
  have h1 : ((6 : Int) ^ e.toNat).natAbs = 6 ^ e.toNat := by rw [Int.natAbs_pow]; rfl
  rw [h1]
  have h2 : 6 ^ e.toNat ≤ 2 ^ (3 * e.toNat) := by rw [Nat.pow_mul]; exact Nat.pow_le_pow_left (by decide) _
  have h3 : (6 ^ e.toNat).log2 ≤ (2 ^ (3 * e.toNat)).log2 := by
    rw [Nat.log2_two_pow]
    have h4 : 6 ^ e.toNat ≠ 0 := by have := Nat.pow_pos (n := e.toNat) (show 0 < 6 by decide); omega
    rw [← Nat.lt_succ_iff, Nat.log2_lt h4]
    exact Nat.lt_of_le_of_lt h2 (Nat.pow_lt_pow_right (by decide) (Nat.lt_succ_self _))
  rw [Nat.log2_two_pow] at h3
  omega
theorem lt_six {k k' : Int} (h : k' < 0 + ((Int.toNat (k % 6 - 0) : Nat) : Int)) : k' ≤ 64 := by omega
theorem lt_pow {k k' : Int} (h : k' < 0 + ((Int.toNat (k % 6 - 0) : Nat) : Int)) : k' ≤ 1000000 := by omega
set_option maxHeartbeats 8000000 in
theorem c_rows {w : World} {A : Around} {s : Shared} {Q E : Value → Shared → Prop} {loose : List Str} {mean : ExcName → Option Value} {mg mb : Str → Option Value}
    (X : (hd.heap_1 w.params).In s.heap) (T : Top topProg loose mean mg mb s.heap) (hh : A.handled = none) (hr : A.depth + 6 < recursionLimit) (hu : A.units + 60 < cLine) (l : Addr) (vs : List Value) (ns : List Int) (hn : ns.length ≤ 63)
    (hl : s.heap.IsList l vs.toArray) (hI : IntsAre vs ns)
    (hQ : ∀ a ws new n h' tk', Ext s.heap h' → Made s.heap h' ((a, { cls := .type "list", data := .seq (List.toArray ws) n }) :: new) → Are (RowIn new) ws (rowsF ns) → Q (.ref a) { s with heap := h', toks := tk' }) :
    wpAny (model prg w) A (call (.ref 124) [.ref l] []) Q E s := by
  have hlen := hI.length
  obtain ⟨hd', dp, fr, gd, un⟩ := A
  dsimp only at hh hr hu
  subst hh
  refine' pcallC X T ?k6 ?k7 (Nat.lt_of_le_of_lt (Nat.le_add_right _ _) hr) ?k9 ?kB ?kD ?c2 ?c3 ?c4 ?_
  case k6 => k_is
  case k7 => k_is
  case k9 => rfl
  case kB => exact rfl
  case kD => decide +kernel
  case c2 => exact rfl
  case c3 => exact rfl
  case c4 => exact rfl
  intro L' h' tk cells F' N' Y' envL AL
  refine letM F' ?_
  clear F'
  intro mL F'
  k_cells Y'
  (try simp only [List.cons_append, List.nil_append] at N')
  (try dsimp only)
  show wpAny _ _ _ _ _ _
  k_fold
  (repeat' (first | ((try k_unmd); k_unfold; first | (with_reducible (first | refine after_nil ?_ | refine after_next ?_ | refine after_ret ?_ | refine after_brk ?_ | refine after_cont ?_)) | (try dsimp only [List.cons_append, List.nil_append])) | ((with_reducible show wpAny _ _ (subscriptTail (PySem.Expr.Name _ _) (PySem.Expr.BinOp _ _ _ _) (Value.ref _) (Value.int _ _)) _ _ _); ((k_dflt (refine item_ints (ns := [0, 3, 97, 104, 251, 255]) (News.isList (by k_asm) (by k_mem)) (by repeat constructor) (by omega) (by simp only [List.length_cons, List.length_nil]; omega) (by decide) ?_ (by with_unfolding_all rfl)); intro t8; (try dsimp only)))) | ((with_reducible show wpAny _ _ (binaryOp Operator.FloorDiv (Value.int _ _) (Value.int _ _)) _ _ _); ((first | refine fd_pos (by decide) (by decide +kernel) ?_ | refine fd_pos (six_pos _) (six_py (lt_six (by assumption))) ?_))) | ((with_reducible show wpAny _ _ (binaryOp Operator.Pow (Value.int _ _) (Value.int _ _)) _ _ _); ((refine pow_int_small (by assumption) (lt_pow (by assumption)) (by decide) ?_))) | ((with_reducible show wpAny _ _ (binaryOp Operator.Mod (Value.int _ _) (Value.int _ _)) _ _ _); ((refine md_pos (by decide) ?_))) | ((with_reducible show wpAny _ _ (eval (PySem.Expr.ListComp _ _ _ _) _) _ _ _); (first | (k_dflt (refine ListComp_X (by k_asm) (by rfl) (by with_unfolding_all rfl) (fun _ _ => rfl) (fun _ => rfl) (by rfl) (by decide) (by with_unfolding_all rfl) ?_)) | (k_dflt (refine LCg.ListComp_U (F₀ := by k_asm) (by with_unfolding_all rfl) (by decide) (by rfl) (by decide) (by rfl) ?_)))) | ((with_reducible show wpAny _ _ (execs (_ :: _) _) _ _ _); ((refine execs_f ?_; intro qk))) | ((with_reducible show wpAny _ _ (storeName _ _ _) _ _ _); ((k_dflt (refine' store_f ?F ?N ?b ?a ?_; (case F => k_asm); (case N => k_asm); (case b => rfl); (case a => rfl); k_whole; intro m' h' F' N'; (try k_sweep))))) | (k_end; wrow_close) | walk1 | dsimp only | (leave1; try dsimp only)))
  (rename Fr _ _ _ _ => F9)
  (rename News _ _ _ _ => N9)
  (rename IntsAre _ (_ ++ _) => I9)
  have hz := I9.length
  refine ⟨_, _, _, fun i ys new => Are (RowIn new) ys (((ns.take 8 ++ [20, 25, 987, 1293, 1558, 0, 13]).take i).map rowF), rfl, F9, N9, Or.inr ⟨_, List.Mem.head _, rfl, _, rfl⟩, ?_, .nil, ?_, ?_⟩
  · rw [sizeLine_eq, List.size_toArray, hz]
    simp only [List.length_append, List.length_take, List.length_cons, List.length_nil]; omega
  · intro i v ys new I oI C oC c oc D h tk E' hv hJ hoc F N
    obtain ⟨k, t, rfl, hk⟩ := IntsAre.at I9 i v (by simpa using hv)
    clear F9 N9
    show wpAny _ _ _ _ _ _
    k_fold
    (repeat' (first | ((try k_unmd); k_unfold; first | (with_reducible (first | refine after_nil ?_ | refine after_next ?_ | refine after_ret ?_ | refine after_brk ?_ | refine after_cont ?_)) | (try dsimp only [List.cons_append, List.nil_append])) | ((with_reducible show wpAny _ _ (subscriptTail (PySem.Expr.Name _ _) (PySem.Expr.BinOp _ _ _ _) (Value.ref _) (Value.int _ _)) _ _ _); ((k_dflt (refine item_ints (ns := [0, 3, 97, 104, 251, 255]) (News.isList (by k_asm) (by k_mem)) (by repeat constructor) (by omega) (by simp only [List.length_cons, List.length_nil]; omega) (by decide) ?_ (by with_unfolding_all rfl)); intro t8; (try dsimp only)))) | ((with_reducible show wpAny _ _ (binaryOp Operator.FloorDiv (Value.int _ _) (Value.int _ _)) _ _ _); ((first | refine fd_pos (by decide) (by decide +kernel) ?_ | refine fd_pos (six_pos _) (six_py (lt_six (by assumption))) ?_))) | ((with_reducible show wpAny _ _ (binaryOp Operator.Pow (Value.int _ _) (Value.int _ _)) _ _ _); ((refine pow_int_small (by assumption) (lt_pow (by assumption)) (by decide) ?_))) | ((with_reducible show wpAny _ _ (binaryOp Operator.Mod (Value.int _ _) (Value.int _ _)) _ _ _); ((refine md_pos (by decide) ?_))) | ((with_reducible show wpAny _ _ (eval (PySem.Expr.ListComp _ _ _ _) _) _ _ _); (first | (k_dflt (refine ListComp_X (by k_asm) (by rfl) (by with_unfolding_all rfl) (fun _ _ => rfl) (fun _ => rfl) (by rfl) (by decide) (by with_unfolding_all rfl) ?_)) | (k_dflt (refine LCg.ListComp_U (F₀ := by k_asm) (by with_unfolding_all rfl) (by decide) (by rfl) (by decide) (by rfl) ?_)))) | ((with_reducible show wpAny _ _ (execs (_ :: _) _) _ _ _); ((refine execs_f ?_; intro qk))) | ((with_reducible show wpAny _ _ (storeName _ _ _) _ _ _); ((k_dflt (refine' store_f ?F ?N ?b ?a ?_; (case F => k_asm); (case N => k_asm); (case b => rfl); (case a => rfl); k_whole; intro m' h' F' N'; (try k_sweep))))) | (k_end; wrow_close) | walk1 | dsimp only | (leave1; try dsimp only)))
    (rename Fr _ _ _ _ => F7)
    (rename News _ _ _ _ => N7)
    (rename IntsAre _ (List.map _ _) => I7)
    (rename (_ ≠ _ ∧ _ ≠ _ ∧ _ ≠ _ ∧ _ ≠ _ ∧ LCg.Off1 _ _) => o9)
    refine TurnX.one F7 N7 (fun q hq => ?_) ?_
    · simp only [List.mem_cons, List.not_mem_nil, or_false] at hq
      rcases hq with rfl | rfl | rfl | rfl
      · exact o9.1
      · exact o9.2.1
      · exact o9.2.2.1
      · exact o9.2.2.2.1
    · rw [Int.sub_zero] at I7
      have e : (List.take 8 ns ++ [20, 25, 987, 1293, 1558, 0, 13]).take (i + 1) = (List.take 8 ns ++ [20, 25, 987, 1293, 1558, 0, 13]).take i ++ [k] := by rw [List.take_add_one, hk]; rfl
      rw [e, List.map_append]
      exact (rowin_mono hJ fun p hp => List.mem_cons_of_mem _ hp).append (.cons ⟨_, _, _, rfl, List.Mem.head _, I7⟩ .nil)
  · intro ys new D h tk hJ F N
    rw [List.size_toArray, hz, List.take_length] at hJ
    refine hQ D ys new ys.length h tk F.keep (fun p hp => ⟨(N p ?_).2.2, (N p ?_).1⟩) hJ
    · rcases List.mem_cons.mp hp with rfl | hp
      · exact List.Mem.head _
      · exact List.mem_cons_of_mem _ (List.mem_append_right _ hp)
    · rcases List.mem_cons.mp hp with rfl | hp
      · exact List.Mem.head _
      · exact List.mem_cons_of_mem _ (List.mem_append_right _ hp)
end Mine
end
section -- C13
namespace Mine


theorem q_bool {Q : Value → Shared → Prop} {b b' : Bool} {s : Shared} (h : Q (.bool b') s) (e : b = b') : Q (.bool b) s := by rw [e]; exact h
theorem lt_one (c d : Nat) : ([c] < [d]) = (c < d) := by rw [List.cons_lt_cons_iff]; simp
theorem one_eq (a c : Nat) : ((⟨#[a]⟩ : Str) == ⟨#[c]⟩) = (c == a) := by
  rw [Bool.eq_iff_iff, beq_iff_eq, beq_iff_eq]
  constructor
  · intro h; injection h with h; injection h with h; injection h with h; exact h.symm
  · intro h; rw [h]
/-- what a part says of a sign -/
noncomputable def SignOk (w : World) (part : Str) (sg : Nat → Bool) : Prop := ∀ {A : Around} {s : Shared} {Q E : Value → Shared → Prop} {loose : List Str} {mean : ExcName → Option Value} {mg mb : Str → Option Value} (_ : (hd.heap_1 w.params).In s.heap) (_ : Top topProg loose mean mg mb s.heap) (_ : A.handled = none) (_ : A.depth + 3 < recursionLimit) (_ : A.units + 20 < cLine) (c : Nat) (t1 t2 : Tok)
    (_ : ∀ h' tk', Ext s.heap h' → Q (.bool (sg c)) { s with heap := h', toks := tk' }), wpAny (model prg w) A (call (.ref 160) [.str part t1, .str ⟨#[c]⟩ t2] []) Q E s
set_option maxHeartbeats 8000000 in
theorem s_AZ (w : World) : SignOk w (Str.ofString "[A-Z]") (fun c => decide (65 ≤ c ∧ c ≤ 90)) := by
  intro A s Q E loose mean mg mb X T hh hr hu c t1 t2 hQ
  obtain ⟨hd', dp, fr, gd, un⟩ := A
  dsimp only at hh hr hu
  subst hh
  refine' pcall X T ?k6 ?k7 (Nat.lt_of_le_of_lt (Nat.le_add_right _ _) hr) ?k9 ?kB ?c2 ?c3 ?c4 ?c5 ?_
  case k6 => k_is
  case k7 => k_is
  case k9 => first | exact BindsTo.of_eq rfl | exact binds_K X rfl (by k_is) rfl rfl rfl
  case c5 => decide
  case kB => exact locs rfl
  case c2 => exact rfl
  case c3 => exact rfl
  case c4 => exact rfl
  intro L' h' F N envL AL
  (try dsimp only)
  show wpAny _ _ _ _ _ _
  k_fold
  k_steps
  all_goals (
    (rename Fr _ _ _ _ => F9)
    (try dsimp only)
    refine q_bool (Q := Q) (hQ _ _ F9.keep) ?_
    clear F9 hQ X T
    simp only [show Txt.item (Str.ofString "A-Z") 0 = ⟨#[65]⟩ from by decide +kernel, show Txt.item (Str.ofString "A-Z") 2 = ⟨#[90]⟩ from by decide +kernel, show (Txt.item (Str.ofString "[A-Z]") 1 == Str.ofString "^") = false from by decide +kernel, lt_one] at *
    rw [Bool.eq_iff_iff]
    simp
    omega)
set_option maxHeartbeats 8000000 in
theorem s_az (w : World) : SignOk w (Str.ofString "[a-z]") (fun c => decide (97 ≤ c ∧ c ≤ 122)) := by
  intro A s Q E loose mean mg mb X T hh hr hu c t1 t2 hQ
  obtain ⟨hd', dp, fr, gd, un⟩ := A
  dsimp only at hh hr hu
  subst hh
  refine' pcall X T ?k6 ?k7 (Nat.lt_of_le_of_lt (Nat.le_add_right _ _) hr) ?k9 ?kB ?c2 ?c3 ?c4 ?c5 ?_
  case k6 => k_is
  case k7 => k_is
  case k9 => first | exact BindsTo.of_eq rfl | exact binds_K X rfl (by k_is) rfl rfl rfl
  case c5 => decide
  case kB => exact locs rfl
  case c2 => exact rfl
  case c3 => exact rfl
  case c4 => exact rfl
  intro L' h' F N envL AL
  (try dsimp only)
  show wpAny _ _ _ _ _ _
  k_fold
  k_steps
  all_goals (
    (rename Fr _ _ _ _ => F9)
    (try dsimp only)
    refine q_bool (Q := Q) (hQ _ _ F9.keep) ?_
    clear F9 hQ X T
    simp only [show Txt.item (Str.ofString "a-z") 0 = ⟨#[97]⟩ from by decide +kernel, show Txt.item (Str.ofString "a-z") 2 = ⟨#[122]⟩ from by decide +kernel, show (Txt.item (Str.ofString "[a-z]") 1 == Str.ofString "^") = false from by decide +kernel, lt_one] at *
    rw [Bool.eq_iff_iff]
    simp
    omega)
set_option maxHeartbeats 8000000 in
theorem s_n9 (w : World) : SignOk w (Str.ofString "[0-9]") (fun c => decide (48 ≤ c ∧ c ≤ 57)) := by
  intro A s Q E loose mean mg mb X T hh hr hu c t1 t2 hQ
  obtain ⟨hd', dp, fr, gd, un⟩ := A
  dsimp only at hh hr hu
  subst hh
  refine' pcall X T ?k6 ?k7 (Nat.lt_of_le_of_lt (Nat.le_add_right _ _) hr) ?k9 ?kB ?c2 ?c3 ?c4 ?c5 ?_
  case k6 => k_is
  case k7 => k_is
  case k9 => first | exact BindsTo.of_eq rfl | exact binds_K X rfl (by k_is) rfl rfl rfl
  case c5 => decide
  case kB => exact locs rfl
  case c2 => exact rfl
  case c3 => exact rfl
  case c4 => exact rfl
  intro L' h' F N envL AL
  (try dsimp only)
  show wpAny _ _ _ _ _ _
  k_fold
  k_steps
  all_goals (
    (rename Fr _ _ _ _ => F9)
    (try dsimp only)
    refine q_bool (Q := Q) (hQ _ _ F9.keep) ?_
    clear F9 hQ X T
    simp only [show Txt.item (Str.ofString "0-9") 0 = ⟨#[48]⟩ from by decide +kernel, show Txt.item (Str.ofString "0-9") 2 = ⟨#[57]⟩ from by decide +kernel, show (Txt.item (Str.ofString "[0-9]") 1 == Str.ofString "^") = false from by decide +kernel, lt_one] at *
    rw [Bool.eq_iff_iff]
    simp
    omega)
set_option maxHeartbeats 8000000 in
theorem s_any (w : World) : SignOk w (Str.ofString "any") (fun c => true) := by
  intro A s Q E loose mean mg mb X T hh hr hu c t1 t2 hQ
  obtain ⟨hd', dp, fr, gd, un⟩ := A
  dsimp only at hh hr hu
  subst hh
  refine' pcall X T ?k6 ?k7 (Nat.lt_of_le_of_lt (Nat.le_add_right _ _) hr) ?k9 ?kB ?c2 ?c3 ?c4 ?c5 ?_
  case k6 => k_is
  case k7 => k_is
  case k9 => first | exact BindsTo.of_eq rfl | exact binds_K X rfl (by k_is) rfl rfl rfl
  case c5 => decide
  case kB => exact locs rfl
  case c2 => exact rfl
  case c3 => exact rfl
  case c4 => exact rfl
  intro L' h' F N envL AL
  (try dsimp only)
  show wpAny _ _ _ _ _ _
  k_fold
  k_steps
  all_goals (
    (rename Fr _ _ _ _ => F9)
    (try dsimp only)
    refine q_bool (Q := Q) (hQ _ _ F9.keep) ?_
    clear F9 hQ X T
    exact (by decide +kernel : (Str.ofString "any" == Str.ofString "any") = true))
set_option maxHeartbeats 8000000 in
theorem s_pl (w : World) : SignOk w (Str.ofString "[+/]") (fun c => c == 43 || c == 47) := by
  intro A s Q E loose mean mg mb X T hh hr hu c t1 t2 hQ
  obtain ⟨hd', dp, fr, gd, un⟩ := A
  dsimp only at hh hr hu
  subst hh
  refine' pcall X T ?k6 ?k7 (Nat.lt_of_le_of_lt (Nat.le_add_right _ _) hr) ?k9 ?kB ?c2 ?c3 ?c4 ?c5 ?_
  case k6 => k_is
  case k7 => k_is
  case k9 => first | exact BindsTo.of_eq rfl | exact binds_K X rfl (by k_is) rfl rfl rfl
  case c5 => decide
  case kB => exact locs rfl
  case c2 => exact rfl
  case c3 => exact rfl
  case c4 => exact rfl
  intro L' h' F N envL AL
  (try dsimp only)
  show wpAny _ _ _ _ _ _
  k_fold
  k_steps
  all_goals (
    (rename Fr _ _ _ _ => F9)
    (try dsimp only)
    refine q_bool (Q := Q) (hQ _ _ F9.keep) ?_
    clear F9 hQ X T
    rw [StrLaws.found_one, show (Txt.item (Str.ofString "[+/]") 1 == Str.ofString "^") = false from by decide +kernel, show (Str.ofString "+/").cps.toList = [43, 47] from by decide +kernel]
    rw [Bool.eq_iff_iff]
    simp)
set_option maxHeartbeats 8000000 in
theorem s_A (w : World) : SignOk w (Str.ofString "A") (fun c => c == 65) := by
  intro A s Q E loose mean mg mb X T hh hr hu c t1 t2 hQ
  obtain ⟨hd', dp, fr, gd, un⟩ := A
  dsimp only at hh hr hu
  subst hh
  refine' pcall X T ?k6 ?k7 (Nat.lt_of_le_of_lt (Nat.le_add_right _ _) hr) ?k9 ?kB ?c2 ?c3 ?c4 ?c5 ?_
  case k6 => k_is
  case k7 => k_is
  case k9 => first | exact BindsTo.of_eq rfl | exact binds_K X rfl (by k_is) rfl rfl rfl
  case c5 => decide
  case kB => exact locs rfl
  case c2 => exact rfl
  case c3 => exact rfl
  case c4 => exact rfl
  intro L' h' F N envL AL
  (try dsimp only)
  show wpAny _ _ _ _ _ _
  k_fold
  k_steps
  all_goals (
    (rename Fr _ _ _ _ => F9)
    (try dsimp only)
    refine q_bool (Q := Q) (hQ _ _ F9.keep) ?_
    clear F9 hQ X T
    rw [show Txt.item (Str.ofString "A") (-1) = ⟨#[65]⟩ from by decide +kernel]
    exact one_eq 65 c)
set_option maxHeartbeats 8000000 in
theorem s_eq (w : World) : SignOk w (Str.ofString "=") (fun c => c == 61) := by
  intro A s Q E loose mean mg mb X T hh hr hu c t1 t2 hQ
  obtain ⟨hd', dp, fr, gd, un⟩ := A
  dsimp only at hh hr hu
  subst hh
  refine' pcall X T ?k6 ?k7 (Nat.lt_of_le_of_lt (Nat.le_add_right _ _) hr) ?k9 ?kB ?c2 ?c3 ?c4 ?c5 ?_
  case k6 => k_is
  case k7 => k_is
  case k9 => first | exact BindsTo.of_eq rfl | exact binds_K X rfl (by k_is) rfl rfl rfl
  case c5 => decide
  case kB => exact locs rfl
  case c2 => exact rfl
  case c3 => exact rfl
  case c4 => exact rfl
  intro L' h' F N envL AL
  (try dsimp only)
  show wpAny _ _ _ _ _ _
  k_fold
  k_steps
  all_goals (
    (rename Fr _ _ _ _ => F9)
    (try dsimp only)
    refine q_bool (Q := Q) (hQ _ _ F9.keep) ?_
    clear F9 hQ X T
    rw [show Txt.item (Str.ofString "=") (-1) = ⟨#[61]⟩ from by decide +kernel]
    exact one_eq 61 c)
set_option maxHeartbeats 8000000 in
theorem s_ne (w : World) : SignOk w (Str.ofString "[^=]") (fun c => c != 61) := by
  intro A s Q E loose mean mg mb X T hh hr hu c t1 t2 hQ
  obtain ⟨hd', dp, fr, gd, un⟩ := A
  dsimp only at hh hr hu
  subst hh
  refine' pcall X T ?k6 ?k7 (Nat.lt_of_le_of_lt (Nat.le_add_right _ _) hr) ?k9 ?kB ?c2 ?c3 ?c4 ?c5 ?_
  case k6 => k_is
  case k7 => k_is
  case k9 => first | exact BindsTo.of_eq rfl | exact binds_K X rfl (by k_is) rfl rfl rfl
  case c5 => decide
  case kB => exact locs rfl
  case c2 => exact rfl
  case c3 => exact rfl
  case c4 => exact rfl
  intro L' h' F N envL AL
  (try dsimp only)
  show wpAny _ _ _ _ _ _
  k_fold
  k_steps
  all_goals (
    (rename Fr _ _ _ _ => F9)
    (try dsimp only)
    refine q_bool (Q := Q) (hQ _ _ F9.keep) ?_
    clear F9 hQ X T
    rw [StrLaws.found_one, show (Txt.item (Str.ofString "[^=]") 1 == Str.ofString "^") = true from by decide +kernel, show (Str.ofString "=").cps.toList = [61] from by decide +kernel]
    rw [Bool.eq_iff_iff]
    simp)
end Mine
end
section -- C14
namespace Mine



noncomputable def minL (l : List Int) : Int := l.foldl min (l.headD 0)
noncomputable def stepT (sgf : Str → Nat → Bool) (cs : List Nat) (pl : List Int) (p : Str) : List Int :=
  if p = Str.ofString "many" then (if pl = [] then [] else rangeKs (minL pl) (((cs.length : Int) + 1 - minL pl)).toNat)
  else (pl.filter fun q => decide (q < (cs.length : Int)) && sgf p (cs.getD q.toNat 0)).map (· + 1)
noncomputable def takesF (sgf : Str → Nat → Bool) (ps : List Str) (cs : List Nat) : Bool := (ps.foldl (stepT sgf cs) [0]).any (· == (cs.length : Int))
noncomputable abbrev mpT (base : Str → Option Value) (D : Addr) : Str → Option Value := fun y => if y = Str.ofString "places" then some (.ref D) else base y
theorem mpT_of {m' m0 : Str → Option Value} {D : Addr} (e0 : m' (Str.ofString "places") = some (.ref D)) (eo : ∀ y, y ≠ Str.ofString "places" → m' y = m0 y) : m' = mpT m0 D := by
  funext y
  by_cases h1 : y = Str.ofString "places"
  · subst h1; rw [e0]; rfl
  rw [eo y h1]
  simp only [mpT, if_neg h1]
noncomputable def Bd (n : Nat) (pl : List Int) : Prop := ∀ q ∈ pl, 0 ≤ q ∧ q ≤ (n : Int)
theorem bd_mem {n : Nat} {pl : List Int} {M : Int} (h : Bd n pl) (hm : M ∈ pl) : 0 ≤ M ∧ M ≤ (n : Int) := h M hm
theorem len_pos {pl : List Int} (h : decide (pl = []) = false) : 0 < pl.length := by cases pl with
  | nil => simp at h
  | cons _ _ => simp
theorem not_many {p : Str} (h : (p == Str.ofString "many") = false) : p ≠ Str.ofString "many" := fun e => by rw [e] at h; simp at h
theorem use_sign {w : World} {A : Around} {s : Shared} {Q E : Value → Shared → Prop} {loose : List Str} {mean : ExcName → Option Value} {mg mb : Str → Option Value} {part : Str} {sg : Nat → Bool} (h : SignOk w part sg)
    (X : (hd.heap_1 w.params).In s.heap) (T : Top topProg loose mean mg mb s.heap) (hh : A.handled = none) (hr : A.depth + 3 < recursionLimit) (hu : A.units + 20 < cLine) (c : Nat) (t1 t2 : Tok)
    (hQ : ∀ h' tk', Ext s.heap h' → Q (.bool (sg c)) { s with heap := h', toks := tk' }) : wpAny (model prg w) A (call (.ref 160) [.str part t1, .str ⟨#[c]⟩ t2] []) Q E s := h X T hh hr hu c t1 t2 hQ
theorem name_item {prog : Program} {w : World} {A : Around} {E : Value → Shared → Prop} {s : Shared} {value slice : PySem.Expr} {cs : List Nat} {t u : Tok} {k : Int} {Q : Value → Shared → Prop} (h0 : 0 ≤ k) (h1 : k < (cs.length : Int)) (h2 : cs.length ≤ 20)
    (h : Q (.str ⟨#[cs.getD k.toNat 0]⟩ s.toks) { s with toks := s.toks + 1 })
    (hs : subscripted slice false (.str ⟨cs.toArray⟩ t) (.int k u) = operate [.str ⟨cs.toArray⟩ t, .int k u] (getItem (.str ⟨cs.toArray⟩ t) (.int k u)))
    (ht : ∀ r, letTemporaryGo value (.str ⟨cs.toArray⟩ t) r = pure ()) :
    wpAny (model prog w) A (subscriptTail value slice (.str ⟨cs.toArray⟩ t) (.int k u)) Q E s := by
  have hl : (⟨cs.toArray⟩ : Str).length = cs.length := by simp [Str.length]
  refine item_str (fitsSsize_of (N := 64) (by omega) (by omega) (by decide)) (by omega) (by omega) (fun _ => ?_) hs ht
  rw [item_meets (n := cs.getD k.toNat 0) h0 ?_]
  · exact h
  · have : k.toNat < cs.length := by omega
    simp [List.getD_eq_getElem?_getD, this]
theorem name_len {prog : Program} {w : World} {A : Around} {E : Value → Shared → Prop} {s : Shared} {cs : List Nat} {t : Tok} {Q : Value → Shared → Prop} (h2 : cs.length ≤ 20) (h : Q (.int (cs.length : Int) (s.toks + 1)) { s with toks := s.toks + 1 + 1 }) : wpAny (model prog w) A (call (.builtin "len") [.str ⟨cs.toArray⟩ t]) Q E s := by
  have hl : (⟨cs.toArray⟩ : Str).length = cs.length := by simp [Str.length]
  refine PyProof.Rows.len_str (by rw [hl]; omega) ?_
  rw [hl]; exact h
theorem foldl_min_le (l : List Int) : ∀ a : Int, l.foldl min a ≤ a ∧ ∀ b ∈ l, l.foldl min a ≤ b := by
  induction l with
  | nil => intro a; exact ⟨Int.le_refl _, by simp⟩
  | cons x r ih =>
    intro a
    obtain ⟨h1, h2⟩ := ih (min a x)
    rw [List.foldl_cons]
    refine ⟨by omega, fun b hb => ?_⟩
    rcases List.mem_cons.mp hb with rfl | hb
    · omega
    · exact h2 b hb
theorem foldl_min_in (l : List Int) : ∀ a : Int, l.foldl min a = a ∨ l.foldl min a ∈ l := by
  induction l with
  | nil => intro a; exact .inl rfl
  | cons x r ih =>
    intro a
    rw [List.foldl_cons]
    rcases ih (min a x) with h | h
    · rw [h]
      by_cases hx : a ≤ x
      · left; omega
      · right; have : min a x = x := by omega
        rw [this]; exact List.mem_cons_self
    · right; exact List.mem_cons_of_mem _ h
theorem minL_eq {pl : List Int} {M : Int} (h1 : M ∈ pl) (h2 : ∀ a : Int, a ∈ pl → M ≤ a) : minL pl = M := by
  unfold minL
  cases pl with
  | nil => simp at h1
  | cons x r =>
    have e := foldl_min_le (x :: r) ((x :: r).headD 0)
    have i := foldl_min_in (x :: r) ((x :: r).headD 0)
    have a1 := e.2 M h1
    have a2 : M ≤ (x :: r).foldl min ((x :: r).headD 0) := by
      rcases i with h | h
      · rw [h]; exact h2 x List.mem_cons_self
      · exact h2 _ h
    omega
theorem step_nil {sgf : Str → Nat → Bool} {cs : List Nat} {pl : List Int} {p : Str} (h : (p == Str.ofString "many") = true) (hp : decide (pl = []) = true) : stepT sgf cs pl p = [] := by
  unfold stepT
  rw [if_pos (eq_of_beq h), if_pos (of_decide_eq_true hp)]
theorem step_many {sgf : Str → Nat → Bool} {cs : List Nat} {pl : List Int} {p : Str} {M : Int} (h : (p == Str.ofString "many") = true) (hp : decide (pl = []) = false) (h1 : M ∈ pl) (h2 : ∀ a : Int, a ∈ pl → M ≤ a) : stepT sgf cs pl p = rangeKs M (Int.toNat ((cs.length : Int) + 1 - M)) := by
  unfold stepT
  rw [if_pos (eq_of_beq h), if_neg (of_decide_eq_false hp), minL_eq h1 h2]
theorem step_part {sgf : Str → Nat → Bool} {cs : List Nat} {pl : List Int} {p : Str} (h : (p == Str.ofString "many") = false) : stepT sgf cs pl p = (pl.filter fun q => decide (q < (cs.length : Int)) && sgf p (cs.getD q.toNat 0)).map (· + 1) := by
  unfold stepT
  rw [if_neg (not_many h)]
theorem bd_range {n : Nat} {M : Int} (h : 0 ≤ M ∧ M ≤ (n : Int)) : Bd n (rangeKs M (Int.toNat ((n : Int) + 1 - M))) := fun q hq => by
  have := mem_rangeKs hq; omega
theorem bd_part {n : Nat} {pl : List Int} {f : Int → Bool} (h : Bd n pl) : Bd n ((pl.filter fun q => decide (q < (n : Int)) && f q).map (· + 1)) := fun q hq => by
  obtain ⟨r, hr, rfl⟩ := List.mem_map.mp hq
  obtain ⟨h1, h2⟩ := List.mem_filter.mp hr
  have h3 := h r h1
  have h4 : r < (n : Int) := by simp at h2; exact h2.1
  show 0 ≤ r + 1 ∧ r + 1 ≤ (n : Int)
  omega
noncomputable def JT (sgf : Str → Nat → Bool) (cs : List Nat) (ps : List Str) (m0 : Str → Option Value) (c1 c2 : Addr) (o2 : Obj) (i : Nat) (m : Str → Option Value) (news : List (Addr × Obj)) : Prop :=
  ∃ (D : Addr) (ws : List Value) (n : Nat) (o1 : Obj) (v1 : Option Value) (pl : List Int), m = mpT m0 D ∧ news = [(D, { cls := .type "list", data := .seq (List.toArray ws) n }), (c1, o1), (c2, o2)] ∧ o1.data = .cell v1 ∧ c1 ≠ D ∧ c2 ≠ D ∧
    IntsAre ws pl ∧ pl = (ps.take i).foldl (stepT sgf cs) [0] ∧ Bd cs.length pl ∧ pl.length ≤ cs.length + 1
theorem JT_end {sgf : Str → Nat → Bool} {cs : List Nat} {ps : List Str} {m0 : Str → Option Value} {c1 c2 : Addr} {o2 : Obj} {i : Nat} {h₀ h' : Heap} {L I D D' : Addr} {it : Obj} {s : Shared} {R : Result → Shared → Prop} {f : Flow} {y : Str → Option Value} {all : List (Addr × Obj)} {ws : List Value} {n : Nat} {o1 : Obj} {v1 : Option Value} {pl : List Int} {tk : Nat}
    (F : Fr h₀ L h' y) (N : News h₀ L h' all) (hf : f = .next) (hy : y = fun z => if z = Str.ofString "places" then some (.ref D') else mpT m0 D z)
    (a1 : (D', ({ cls := .type "list", data := .seq (List.toArray ws) n } : Obj)) ∈ all) (a2 : (I, it) ∈ all) (a3 : (c1, o1) ∈ all) (a4 : (c2, o2) ∈ all) (ho : o1.data = .cell v1)
    (n1 : @Ne Nat D' I) (n2 : @Ne Nat c1 I) (n3 : @Ne Nat c2 I) (n4 : @Ne Nat c1 D') (n5 : @Ne Nat c2 D')
    (hw : IntsAre ws pl) (hp : pl = (ps.take i).foldl (stepT sgf cs) [0]) (hb : Bd cs.length pl) (hn : pl.length ≤ cs.length + 1) :
    TurnP h₀ L I it (JT sgf cs ps m0 c1 c2 o2 i) s R f { s with heap := h', toks := tk } := by
  subst hf
  refine ⟨h', tk, y, [(D', { cls := .type "list", data := .seq (List.toArray ws) n }), (c1, o1), (c2, o2)], rfl, F, fun p hp => N p ?_, ?_, ⟨D', ws, n, o1, v1, pl, ?_, rfl, ho, n4, n5, hw, hp, hb, hn⟩⟩
  · simp only [List.mem_cons, List.not_mem_nil, or_false] at hp
    rcases hp with rfl | rfl | rfl | rfl <;> assumption
  · simp only [List.forall_mem_cons]
    exact ⟨n1, n2, n3, by simp⟩
  · subst hy
    funext z
    simp only [mpT]
    split <;> rfl
theorem mpT_star {m0 : Str → Option Value} {D : Addr} {v : Value} (h : m0 (Str.ofString "star") = some v) : mpT m0 D (Str.ofString "star") = some v := h
set_option maxHeartbeats 8000000 in
theorem c_takes {w : World} {A : Around} {s : Shared} {Q E : Value → Shared → Prop} {loose : List Str} {mean : ExcName → Option Value} {mg mb : Str → Option Value}
    (X : (hd.heap_1 w.params).In s.heap) (T : Top topProg loose mean mg mb s.heap) (hh : A.handled = none) (hr : A.depth + 6 < recursionLimit) (hu : A.units + 100 < cLine) (l : Addr) (vs : List Value) (ps : List Str) (cs : List Nat) (ts tn : Tok) (sgf : Str → Nat → Bool)
    (hn : ps.length ≤ 8) (hc : cs.length ≤ 20) (hsg : ∀ p ∈ ps, p ≠ Str.ofString "many" → SignOk w p (sgf p))
    (hl : s.heap.IsList l vs.toArray) (hI : StrsAre vs ps)
    (hQ : ∀ h' tk', Ext s.heap h' → Q (.bool (takesF sgf ps cs)) { s with heap := h', toks := tk' }) :
    wpAny (model prg w) A (call (.ref 165) [.ref l, .str (Str.ofString "many") ts, .str ⟨cs.toArray⟩ tn] []) Q E s := by
  have hlen := (are_strs hI).length
  obtain ⟨hd', dp, fr, gd, un⟩ := A
  dsimp only at hh hr hu
  subst hh
  refine' pcallC X T ?k6 ?k7 (Nat.lt_of_le_of_lt (Nat.le_add_right _ _) hr) ?k9 ?kB ?kD ?c2 ?c3 ?c4 ?_
  case k6 => k_is
  case k7 => k_is
  case k9 => rfl
  case kB => exact rfl
  case kD => decide +kernel
  case c2 => exact rfl
  case c3 => exact rfl
  case c4 => exact rfl
  intro L' h' tk cells F' N' Y' envL AL
  refine letM F' ?_
  clear F'
  intro mL F'
  have hY := CellsAre.two Y'
  obtain ⟨op, on, hE, hp9, hn9⟩ := hY
  subst hE
  clear Y'
  replace hp9 : op.data = .cell none := hp9
  replace hn9 : on.data = .cell (some (.str ⟨cs.toArray⟩ tn)) := hn9
  (try simp only [List.cons_append, List.nil_append] at N')
  (try dsimp only)
  show wpAny _ _ _ _ _ _
  k_fold
  (repeat' (first | ((try k_unmd); k_unfold; first | (with_reducible (first | refine after_nil ?_ | refine after_next ?_ | refine after_ret ?_ | refine after_brk ?_ | refine after_cont ?_)) | (try dsimp only [List.cons_append, List.nil_append])) | ((with_reducible show wpAny _ _ (exec _ _) _ _ _); first | ((with_reducible show wpAny _ _ (exec (Stmt.For _ (PySem.Expr.Name _ _) _ _ _) _) _ _ _); ((k_dflt (refine for_any ?_)))) | ((with_reducible show wpAny _ _ (exec (Stmt.Assign _ (PySem.Expr.ListComp _ _ _ _) _) _) _ _ _); (first | (k_dflt (refine LCt.Assign_ListComp_T (F₀ := by k_asm) (by rfl) (by with_unfolding_all rfl) (by with_unfolding_all rfl) (by decide) (by rfl) (by decide) (by rfl) (by rfl) (by rfl) ?_)))) | ((with_reducible show wpAny _ _ (exec (Stmt.For _ _ _ _ _) _) _ _ _); ((k_dflt (refine for_any ?_))))) | ((with_reducible show wpAny _ _ (subscriptTail (PySem.Expr.Name _ _) (PySem.Expr.Name _ _) (Value.str _ _) (Value.int _ _)) _ _ _); ((k_dflt (refine name_item (by omega) (by omega) (by assumption) ?_ (by with_unfolding_all rfl) (by intro _; with_unfolding_all rfl))))) | ((with_reducible show wpAny _ _ (compareOp CmpOp.NotEq (Value.ref _) (Value.ref _)) _ _ _); ((refine' ne_intsK ?ea ?ei ?eb ?ej ?eu ?_; (case ea => (first | exact News.isList (by assumption) (by k_mem) | (((rename Fr _ _ _ _ => F9); exact Heap.IsList.at (by assumption) fun o e => F9.keep _ o e)))); (case ei => assumption); (case eb => (first | exact News.isList (by assumption) (by k_mem) | (((rename Fr _ _ _ _ => F9); exact Heap.IsList.at (by assumption) fun o e => F9.keep _ o e)))); (case ej => exact IntsAre.nil); (case eu => ((simp +zetaDelta only [depth_deeper, units_deeper]; omega)))))) | ((with_reducible show wpAny _ _ (eval (PySem.Expr.ListComp _ _ _ _) _) _ _ _); (first | (k_dflt (refine LCt.ListComp_T (F₀ := by k_asm) (by with_unfolding_all rfl) (by decide) (by rfl) (by decide) (by rfl) ?_)) | (k_dflt (refine LCg.ListComp_U (F₀ := by k_asm) (by with_unfolding_all rfl) (by decide) (by rfl) (by decide) (by rfl) ?_)))) | ((with_reducible show wpAny _ _ (eval (PySem.Expr.Name _ _) _) _ _ _); ((k_dflt (refine nameX_L (by k_asm) (mpT_star (by assumption)) ?_)))) | ((with_reducible show wpAny _ _ (call _ _ _) _ _ _); first | ((with_reducible show wpAny _ _ (call (Value.builtin "len") _ _) _ _ _); ((refine name_len (by assumption) ?_))) | ((with_reducible show wpAny _ _ (call (Value.ref _) _ _) _ _ _); ((refine' use_sign ?ch ?cx ?ct rfl ?cr ?cu _ _ _ ?_; (case ch => assumption); (case cx => ((first | assumption | exact Frag.In.keeps (by assumption) (Fr.keep (by assumption))))); (case ct => ((first | assumption | exact Top.keeps (by assumption) (Fr.keep (by assumption))))); (case cr => ((simp +zetaDelta only [depth_deeper, units_deeper]; omega))); (case cu => ((simp +zetaDelta only [depth_deeper, units_deeper]; omega))); intro h9 tk9 hx9; (((rename Fr _ _ _ _ => F9); (rename News _ _ _ _ => N9); (rename Ext _ _ => hx9); (have F8 := fr_ext F9 hx9); (have N8 := news_ext N9 hx9); clear F9 N9 hx9; (try dsimp only); (try k_fold)))))) | ((with_reducible show wpAny _ _ (call (Value.builtin "min") _ _) _ _ _); ((refine' kso_min ?k1 ?k2 ?k3 ?k4 ?k5 ?k6 ?_; (case k1 => assumption); (case k2 => assumption); (case k3 => (first | exact News.isList (by assumption) (by k_mem) | (((rename Fr _ _ _ _ => F9); exact Heap.IsList.at (by assumption) fun o e => F9.keep _ o e)))); (case k4 => assumption); (case k5 => exact len_pos (by assumption)); (case k6 => with_unfolding_all rfl); intro h9 M9 t9 k9 F8 N8 a9 b9; (have hM9 := bd_mem (by assumption) a9); (try k_sweep))))) | ((with_reducible show wpAny _ _ (execs (_ :: _) _) _ _ _); ((refine execs_f ?_; intro qk))) | ((with_reducible show wpAny _ _ (storeName _ _ _) _ _ _); ((k_dflt (refine' store_f ?F ?N ?b ?a ?_; (case F => k_asm); (case N => k_asm); (case b => rfl); (case a => rfl); k_whole; intro m' h' F' N'; (try k_sweep))))) | (k_end; wrow_close) | walk1 | dsimp only | (leave1; try dsimp only)))
  (rename Fr _ _ _ _ => F9)
  (rename News _ _ _ _ => N9)
  obtain ⟨m0, hm0, F8⟩ := fr_name F9
  refine iter_list (by rfl) hl (JT sgf cs ps m0 (L' + 1 + 1) (L' + 1) on) F8 N9 ?_ ?_ ?_
  · obtain ⟨D9, hD9⟩ := news_one N9
    have e1 : m0 (Str.ofString "places") = some (.ref D9) := by subst hm0; subst hD9; exact rfl
    subst hD9
    refine ⟨_, _, _, _, _, [0], mpT_of e1 (fun _ _ => rfl), rfl, hp9, ?_, ?_, .cons _ _ .nil, rfl, ?_, ?_⟩
    · refine neN ?_; omega
    · refine neN ?_; omega
    · intro q hq; simp at hq; subst hq; exact ⟨by decide, by omega⟩
    · simp
  · intro i v m₁ news₁ I it h tk hv hlt hJ off F N
    refine hideG ?_
    intro q9
    obtain ⟨D, ws, n, o1, v1, pl, rfl, rfl, ho1, hD1, hD2, hws, hpl, hbd, hpn⟩ := hJ
    obtain ⟨p, hp, t, rfl⟩ := (are_strs hI).at i v (by simpa using hv)
    (try k_unmd)
    k_unfold
    have hpm := List.mem_of_getElem? hp
    have hI0 : (@Ne Nat D I) := off _ (List.Mem.head _)
    have hI1 : (@Ne Nat (L' + 1 + 1) I) := off (L' + 1 + 1, o1) (by simp)
    have hI2 : (@Ne Nat (L' + 1) I) := off (L' + 1, on) (by simp)
    replace hD1 : (@Ne Nat (L' + 1 + 1) D) := hD1
    replace hD2 : (@Ne Nat (L' + 1) D) := hD2
    have hst : m0 (Str.ofString "star") = some (.str (Str.ofString "many") ts) := by subst hm0; exact rfl
    have hstep : (ps.take (i + 1)).foldl (stepT sgf cs) [0] = stepT sgf cs pl p := by rw [List.take_add_one, hp]; simp [hpl]
    have hwl := hws.length
    clear F8 F9 N9
    show wpAny _ _ _ _ _ _
    k_fold
    (repeat' (first | ((try k_unmd); k_unfold; first | (with_reducible (first | refine after_nil ?_ | refine after_next ?_ | refine after_ret ?_ | refine after_brk ?_ | refine after_cont ?_)) | (try dsimp only [List.cons_append, List.nil_append])) | ((with_reducible show wpAny _ _ (exec _ _) _ _ _); first | ((with_reducible show wpAny _ _ (exec (Stmt.For _ (PySem.Expr.Name _ _) _ _ _) _) _ _ _); ((k_dflt (refine for_any ?_)))) | ((with_reducible show wpAny _ _ (exec (Stmt.Assign _ (PySem.Expr.ListComp _ _ _ _) _) _) _ _ _); (first | (k_dflt (refine LCt.Assign_ListComp_T (F₀ := by k_asm) (by rfl) (by with_unfolding_all rfl) (by with_unfolding_all rfl) (by decide) (by rfl) (by decide) (by rfl) (by rfl) (by rfl) ?_)))) | ((with_reducible show wpAny _ _ (exec (Stmt.For _ _ _ _ _) _) _ _ _); ((k_dflt (refine for_any ?_))))) | ((with_reducible show wpAny _ _ (subscriptTail (PySem.Expr.Name _ _) (PySem.Expr.Name _ _) (Value.str _ _) (Value.int _ _)) _ _ _); ((k_dflt (refine name_item (by omega) (by omega) (by assumption) ?_ (by with_unfolding_all rfl) (by intro _; with_unfolding_all rfl))))) | ((with_reducible show wpAny _ _ (compareOp CmpOp.NotEq (Value.ref _) (Value.ref _)) _ _ _); ((refine' ne_intsK ?ea ?ei ?eb ?ej ?eu ?_; (case ea => (first | exact News.isList (by assumption) (by k_mem) | (((rename Fr _ _ _ _ => F9); exact Heap.IsList.at (by assumption) fun o e => F9.keep _ o e)))); (case ei => assumption); (case eb => (first | exact News.isList (by assumption) (by k_mem) | (((rename Fr _ _ _ _ => F9); exact Heap.IsList.at (by assumption) fun o e => F9.keep _ o e)))); (case ej => exact IntsAre.nil); (case eu => ((simp +zetaDelta only [depth_deeper, units_deeper]; omega)))))) | ((with_reducible show wpAny _ _ (eval (PySem.Expr.ListComp _ _ _ _) _) _ _ _); (first | (k_dflt (refine LCt.ListComp_T (F₀ := by k_asm) (by with_unfolding_all rfl) (by decide) (by rfl) (by decide) (by rfl) ?_)) | (k_dflt (refine LCg.ListComp_U (F₀ := by k_asm) (by with_unfolding_all rfl) (by decide) (by rfl) (by decide) (by rfl) ?_)))) | ((with_reducible show wpAny _ _ (eval (PySem.Expr.Name _ _) _) _ _ _); ((k_dflt (refine nameX_L (by k_asm) (mpT_star (by assumption)) ?_)))) | ((with_reducible show wpAny _ _ (call _ _ _) _ _ _); first | ((with_reducible show wpAny _ _ (call (Value.builtin "len") _ _) _ _ _); ((refine name_len (by assumption) ?_))) | ((with_reducible show wpAny _ _ (call (Value.ref _) _ _) _ _ _); ((refine' use_sign ?ch ?cx ?ct rfl ?cr ?cu _ _ _ ?_; (case ch => assumption); (case cx => ((first | assumption | exact Frag.In.keeps (by assumption) (Fr.keep (by assumption))))); (case ct => ((first | assumption | exact Top.keeps (by assumption) (Fr.keep (by assumption))))); (case cr => ((simp +zetaDelta only [depth_deeper, units_deeper]; omega))); (case cu => ((simp +zetaDelta only [depth_deeper, units_deeper]; omega))); intro h9 tk9 hx9; (((rename Fr _ _ _ _ => F9); (rename News _ _ _ _ => N9); (rename Ext _ _ => hx9); (have F8 := fr_ext F9 hx9); (have N8 := news_ext N9 hx9); clear F9 N9 hx9; (try dsimp only); (try k_fold)))))) | ((with_reducible show wpAny _ _ (call (Value.builtin "min") _ _) _ _ _); ((refine' kso_min ?k1 ?k2 ?k3 ?k4 ?k5 ?k6 ?_; (case k1 => assumption); (case k2 => assumption); (case k3 => (first | exact News.isList (by assumption) (by k_mem) | (((rename Fr _ _ _ _ => F9); exact Heap.IsList.at (by assumption) fun o e => F9.keep _ o e)))); (case k4 => assumption); (case k5 => exact len_pos (by assumption)); (case k6 => with_unfolding_all rfl); intro h9 M9 t9 k9 F8 N8 a9 b9; (have hM9 := bd_mem (by assumption) a9); (try k_sweep))))) | ((with_reducible show wpAny _ _ (execs (_ :: _) _) _ _ _); ((refine execs_f ?_; intro qk))) | ((with_reducible show wpAny _ _ (storeName _ _ _) _ _ _); ((k_dflt (refine' store_f ?F ?N ?b ?a ?_; (case F => k_asm); (case N => k_asm); (case b => rfl); (case a => rfl); k_whole; intro m' h' F' N'; (try k_sweep))))) | (k_end; wrow_close) | walk1 | dsimp only | (leave1; try dsimp only)))
    · (rename Fr _ _ _ _ => F7)
      (rename News _ _ _ _ => N7)
      (rename ((_ == _) = true) => hm7)
      (rename (decide (_ = _) = true) => hz7)
      refine JT_end (D := D) F7 N7 rfl rfl (by k_mem) (by k_mem) (by k_mem) (by k_mem) (by assumption) (neN (by omega)) hI1 hI2 (neN (by omega)) (neN (by omega)) .nil ?_ ?_ ?_
      · rw [hstep, step_nil hm7 hz7]
      · intro q hq; simp at hq
      · simp
    · (rename Fr _ _ _ _ => F7)
      (rename News _ _ _ _ => N7)
      (rename ((_ == _) = true) => hm7)
      (rename (decide (_ = _) = false) => hz7)
      (rename (_ ∈ pl) => ha7)
      (rename (∀ a : Int, a ∈ pl → _ ≤ a) => hb7)
      (rename IntsAre _ (rangeKs _ _) => I7)
      refine JT_end (D := D) F7 N7 rfl rfl (by k_mem) (by k_mem) (by k_mem) (by k_mem) (by assumption) (neN (by omega)) hI1 hI2 (neN (by omega)) (neN (by omega)) I7 ?_ ?_ ?_
      · rw [hstep, step_many hm7 hz7 ha7 hb7]
      · exact bd_range (by assumption)
      · rw [rangeKs_length]; have := bd_mem hbd ha7; omega
    · (rename News _ _ _ _ => N9)
      (rename ((_ == _) = false) => hne9)
      refine LCt.CompSrcT.ledger (by rfl) (by k_asm) (by k_asm) (by k_mem) ?_ ?_
      · rw [sizeLine_eq]; simp only [List.size_toArray]; omega
      intro g'
      have hS : SignOk w p (sgf p) := hsg p hpm (not_many hne9)
      refine rest_T pl (fun q => decide (q < (cs.length : Int)) && sgf p (cs.getD q.toNat 0)) (· + 1) (Ri := IsInt) (Ro := IsInt) (by simpa using hwl.symm) (src_ints hws) (Or.inr ⟨_, by k_mem, rfl, _, rfl⟩) ?_ ?_
      · intro a v I oI C oC D m₂ ys h tk E' ha hv hC hx F N
        obtain ⟨tv, rfl⟩ := hv
        have hab := bd_mem hbd ha
        clear N9
        show wpAny _ _ _ _ _ _
        k_fold
        (repeat' (first | ((try k_unmd); k_unfold; first | (with_reducible (first | refine after_nil ?_ | refine after_next ?_ | refine after_ret ?_ | refine after_brk ?_ | refine after_cont ?_)) | (try dsimp only [List.cons_append, List.nil_append])) | ((with_reducible show wpAny _ _ (exec _ _) _ _ _); first | ((with_reducible show wpAny _ _ (exec (Stmt.For _ (PySem.Expr.Name _ _) _ _ _) _) _ _ _); ((k_dflt (refine for_any ?_)))) | ((with_reducible show wpAny _ _ (exec (Stmt.Assign _ (PySem.Expr.ListComp _ _ _ _) _) _) _ _ _); (first | (k_dflt (refine LCt.Assign_ListComp_T (F₀ := by k_asm) (by rfl) (by with_unfolding_all rfl) (by with_unfolding_all rfl) (by decide) (by rfl) (by decide) (by rfl) (by rfl) (by rfl) ?_)))) | ((with_reducible show wpAny _ _ (exec (Stmt.For _ _ _ _ _) _) _ _ _); ((k_dflt (refine for_any ?_))))) | ((with_reducible show wpAny _ _ (subscriptTail (PySem.Expr.Name _ _) (PySem.Expr.Name _ _) (Value.str _ _) (Value.int _ _)) _ _ _); ((k_dflt (refine name_item (by omega) (by omega) (by assumption) ?_ (by with_unfolding_all rfl) (by intro _; with_unfolding_all rfl))))) | ((with_reducible show wpAny _ _ (compareOp CmpOp.NotEq (Value.ref _) (Value.ref _)) _ _ _); ((refine' ne_intsK ?ea ?ei ?eb ?ej ?eu ?_; (case ea => (first | exact News.isList (by assumption) (by k_mem) | (((rename Fr _ _ _ _ => F9); exact Heap.IsList.at (by assumption) fun o e => F9.keep _ o e)))); (case ei => assumption); (case eb => (first | exact News.isList (by assumption) (by k_mem) | (((rename Fr _ _ _ _ => F9); exact Heap.IsList.at (by assumption) fun o e => F9.keep _ o e)))); (case ej => exact IntsAre.nil); (case eu => ((simp +zetaDelta only [depth_deeper, units_deeper]; omega)))))) | ((with_reducible show wpAny _ _ (eval (PySem.Expr.ListComp _ _ _ _) _) _ _ _); (first | (k_dflt (refine LCt.ListComp_T (F₀ := by k_asm) (by with_unfolding_all rfl) (by decide) (by rfl) (by decide) (by rfl) ?_)) | (k_dflt (refine LCg.ListComp_U (F₀ := by k_asm) (by with_unfolding_all rfl) (by decide) (by rfl) (by decide) (by rfl) ?_)))) | ((with_reducible show wpAny _ _ (eval (PySem.Expr.Name _ _) _) _ _ _); ((k_dflt (refine nameX_L (by k_asm) (mpT_star (by assumption)) ?_)))) | ((with_reducible show wpAny _ _ (call _ _ _) _ _ _); first | ((with_reducible show wpAny _ _ (call (Value.builtin "len") _ _) _ _ _); ((refine name_len (by assumption) ?_))) | ((with_reducible show wpAny _ _ (call (Value.ref _) _ _) _ _ _); ((refine' use_sign ?ch ?cx ?ct rfl ?cr ?cu _ _ _ ?_; (case ch => assumption); (case cx => ((first | assumption | exact Frag.In.keeps (by assumption) (Fr.keep (by assumption))))); (case ct => ((first | assumption | exact Top.keeps (by assumption) (Fr.keep (by assumption))))); (case cr => ((simp +zetaDelta only [depth_deeper, units_deeper]; omega))); (case cu => ((simp +zetaDelta only [depth_deeper, units_deeper]; omega))); intro h9 tk9 hx9; (((rename Fr _ _ _ _ => F9); (rename News _ _ _ _ => N9); (rename Ext _ _ => hx9); (have F8 := fr_ext F9 hx9); (have N8 := news_ext N9 hx9); clear F9 N9 hx9; (try dsimp only); (try k_fold)))))) | ((with_reducible show wpAny _ _ (call (Value.builtin "min") _ _) _ _ _); ((refine' kso_min ?k1 ?k2 ?k3 ?k4 ?k5 ?k6 ?_; (case k1 => assumption); (case k2 => assumption); (case k3 => (first | exact News.isList (by assumption) (by k_mem) | (((rename Fr _ _ _ _ => F9); exact Heap.IsList.at (by assumption) fun o e => F9.keep _ o e)))); (case k4 => assumption); (case k5 => exact len_pos (by assumption)); (case k6 => with_unfolding_all rfl); intro h9 M9 t9 k9 F8 N8 a9 b9; (have hM9 := bd_mem (by assumption) a9); (try k_sweep))))) | ((with_reducible show wpAny _ _ (execs (_ :: _) _) _ _ _); ((refine execs_f ?_; intro qk))) | ((with_reducible show wpAny _ _ (storeName _ _ _) _ _ _); ((k_dflt (refine' store_f ?F ?N ?b ?a ?_; (case F => k_asm); (case N => k_asm); (case b => rfl); (case a => rfl); k_whole; intro m' h' F' N'; (try k_sweep))))) | (k_end; wrow_close) | walk1 | dsimp only | (leave1; try dsimp only)))
        · exact TurnE.intro (by assumption) (by assumption) (by kcf_all) ⟨by rw [Bool.and_eq_true, decide_eq_true_eq]; exact ⟨by omega, by assumption⟩, _, rfl⟩
        · exact TurnE.intro (by assumption) (by assumption) (by kcf_all) (by rw [Bool.and_eq_false_iff, decide_eq_false_iff_not]; first | (left; omega) | (right; assumption))
        · exact TurnE.intro (by assumption) (by assumption) (by kcf_all) (by rw [Bool.and_eq_false_iff, decide_eq_false_iff_not]; first | (left; omega) | (right; assumption))
      · intro ys hys
        have I7 := hys.ints
        (repeat' (first | ((try k_unmd); k_unfold; first | (with_reducible (first | refine after_nil ?_ | refine after_next ?_ | refine after_ret ?_ | refine after_brk ?_ | refine after_cont ?_)) | (try dsimp only [List.cons_append, List.nil_append])) | ((with_reducible show wpAny _ _ (exec _ _) _ _ _); first | ((with_reducible show wpAny _ _ (exec (Stmt.For _ (PySem.Expr.Name _ _) _ _ _) _) _ _ _); ((k_dflt (refine for_any ?_)))) | ((with_reducible show wpAny _ _ (exec (Stmt.Assign _ (PySem.Expr.ListComp _ _ _ _) _) _) _ _ _); (first | (k_dflt (refine LCt.Assign_ListComp_T (F₀ := by k_asm) (by rfl) (by with_unfolding_all rfl) (by with_unfolding_all rfl) (by decide) (by rfl) (by decide) (by rfl) (by rfl) (by rfl) ?_)))) | ((with_reducible show wpAny _ _ (exec (Stmt.For _ _ _ _ _) _) _ _ _); ((k_dflt (refine for_any ?_))))) | ((with_reducible show wpAny _ _ (subscriptTail (PySem.Expr.Name _ _) (PySem.Expr.Name _ _) (Value.str _ _) (Value.int _ _)) _ _ _); ((k_dflt (refine name_item (by omega) (by omega) (by assumption) ?_ (by with_unfolding_all rfl) (by intro _; with_unfolding_all rfl))))) | ((with_reducible show wpAny _ _ (compareOp CmpOp.NotEq (Value.ref _) (Value.ref _)) _ _ _); ((refine' ne_intsK ?ea ?ei ?eb ?ej ?eu ?_; (case ea => (first | exact News.isList (by assumption) (by k_mem) | (((rename Fr _ _ _ _ => F9); exact Heap.IsList.at (by assumption) fun o e => F9.keep _ o e)))); (case ei => assumption); (case eb => (first | exact News.isList (by assumption) (by k_mem) | (((rename Fr _ _ _ _ => F9); exact Heap.IsList.at (by assumption) fun o e => F9.keep _ o e)))); (case ej => exact IntsAre.nil); (case eu => ((simp +zetaDelta only [depth_deeper, units_deeper]; omega)))))) | ((with_reducible show wpAny _ _ (eval (PySem.Expr.ListComp _ _ _ _) _) _ _ _); (first | (k_dflt (refine LCt.ListComp_T (F₀ := by k_asm) (by with_unfolding_all rfl) (by decide) (by rfl) (by decide) (by rfl) ?_)) | (k_dflt (refine LCg.ListComp_U (F₀ := by k_asm) (by with_unfolding_all rfl) (by decide) (by rfl) (by decide) (by rfl) ?_)))) | ((with_reducible show wpAny _ _ (eval (PySem.Expr.Name _ _) _) _ _ _); ((k_dflt (refine nameX_L (by k_asm) (mpT_star (by assumption)) ?_)))) | ((with_reducible show wpAny _ _ (call _ _ _) _ _ _); first | ((with_reducible show wpAny _ _ (call (Value.builtin "len") _ _) _ _ _); ((refine name_len (by assumption) ?_))) | ((with_reducible show wpAny _ _ (call (Value.ref _) _ _) _ _ _); ((refine' use_sign ?ch ?cx ?ct rfl ?cr ?cu _ _ _ ?_; (case ch => assumption); (case cx => ((first | assumption | exact Frag.In.keeps (by assumption) (Fr.keep (by assumption))))); (case ct => ((first | assumption | exact Top.keeps (by assumption) (Fr.keep (by assumption))))); (case cr => ((simp +zetaDelta only [depth_deeper, units_deeper]; omega))); (case cu => ((simp +zetaDelta only [depth_deeper, units_deeper]; omega))); intro h9 tk9 hx9; (((rename Fr _ _ _ _ => F9); (rename News _ _ _ _ => N9); (rename Ext _ _ => hx9); (have F8 := fr_ext F9 hx9); (have N8 := news_ext N9 hx9); clear F9 N9 hx9; (try dsimp only); (try k_fold)))))) | ((with_reducible show wpAny _ _ (call (Value.builtin "min") _ _) _ _ _); ((refine' kso_min ?k1 ?k2 ?k3 ?k4 ?k5 ?k6 ?_; (case k1 => assumption); (case k2 => assumption); (case k3 => (first | exact News.isList (by assumption) (by k_mem) | (((rename Fr _ _ _ _ => F9); exact Heap.IsList.at (by assumption) fun o e => F9.keep _ o e)))); (case k4 => assumption); (case k5 => exact len_pos (by assumption)); (case k6 => with_unfolding_all rfl); intro h9 M9 t9 k9 F8 N8 a9 b9; (have hM9 := bd_mem (by assumption) a9); (try k_sweep))))) | ((with_reducible show wpAny _ _ (execs (_ :: _) _) _ _ _); ((refine execs_f ?_; intro qk))) | ((with_reducible show wpAny _ _ (storeName _ _ _) _ _ _); ((k_dflt (refine' store_f ?F ?N ?b ?a ?_; (case F => k_asm); (case N => k_asm); (case b => rfl); (case a => rfl); k_whole; intro m' h' F' N'; (try k_sweep))))) | (k_end; wrow_close) | walk1 | dsimp only | (leave1; try dsimp only)))
        (rename Fr _ _ _ _ => F7)
        (rename News _ _ _ _ => N7)
        refine JT_end (D := D) F7 N7 rfl rfl (by k_mem) (by k_mem) (by k_mem) (by k_mem) (by assumption) (neN (by omega)) hI1 hI2 (neN (by omega)) (neN (by omega)) I7 ?_ ?_ ?_
        · rw [hstep, step_part hne9]
        · exact bd_part hbd
        · rw [List.length_map]
          exact Nat.le_trans (List.length_filter_le _ _) hpn
  · intro h tk m₁ news₁ hJ F N
    refine hideG ?_
    intro q9
    obtain ⟨D, ws, n, o1, v1, pl, rfl, rfl, ho1, hD1, hD2, hws, hpl, hbd, hpn⟩ := hJ
    (try k_unmd)
    k_unfold
    clear F8 F9 N9
    subst hm0
    have hsz : vs.toArray.size = ps.length := by simpa using hlen
    rw [hsz, List.take_length] at hpl
    try dsimp only
    (repeat' (first | ((try k_unmd); k_unfold; first | (with_reducible (first | refine after_nil ?_ | refine after_next ?_ | refine after_ret ?_ | refine after_brk ?_ | refine after_cont ?_)) | (try dsimp only [List.cons_append, List.nil_append])) | ((with_reducible show wpAny _ _ (exec _ _) _ _ _); first | ((with_reducible show wpAny _ _ (exec (Stmt.For _ (PySem.Expr.Name _ _) _ _ _) _) _ _ _); ((k_dflt (refine for_any ?_)))) | ((with_reducible show wpAny _ _ (exec (Stmt.Assign _ (PySem.Expr.ListComp _ _ _ _) _) _) _ _ _); (first | (k_dflt (refine LCt.Assign_ListComp_T (F₀ := by k_asm) (by rfl) (by with_unfolding_all rfl) (by with_unfolding_all rfl) (by decide) (by rfl) (by decide) (by rfl) (by rfl) (by rfl) ?_)))) | ((with_reducible show wpAny _ _ (exec (Stmt.For _ _ _ _ _) _) _ _ _); ((k_dflt (refine for_any ?_))))) | ((with_reducible show wpAny _ _ (subscriptTail (PySem.Expr.Name _ _) (PySem.Expr.Name _ _) (Value.str _ _) (Value.int _ _)) _ _ _); ((k_dflt (refine name_item (by omega) (by omega) (by assumption) ?_ (by with_unfolding_all rfl) (by intro _; with_unfolding_all rfl))))) | ((with_reducible show wpAny _ _ (compareOp CmpOp.NotEq (Value.ref _) (Value.ref _)) _ _ _); ((refine' ne_intsK ?ea ?ei ?eb ?ej ?eu ?_; (case ea => (first | exact News.isList (by assumption) (by k_mem) | (((rename Fr _ _ _ _ => F9); exact Heap.IsList.at (by assumption) fun o e => F9.keep _ o e)))); (case ei => assumption); (case eb => (first | exact News.isList (by assumption) (by k_mem) | (((rename Fr _ _ _ _ => F9); exact Heap.IsList.at (by assumption) fun o e => F9.keep _ o e)))); (case ej => exact IntsAre.nil); (case eu => ((simp +zetaDelta only [depth_deeper, units_deeper]; omega)))))) | ((with_reducible show wpAny _ _ (eval (PySem.Expr.ListComp _ _ _ _) _) _ _ _); (first | (k_dflt (refine LCt.ListComp_T (F₀ := by k_asm) (by with_unfolding_all rfl) (by decide) (by rfl) (by decide) (by rfl) ?_)) | (k_dflt (refine LCg.ListComp_U (F₀ := by k_asm) (by with_unfolding_all rfl) (by decide) (by rfl) (by decide) (by rfl) ?_)))) | ((with_reducible show wpAny _ _ (eval (PySem.Expr.Name _ _) _) _ _ _); ((k_dflt (refine nameX_L (by k_asm) (mpT_star (by assumption)) ?_)))) | ((with_reducible show wpAny _ _ (call _ _ _) _ _ _); first | ((with_reducible show wpAny _ _ (call (Value.builtin "len") _ _) _ _ _); ((refine name_len (by assumption) ?_))) | ((with_reducible show wpAny _ _ (call (Value.ref _) _ _) _ _ _); ((refine' use_sign ?ch ?cx ?ct rfl ?cr ?cu _ _ _ ?_; (case ch => assumption); (case cx => ((first | assumption | exact Frag.In.keeps (by assumption) (Fr.keep (by assumption))))); (case ct => ((first | assumption | exact Top.keeps (by assumption) (Fr.keep (by assumption))))); (case cr => ((simp +zetaDelta only [depth_deeper, units_deeper]; omega))); (case cu => ((simp +zetaDelta only [depth_deeper, units_deeper]; omega))); intro h9 tk9 hx9; (((rename Fr _ _ _ _ => F9); (rename News _ _ _ _ => N9); (rename Ext _ _ => hx9); (have F8 := fr_ext F9 hx9); (have N8 := news_ext N9 hx9); clear F9 N9 hx9; (try dsimp only); (try k_fold)))))) | ((with_reducible show wpAny _ _ (call (Value.builtin "min") _ _) _ _ _); ((refine' kso_min ?k1 ?k2 ?k3 ?k4 ?k5 ?k6 ?_; (case k1 => assumption); (case k2 => assumption); (case k3 => (first | exact News.isList (by assumption) (by k_mem) | (((rename Fr _ _ _ _ => F9); exact Heap.IsList.at (by assumption) fun o e => F9.keep _ o e)))); (case k4 => assumption); (case k5 => exact len_pos (by assumption)); (case k6 => with_unfolding_all rfl); intro h9 M9 t9 k9 F8 N8 a9 b9; (have hM9 := bd_mem (by assumption) a9); (try k_sweep))))) | ((with_reducible show wpAny _ _ (execs (_ :: _) _) _ _ _); ((refine execs_f ?_; intro qk))) | ((with_reducible show wpAny _ _ (storeName _ _ _) _ _ _); ((k_dflt (refine' store_f ?F ?N ?b ?a ?_; (case F => k_asm); (case N => k_asm); (case b => rfl); (case a => rfl); k_whole; intro m' h' F' N'; (try k_sweep))))) | (k_end; wrow_close) | walk1 | dsimp only | (leave1; try dsimp only)))
    rw [hpl]
    exact hQ _ _ F.keep
end Mine
end
section -- C15
namespace Mine
theorem sorted_mine {prog : Program} {w : World} {A : Around} {E : Value → Shared → Prop} {s : Shared} {h₀ : Heap} {L : Addr} {m : Str → Option Value} {news : List (Addr × Obj)} {l : Addr} {vs : List Value} {ss : List Str} {Q : Value → Shared → Prop}
    (F : Fr h₀ L s.heap m) (N : News h₀ L s.heap news) (hl : s.heap.IsList l vs.toArray) (hS : StrsAre vs ss) (h64 : vs.length < 64)
    (h : ∀ (h' : Heap) (vs' : List Value) (ss' : List Str) (e : Nat), Fr h₀ L h' m → News h₀ L h' ((s.heap.objs.size + 1, { cls := .type "list", data := .seq vs'.toArray e }) :: news) → h'.IsList (s.heap.objs.size + 1) vs'.toArray →
      StrsAre vs' ss' → ss'.Perm ss → sortedS ss' = true → vs'.length = ss.length → ss'.length = ss.length → Q (.ref (s.heap.objs.size + 1)) { s with heap := h' }) :
    wpAny (model prog w) A (call (.builtin "sorted") [.ref l]) Q E s :=
  sorted_N_str F N hl hS h64 fun h' vs' ss' e F' N' S' P' T' => h h' vs' ss' e F' N' (News.isList N' (.head _)) S' P' T' ((are_strs S').length.trans P'.length_eq) P'.length_eq
theorem idx_half {ss' ss : List Str} (k : ss'.length = ss.length) : ss'.getD (Int.toNat ((ss'.length : Int) / 2)) Str.empty = ss'.getD (ss.length / 2) Str.empty := by
  rw [k]; congr 1
theorem idx_low1 {ss' ss : List Str} (k : ss'.length = ss.length) (o : (ss'.length : Int) % 2 = 1) : ss'.getD (Int.toNat ((ss'.length : Int) / 2)) Str.empty = ss'.getD ((ss.length - 1) / 2) Str.empty := by
  congr 1; omega
theorem idx_low2 {ss' ss : List Str} (k : ss'.length = ss.length) (o : (ss'.length : Int) % 2 ≠ 1) : ss'.getD (Int.toNat ((ss'.length : Int) / 2 - 1)) Str.empty = ss'.getD ((ss.length - 1) / 2) Str.empty := by
  congr 1; omega
set_option maxHeartbeats 8000000 in
theorem c_high {w : World} {A : Around} {s : Shared} {Q E : Value → Shared → Prop} {loose : List Str} {mean : ExcName → Option Value} {mg mb : Str → Option Value}
    (X : (hd.heap_1 w.params).In s.heap) (T : Top topProg loose mean mg mb s.heap) (hh : A.handled = none) (hr : A.depth + 3 < recursionLimit) (hu : A.units + 20 < cLine) (l : Addr) (vs : List Value) (ss : List Str)
    (h64 : vs.length < 64) (hpos : 0 < vs.length)
    (hl : s.heap.IsList l vs.toArray) (hI : StrsAre vs ss)
    (hQ : ∀ ss' t h' tk', ss'.Perm ss → sortedS ss' = true → Ext s.heap h' → Q (.str (ss'.getD (ss.length / 2) Str.empty) t) { s with heap := h', toks := tk' }) :
    wpAny (model prg w) A (call (.ref 65) [.ref l] []) Q E s := by
  have hlen := (are_strs hI).length
  obtain ⟨hd', dp, fr, gd, un⟩ := A
  dsimp only at hh hr hu
  subst hh
  refine' pcall X T ?k6 ?k7 (Nat.lt_of_le_of_lt (Nat.le_add_right _ _) hr) ?k9 ?kB ?c2 ?c3 ?c4 ?c5 ?_
  case k6 => k_is
  case k7 => k_is
  case k9 => first | exact BindsTo.of_eq rfl | exact binds_K X rfl (by k_is) rfl rfl rfl
  case c5 => decide
  case kB => exact locs rfl
  case c2 => exact rfl
  case c3 => exact rfl
  case c4 => exact rfl
  intro L' h' F N envL AL
  refine letM F ?_
  clear F
  intro mL F
  (try dsimp only)
  show wpAny _ _ _ _ _ _
  k_fold
  (repeat' (first | ((try k_unmd); k_unfold; first | (with_reducible (first | refine after_nil ?_ | refine after_next ?_ | refine after_ret ?_ | refine after_brk ?_ | refine after_cont ?_)) | (try dsimp only [List.cons_append, List.nil_append])) | ((with_reducible show wpAny _ _ (binaryOp Operator.Mod (Value.int _ _) (Value.int _ _)) _ _ _); ((k_dflt (refine md_pos (by decide) ?_)))) | ((with_reducible show wpAny _ _ (binaryOp Operator.FloorDiv (Value.int _ _) (Value.int _ _)) _ _ _); ((k_dflt (refine fd_pos (by decide) (by decide) ?_)))) | ((with_reducible show wpAny _ _ (call (Value.builtin "sorted") _ _) _ _ _); ((refine' sorted_mine ?k1 ?k2 ?k3 ?k4 ?k5 ?_; (case k1 => assumption); (case k2 => assumption); (case k3 => (first | exact News.isList (by assumption) (by k_mem) | (((rename Fr _ _ _ _ => F9); exact Heap.IsList.at (by assumption) fun o e => F9.keep _ o e)))); (case k4 => assumption); (case k5 => assumption); intro h9 vs9 ss9 e9 F9 N9 I9 S9 P9 T9 n9 k9; (try k_sweep)))) | ((with_reducible show wpAny _ _ (execs (_ :: _) _) _ _ _); ((refine execs_f ?_; intro qk))) | ((with_reducible show wpAny _ _ (storeName _ _ _) _ _ _); ((k_dflt (refine' store_f ?F ?N ?b ?a ?_; (case F => k_asm); (case N => k_asm); (case b => rfl); (case a => rfl); k_whole; intro m' h' F' N'; (try k_sweep))))) | (k_end; wrow_close) | walk1 | dsimp only | (leave1; try dsimp only)))
  all_goals (rename List.Perm _ _ => P9)
  all_goals (rename Fr _ _ _ _ => F9)
  all_goals (rename sortedS _ = true => T9)
  · (rename (List.length _ = List.length ss) => k9)
    try dsimp only
    rw [idx_half k9]
    exact hQ _ _ _ _ P9 T9 F9.keep
set_option maxHeartbeats 8000000 in
theorem c_low {w : World} {A : Around} {s : Shared} {Q E : Value → Shared → Prop} {loose : List Str} {mean : ExcName → Option Value} {mg mb : Str → Option Value}
    (X : (hd.heap_1 w.params).In s.heap) (T : Top topProg loose mean mg mb s.heap) (hh : A.handled = none) (hr : A.depth + 3 < recursionLimit) (hu : A.units + 20 < cLine) (l : Addr) (vs : List Value) (ss : List Str)
    (h64 : vs.length < 64) (hpos : 0 < vs.length)
    (hl : s.heap.IsList l vs.toArray) (hI : StrsAre vs ss)
    (hQ : ∀ ss' t h' tk', ss'.Perm ss → sortedS ss' = true → Ext s.heap h' → Q (.str (ss'.getD ((ss.length - 1) / 2) Str.empty) t) { s with heap := h', toks := tk' }) :
    wpAny (model prg w) A (call (.ref 58) [.ref l] []) Q E s := by
  have hlen := (are_strs hI).length
  obtain ⟨hd', dp, fr, gd, un⟩ := A
  dsimp only at hh hr hu
  subst hh
  refine' pcall X T ?k6 ?k7 (Nat.lt_of_le_of_lt (Nat.le_add_right _ _) hr) ?k9 ?kB ?c2 ?c3 ?c4 ?c5 ?_
  case k6 => k_is
  case k7 => k_is
  case k9 => first | exact BindsTo.of_eq rfl | exact binds_K X rfl (by k_is) rfl rfl rfl
  case c5 => decide
  case kB => exact locs rfl
  case c2 => exact rfl
  case c3 => exact rfl
  case c4 => exact rfl
  intro L' h' F N envL AL
  refine letM F ?_
  clear F
  intro mL F
  (try dsimp only)
  show wpAny _ _ _ _ _ _
  k_fold
  (repeat' (first | ((try k_unmd); k_unfold; first | (with_reducible (first | refine after_nil ?_ | refine after_next ?_ | refine after_ret ?_ | refine after_brk ?_ | refine after_cont ?_)) | (try dsimp only [List.cons_append, List.nil_append])) | ((with_reducible show wpAny _ _ (binaryOp Operator.Mod (Value.int _ _) (Value.int _ _)) _ _ _); ((k_dflt (refine md_pos (by decide) ?_)))) | ((with_reducible show wpAny _ _ (binaryOp Operator.FloorDiv (Value.int _ _) (Value.int _ _)) _ _ _); ((k_dflt (refine fd_pos (by decide) (by decide) ?_)))) | ((with_reducible show wpAny _ _ (call (Value.builtin "sorted") _ _) _ _ _); ((refine' sorted_mine ?k1 ?k2 ?k3 ?k4 ?k5 ?_; (case k1 => assumption); (case k2 => assumption); (case k3 => (first | exact News.isList (by assumption) (by k_mem) | (((rename Fr _ _ _ _ => F9); exact Heap.IsList.at (by assumption) fun o e => F9.keep _ o e)))); (case k4 => assumption); (case k5 => assumption); intro h9 vs9 ss9 e9 F9 N9 I9 S9 P9 T9 n9 k9; (try k_sweep)))) | ((with_reducible show wpAny _ _ (execs (_ :: _) _) _ _ _); ((refine execs_f ?_; intro qk))) | ((with_reducible show wpAny _ _ (storeName _ _ _) _ _ _); ((k_dflt (refine' store_f ?F ?N ?b ?a ?_; (case F => k_asm); (case N => k_asm); (case b => rfl); (case a => rfl); k_whole; intro m' h' F' N'; (try k_sweep))))) | (k_end; wrow_close) | walk1 | dsimp only | (leave1; try dsimp only)))
  all_goals (rename List.Perm _ _ => P9)
  all_goals (rename Fr _ _ _ _ => F9)
  all_goals (rename sortedS _ = true => T9)
  all_goals (rename (List.length _ = List.length ss) => k9)
  · (rename (_ % 2 = 1) => o9)
    try dsimp only
    rw [idx_low1 k9 o9]
    exact hQ _ _ _ _ P9 T9 F9.keep
  · (rename (_ % 2 ≠ 1) => o9)
    try dsimp only
    rw [idx_low2 k9 o9]
    exact hQ _ _ _ _ P9 T9 F9.keep
end Mine
end
section -- C16
namespace Mine
theorem getm_translate {M : Model} {A : Around} {E : Value → Shared → Prop} {s : Shared} {x : Str} {t : Tok} {pl : Sem Bool} {Q : Value × List Value → Shared → Prop} (h : Q (.builtin "str.translate", [.str x t]) s) :
    wpAny M A (getMethod (.str x t) (Str.ofString "translate") pl) Q E s :=
  getMethod_builtin (name := Str.ofString "translate") (id := "str.translate") (T := "str") (typeIs_str _ _ _) F.plainAttrs_str F.slot_str_translate F.type_str_translate (fun _ e => nomatch e) h
set_option maxHeartbeats 8000000 in
theorem c_escape {w : World} {A : Around} {s : Shared} {Q E : Value → Shared → Prop} {loose : List Str} {mean : ExcName → Option Value} {mg mb : Str → Option Value}
    (X : (hd.heap_1 w.params).In s.heap) (T : Top topProg loose mean mg mb s.heap) (hh : A.handled = none) (hr : A.depth + 3 < recursionLimit) (hu : A.units + 20 < cLine) (c : Nat) (t : Tok) (hc : c = 65 ∨ c = 61)
    (hQ : ∀ h' t' tk', Ext s.heap h' → @LE.le Nat _ s.toks t' → @LT.lt Nat _ t' tk' → Q (.str ⟨#[c]⟩ t') { s with heap := h', toks := tk' }) :
    wpAny (model prg w) A (call (.ref 112) [.str ⟨#[c]⟩ t] []) Q E s := by
  obtain ⟨hd', dp, fr, gd, un⟩ := A
  dsimp only at hh hr hu
  subst hh
  refine' pcall X T ?k6 ?k7 (Nat.lt_of_le_of_lt (Nat.le_add_right _ _) hr) ?k9 ?kB ?c2 ?c3 ?c4 ?c5 ?_
  case k6 => k_is
  case k7 => k_is
  case k9 => first | exact BindsTo.of_eq rfl | exact binds_K X rfl (by k_is) rfl rfl rfl
  case c5 => decide
  case kB => exact locs rfl
  case c2 => exact rfl
  case c3 => exact rfl
  case c4 => exact rfl
  intro L' h' F N envL AL
  refine wpAny_grow ?_
  (try dsimp only)
  show wpAny _ _ _ _ _ _
  k_fold
  (repeat' (first | (k_unfold; (try dsimp only)) | ((with_reducible show wpAny _ _ (getMethod (Value.str _ _) _ _) _ _ _); ((k_dflt (refine getm_translate ?_)))) | ((with_reducible show wpAny _ _ (call (Value.builtin "str.translate") _ _) _ _ _); ((k_dflt (refine' call_translate ?k1 ?k2 ?k3 ?_); (case k1 => with_unfolding_all rfl); (case k2 => assumption); (case k3 => k_dflt (((first | assumption | exact Frag.In.keeps (by assumption) (Fr.keep (by assumption)))))); intro h9 hx9; (((rename Fr _ _ _ _ => F9); (rename News _ _ _ _ => N9); (rename Ext _ _ => hx9); (have F8 := fr_ext F9 hx9); (have N8 := news_ext N9 hx9); clear F9 N9 hx9; (try dsimp only); (try k_fold)))))) | (k_end; wrow_close) | walk1 | dsimp only | (leave1; try dsimp only)))
  (rename Fr _ _ _ _ => F9)
  rename (@LE.le Nat _ _ (Shared.toks _)) => z9
  rename Nat => tk9
  replace z9 : s.toks + 1 ≤ tk9 + 3 := z9
  refine hQ _ _ _ F9.keep ?_ ?_
  · show @LE.le Nat _ s.toks (tk9 + 2); omega
  · show @LT.lt Nat _ (tk9 + 2) (tk9 + 3); omega
end Mine
end
section -- C17
namespace Mine
set_option maxHeartbeats 8000000 in
theorem c_mids {w : World} {A : Around} {s : Shared} {Q E : Value → Shared → Prop} {loose : List Str} {mean : ExcName → Option Value} {mg mb : Str → Option Value}
    (X : (hd.heap_1 w.params).In s.heap) (T : Top topProg loose mean mg mb s.heap) (hh : A.handled = none) (hr : A.depth + 5 < recursionLimit) (hu : A.units + 40 < cLine) (l : Addr) (vs : List Value) (ss : List Str)
    (h64 : vs.length < 64) (hpos : 0 < vs.length)
    (hl : s.heap.IsList l vs.toArray) (hI : StrsAre vs ss)
    (hQ : ∀ s1 s2 t1 t2 D n h' tk', s1.Perm ss → sortedS s1 = true → s2.Perm ss → sortedS s2 = true → Ext s.heap h' → s.heap.get? D = none → h'.get? D = some { cls := .type "list", data := .seq #[.str (s1.getD ((ss.length - 1) / 2) Str.empty) t1, .str (s2.getD (ss.length / 2) Str.empty) t2] n } → Q (.ref D) { s with heap := h', toks := tk' }) :
    wpAny (model prg w) A (call (.ref 172) [.ref l] []) Q E s := by
  obtain ⟨hd', dp, fr, gd, un⟩ := A
  dsimp only at hh hr hu
  subst hh
  refine' pcall X T ?k6 ?k7 (Nat.lt_of_le_of_lt (Nat.le_add_right _ _) hr) ?k9 ?kB ?c2 ?c3 ?c4 ?c5 ?_
  case k6 => k_is
  case k7 => k_is
  case k9 => first | exact BindsTo.of_eq rfl | exact binds_K X rfl (by k_is) rfl rfl rfl
  case c5 => decide
  case kB => exact locs rfl
  case c2 => exact rfl
  case c3 => exact rfl
  case c4 => exact rfl
  intro L' h' F N envL AL
  refine letM F ?_
  clear F
  intro mL F
  (try dsimp only)
  show wpAny _ _ _ _ _ _
  k_fold
  (repeat' (first | ((try k_unmd); k_unfold; first | (with_reducible (first | refine after_nil ?_ | refine after_next ?_ | refine after_ret ?_ | refine after_brk ?_ | refine after_cont ?_)) | (try dsimp only [List.cons_append, List.nil_append])) | ((with_reducible show wpAny _ _ (call (Value.ref _) _ _) _ _ _); (first | (k_dflt (refine' c_low ?cx ?ct ?ch ?cr ?cu _ _ _ ?c1 ?c2 ?c3 ?c4 ?_); (case cx => ((first | assumption | exact Frag.In.keeps (by assumption) (Fr.keep (by assumption))))); (case ct => ((first | assumption | exact Top.keeps (by assumption) (Fr.keep (by assumption))))); (case ch => with_unfolding_all rfl); (case cr => ((simp +zetaDelta only [depth_deeper, units_deeper]; omega))); (case cu => ((simp +zetaDelta only [depth_deeper, units_deeper]; omega))); (case c1 => assumption); (case c2 => assumption); (case c3 => (((rename Fr _ _ _ _ => F9); exact Heap.IsList.at (by assumption) fun o e => F9.keep _ o e))); (case c4 => assumption); intro ss9 t9 h9 tk9 p9 so9 hx9; (((rename Fr _ _ _ _ => F9); (rename News _ _ _ _ => N9); (rename Ext _ _ => hx9); (have F8 := fr_ext F9 hx9); (have N8 := news_ext N9 hx9); clear F9 N9 hx9; (try dsimp only); (try k_fold)))) | (k_dflt (refine' c_high ?cx ?ct ?ch ?cr ?cu _ _ _ ?c1 ?c2 ?c3 ?c4 ?_); (case cx => ((first | assumption | exact Frag.In.keeps (by assumption) (Fr.keep (by assumption))))); (case ct => ((first | assumption | exact Top.keeps (by assumption) (Fr.keep (by assumption))))); (case ch => with_unfolding_all rfl); (case cr => ((simp +zetaDelta only [depth_deeper, units_deeper]; omega))); (case cu => ((simp +zetaDelta only [depth_deeper, units_deeper]; omega))); (case c1 => assumption); (case c2 => assumption); (case c3 => (((rename Fr _ _ _ _ => F9); exact Heap.IsList.at (by assumption) fun o e => F9.keep _ o e))); (case c4 => assumption); intro ss9 t9 h9 tk9 p9 so9 hx9; (((rename Fr _ _ _ _ => F9); (rename News _ _ _ _ => N9); (rename Ext _ _ => hx9); (have F8 := fr_ext F9 hx9); (have N8 := news_ext N9 hx9); clear F9 N9 hx9; (try dsimp only); (try k_fold)))))) | ((with_reducible show wpAny _ _ (execs (_ :: _) _) _ _ _); ((refine execs_f ?_; intro qk))) | ((with_reducible show wpAny _ _ (storeName _ _ _) _ _ _); ((k_dflt (refine' store_f ?F ?N ?b ?a ?_; (case F => k_asm); (case N => k_asm); (case b => rfl); (case a => rfl); k_whole; intro m' h' F' N'; (try k_sweep))))) | (k_end; wrow_close) | walk1 | dsimp only | (leave1; try dsimp only)))
  (rename Fr _ _ _ _ => F9)
  (rename News _ _ _ _ => N9)
  have z := N9 _ (List.Mem.head _)
  exact hQ _ _ _ _ _ _ _ _ (by assumption) (by assumption) (by assumption) (by assumption) F9.keep z.2.2 z.1
end Mine
end
section -- SE
namespace Mine
local macro_rules | `(tactic| x_close) => `(tactic| assumption)
set_option maxHeartbeats 8000000 in
theorem str_exc {w : World} {e0 e1 : Env} {s : Shared} {Q E : Value → Shared → Prop} {e t : Addr} {x : Str} {tk : Tok} {sl sl2 : Array (Option Value)} {n : Nat} {d1 d2 : Option Addr} {r : List Value}
    (X : (hd.heap_1 w.params).In s.heap)
    (he : s.heap.get? e = some { cls := .ref (nat_lit 48), dict := d1, data := .fields ⟨.ref t :: r⟩, slots := sl })
    (ht : s.heap.get? t = some { cls := .type "tuple", dict := d2, data := .seq #[.str x tk] n, slots := sl2 })
    (h9Q : Q (.str x tk) s) :
    wpAny (model prg w) (Around.mark (Around.deeper (Around.deeper callerA e0) e1) (some (.ref e))) (call (.type "str") [.ref e] []) Q E s := by
  x_run
theorem str_got {w : World} {e0 e1 : Env} {s : Shared} {Q E : Value → Shared → Prop} {e t L : Addr} {g : Heap} {x : Str} {tk : Tok} {n₂ : List (Addr × Obj)}
    (X : (hd.heap_1 w.params).In s.heap) (N : News g L s.heap n₂) (G : Got n₂ e t (.ref 48) [.str x tk]) (h9Q : Q (.str x tk) s) :
    wpAny (model prg w) (Around.mark (Around.deeper (Around.deeper callerA e0) e1) (some (.ref e))) (call (.type "str") [.ref e] []) Q E s := by
  obtain ⟨⟨c1, d1, dt1, sl1⟩, ⟨c2, d2, dt2, sl2⟩, ws, nt, h1, h2, h3, h4, h5, h6, h7⟩ := G
  dsimp only at h3 h4 h6 h7
  subst h3 h4 h6 h7
  obtain ⟨ws⟩ := ws
  cases ws with
  | nil => simp at h5
  | cons w0 r =>
    have h5' : w0 = .ref t := by simpa using h5
    subst h5'
    exact str_exc X (N _ h1).1 (N _ h2).1 h9Q
end Mine
end
section -- C18
namespace Mine
section
variable {prog : Program} {w : World} {A₀ A : Around} {s : Shared} {base h₀ : Heap} {L : Addr} {m : Str → Option Value} {e : Env} {news : List (Addr × Obj)} {K : Frag} {p : Program} {loose : List Str} {mean : ExcName → Option Value} {mg mb : Str → Option Value}
    {R : Result → Shared → Prop} {name qual : Str} {params : Arguments} {body : List Stmt} {scope : Scope} {dV kV doc pm cdv ct oc : Value} {an od : Option Addr} {osl : Array (Option Value)} {f : Addr} {args : Args} {binds : List (Str × Value)}
theorem env_enter (B : Below A₀ base [] h₀) (F : Fr h₀ L s.heap m) (N : News h₀ L s.heap news) (hA : A.frames = some [e]) (hf : e.frame = some L) (hck : e.scope.kind ≠ .module) :
    ∃ oL es ep, (hideAll s.heap (news.map (·.1))).get? L = some oL ∧ oL.data = .dict es ep ∧ (∀ h', h'.get? L = some oL → Heap.Ns h' L m) ∧ (∀ (sl : Array (Option Value)) h', h'.get? L = some { oL with slots := sl } → Heap.Ns h' L m) ∧
      h₀.StaysIn (hideAll s.heap (news.map (·.1))) ∧ Below A base [e] (hideAll s.heap (news.map (·.1))) := by
  have nm : ∀ b o, h₀.get? b = some o → b ∉ news.map (·.1) := fun b o e q => by
    obtain ⟨p, hp, rfl⟩ := List.mem_map.mp q
    rw [(N p hp).2.2] at e; cases e
  have st : h₀.StaysIn (hideAll s.heap (news.map (·.1))) := fun b o e => hideAll_get _ (F.keep b o e) (nm b o e)
  have hnew : base.get? L = none := by
    cases hq : base.get? L with
    | none => rfl
    | some o => exact absurd (Nat.lt_of_lt_of_le (Heap.lt_size (B.stays L o hq)) F.above) (Nat.lt_irrefl _)
  have hFF : s.heap.FunFrames base [e] := .cons hck hf F.ns hnew trivial
  obtain ⟨oL, es, ep, hL, hLd, hLk, hLf⟩ := F.ns
  have nL : L ∉ news.map (·.1) := fun q => by
    obtain ⟨p, hp, e⟩ := List.mem_map.mp q
    exact (N p hp).2.1 e
  have hLg := hideAll_get (news.map (·.1)) hL nL
  refine ⟨oL, es, ep, hLg, hLd, fun h' e => ⟨oL, es, ep, e, hLd, hLk, hLf⟩, fun sl h' e => ⟨_, es, ep, e, hLd, hLk, hLf⟩, st, ⟨hA, fun b o e => st b o (B.stays b o e), funFrames_hideAll hFF fun env he b hb hf' => ?_⟩⟩
  have e1 := List.mem_singleton.mp he
  subst e1
  rw [hf] at hf'
  exact nL ((Option.some.inj hf' : L = b) ▸ hb)
theorem mem_one {b : Addr} (hf : e.frame = some L) (hm : b ∈ [e].filterMap (·.frame)) : b = L := by
  obtain ⟨env, he, hf'⟩ := List.mem_filterMap.mp hm
  have e1 := List.mem_singleton.mp he
  subst e1
  rw [hf] at hf'
  exact (Option.some.inj hf').symm
theorem code_defE0 (B : Below A₀ base [] h₀) (F : Fr h₀ L s.heap m) (X₀ : K.In h₀) (N : News h₀ L s.heap news) (T : Top p loose mean mg mb h₀) (hA : A.frames = some [e]) (hf : e.frame = some L) (hck : e.scope.kind ≠ .module)
    (ho : K.lookup f = some ⟨oc, od, .func (fnOf name qual params body scope dV kV doc pm an cdv ct), osl⟩) (hcd : codeIn K cdv qual = true) (hroom : A.depth < recursionLimit)
    (hbind : BindsTo s (fnOf name qual params body scope dV kV doc pm an cdv ct) args binds) (hloc : ∀ y ∈ binds, scope.names.lookup y.1 = some .local)
    (h : ∀ g L' h₁, Fr h₀ L g m → Fr g L' h₁ (fun y => binds.reverse.lookup y) → News g L' h₁ news → Below A base [e] g → K.In g → Top p loose mean mg mb g → KtsDicts ([e].filterMap (·.frame)) g → (∀ b o, b ∉ news.map (·.1) → s.heap.get? b = some o → g.get? b = some o) →
      wpAny (model prog w) (A.deeper (envOf qual scope L' f cdv)) (execs body (envOf qual scope L' f cdv))
        (fun fl s' => LeaveS0 ([e].filterMap (·.frame)) h₀ L m g R (match fl with | .ret v => v | _ => .none) s')
        (fun e s' => wpAny (model prog w) (A.deeper (envOf qual scope L' f cdv)) (leaving (envOf qual scope L' f cdv) e) (fun _ s'' => R (.error e) s'') (fun e' s'' => R (.error e') s'') s')
        { s with heap := h₁, toks := s.toks + binds.length })
    (hco : scope.isCoroutine = false) (hgen : scope.isGenerator = false) (hk : scope.kind = .function)
    (hcell : ∀ x ∈ scope.names, x.2 ≠ .cell) : codeAny (model prog w) A (.call (.ref f) args) R s := by
  have X := X₀.keeps F.keep
  refine codeAny_call_def (fd := fnOf name qual params body scope dV kV doc pm an cdv ct) (body := body) (binds := binds) hroom (X _ _ ho) rfl (T.nolimit.keeps F.keep) (codeRec_of X hcd) rfl hbind hcell hloc (fun h₁ hns hk₁ => ?_) hco hgen hk
  obtain ⟨oL, es, ep, hLg, hLd, hN, hNs, st, B₂⟩ := env_enter B F N hA hf hck
  refine wpAny_mono (h _ s.heap.objs.size h₁ ⟨hN _ hLg, st, F.above⟩ ⟨hns, fun b o e => hk₁ b o (of_hideAll _ e), Nat.le_of_eq (hideAll_size _ _)⟩
    (fun p hp => ⟨hk₁ _ _ (N p hp).1, Nat.ne_of_lt (Heap.lt_size (N p hp).1), hideAll_none _ (List.mem_map_of_mem hp)⟩) B₂ (X₀.keeps st) (T.keeps st) (fun b hb => by
      have z := mem_one hf hb
      subst z
      exact ⟨oL, es, ep, hLg, hLd⟩) (fun b o hb e => hideAll_get _ e hb)) (fun fl s' hl => ?_) fun _ _ y => y
  obtain ⟨g', L', m', news', T', F', N', k⟩ := hl
  have nL₀ : h₀.get? L = none := kts_self F
  obtain ⟨sl, hs⟩ := T'.up hLg
  refine k ⟨hNs sl _ (F'.keep _ _ hs), fun b o e => F'.keep b o (T'.other b o (st b o e) (fun q => by
    have z := mem_one hf q
    rw [z, nL₀] at e
    cases e)), F.above⟩ fun p hp => ⟨(N' p hp).1, fun q => ?_, ?_⟩
  · have := (N' p hp).2.2; rw [q, hs] at this; cases this
  · cases q : h₀.get? p.1 with
    | none => rfl
    | some o =>
      obtain ⟨sl', hs'⟩ := T'.up (st _ _ q)
      have := (N' p hp).2.2
      rw [hs'] at this
      cases this
end
end Mine
end
section -- C19
namespace Mine
noncomputable def pats : List Str := [Str.ofString "[A-Z]*", Str.ofString "[a-z]*", Str.ofString "[0-9]*", Str.ofString "*[+/]*", Str.ofString "*A*", Str.ofString "*=", Str.ofString "*[!=]", Str.ofString "*==", Str.ofString "????"]
set_option maxHeartbeats 8000000 in
theorem c_patterns {w : World} {A : Around} {s : Shared} {Q E : Value → Shared → Prop} {loose : List Str} {mean : ExcName → Option Value} {mg mb : Str → Option Value}
    (X : (hd.heap_1 w.params).In s.heap) (T : Top topProg loose mean mg mb s.heap) (hh : A.handled = none) (hr : A.depth + 3 < recursionLimit)
    (hQ : ∀ ws D n h' tk', StrsAre ws pats → Ext s.heap h' → s.heap.get? D = none → h'.get? D = some { cls := .type "list", data := .seq (List.toArray ws) n } → Q (.ref D) { s with heap := h', toks := tk' }) :
    wpAny (model prg w) A (call (.ref 146) [] []) Q E s := by
  obtain ⟨hd', dp, fr, gd, un⟩ := A
  dsimp only at hh hr
  subst hh
  refine' pcall X T ?k6 ?k7 (Nat.lt_of_le_of_lt (Nat.le_add_right _ _) hr) ?k9 ?kB ?c2 ?c3 ?c4 ?c5 ?_
  case k6 => k_is
  case k7 => k_is
  case k9 => first | exact BindsTo.of_eq rfl | exact binds_K X rfl (by k_is) rfl rfl rfl
  case c5 => decide
  case kB => exact locs rfl
  case c2 => exact rfl
  case c3 => exact rfl
  case c4 => exact rfl
  intro L' h' F N envL AL
  refine letM F ?_
  clear F
  intro mL F
  (try dsimp only)
  show wpAny _ _ _ _ _ _
  k_fold
  (repeat' (first | ((try k_unmd); k_unfold; first | (with_reducible (first | refine after_nil ?_ | refine after_next ?_ | refine after_ret ?_ | refine after_brk ?_ | refine after_cont ?_)) | (try dsimp only [List.cons_append, List.nil_append])) | ((with_reducible show wpAny _ _ (execs (_ :: _) _) _ _ _); ((refine execs_f ?_; intro qk))) | ((with_reducible show wpAny _ _ (storeName _ _ _) _ _ _); ((k_dflt (refine' store_f ?F ?N ?b ?a ?_; (case F => k_asm); (case N => k_asm); (case b => rfl); (case a => rfl); k_whole; intro m' h' F' N'; (try k_sweep))))) | (k_end; wrow_close) | walk1 | dsimp only | (leave1; try dsimp only)))
  (rename Fr _ _ _ _ => F9)
  (rename News _ _ _ _ => N9)
  have z := N9 _ (List.Mem.head _)
  refine hQ _ _ _ _ _ ?_ F9.keep z.2.2 z.1
  exact .cons _ _ (.cons _ _ (.cons _ _ (.cons _ _ (.cons _ _ (.cons _ _ (.cons _ _ (.cons _ _ (.cons _ _ .nil))))))))
end Mine
end
section -- C20
namespace Mine
theorem isl2 {h₀ g h : Heap} {L1 L2 l : Addr} {m1 m2 : Str → Option Value} {its : Array Value} (F2 : Fr g L2 h m2) (F1 : Fr h₀ L1 g m1) (hl : h₀.IsList l its) : h.IsList l its := (hl.at fun o e => F1.keep _ o e).at fun o e => F2.keep _ o e
theorem sorted_mine0 {prog : Program} {w : World} {A : Around} {E : Value → Shared → Prop} {s : Shared} {h₀ : Heap} {L : Addr} {m : Str → Option Value} {news : List (Addr × Obj)} {l : Addr} {vs : List Value} {ss : List Str} {Q : Value → Shared → Prop}
    (F : Fr h₀ L s.heap m) (N : News h₀ L s.heap news) (hl : s.heap.IsList l vs.toArray) (hS : StrsAre vs ss) (h64 : vs.length < 64)
    (h : ∀ (h' : Heap) (vs' : List Value) (ss' : List Str) (e : Nat), Fr h₀ L h' m → News h₀ L h' ((s.heap.objs.size + 1, { cls := .type "list", data := .seq vs'.toArray e }) :: news) → h'.IsList (s.heap.objs.size + 1) vs'.toArray →
      StrsAre vs' ss' → ss'.Perm ss → sortedS ss' = true → vs'.length = ss.length → ss'.length = ss.length → Q (.ref (s.heap.objs.size + 1)) { s with heap := h' }) :
    wpAny (model prog w) A (call (.builtin "sorted") [.ref l]) Q E s :=
  sorted_N_str F N hl hS h64 fun h' vs' ss' e F' N' S' P' T' => h h' vs' ss' e F' N' (News.isList N' (.head _)) S' P' T' ((are_strs S').length.trans P'.length_eq) P'.length_eq

theorem below_use {α : Type} {M : Model} {A : Around} {base h₀ h : Heap} {outer : List Env} {L a : Addr} {m : Str → Option Value} {name : Str} {scope : Scope} {cd : Value} {t : Sem α} {Q : α → Shared → Prop} {E : Value → Shared → Prop} {s : Shared}
    (K : Below A base outer h₀) (F : Fr h₀ L h m) (H : Below (A.deeper (envOf name scope L a cd)) base (envOf name scope L a cd :: outer) h → wpAny M (A.deeper (envOf name scope L a cd)) t Q E s) (hk : scope.kind = .function) : wpAny M (A.deeper (envOf name scope L a cd)) t Q E s := H (K.push F hk)
set_option maxHeartbeats 8000000 in
theorem c_mids0 {w : World} {e : Env} {s : Shared} {h₀ : Heap} {L : Addr} {m : Str → Option Value} {news : List (Addr × Obj)} {Q E : Value → Shared → Prop} {loose : List Str} {mean : ExcName → Option Value} {mg mb : Str → Option Value}
    (X : (hd.heap_1 w.params).In h₀) (T : Top topProg loose mean mg mb h₀) (B : Below callerA h₀ [] h₀) (F : Fr h₀ L s.heap m) (N : News h₀ L s.heap news) (hf : e.frame = some L) (hk : e.scope.kind ≠ .module) (l : Addr) {n : Nat} (hl : (l, ({ cls := .type "list", data := .seq (List.toArray []) n } : Obj)) ∈ news) (hS : StrsAre [] []) (h64 : ([] : List Value).length < 64)
    (hQ : ∀ t h' tk, Fr h₀ L h' m → News h₀ L h' news → Q (.str (Str.ofString "no median for empty data") t) { s with heap := h', toks := tk }) :
    wpAny (model prg w) (Around.deeper callerA e) (call (.ref 172) [.ref l] []) Q E s := by
  refine wpAny_call ?_
  refine' code_defE0 B F X N T rfl hf hk ?k6 ?k7 ?k8 ?k9 ?kB ?_ ?c2 ?c3 ?c4 ?c5
  case k6 => k_is
  case k7 => k_is
  case k8 => k_room
  case c5 => decide
  case c2 => exact rfl
  case c3 => exact rfl
  case c4 => exact rfl
  case k9 => first | exact binds_K (Frag.In.keeps X F.keep) rfl (by k_is) rfl rfl rfl | exact BindsTo.of_eq rfl
  case kB => exact locs rfl
  intro g L' h₁ FG F1 N1 B1 X1 T1 D1 up
  have hl' : h₁.IsList l (List.toArray []) := News.isList N1 hl
  (try dsimp only)
  show wpAny _ _ _ _ _ _
  k_fold
  (repeat' (first | ((try k_unmd); k_unfold; first | (with_reducible (first | refine after_nil ?_ | refine after_next ?_ | refine after_ret ?_ | refine after_brk ?_ | refine after_cont ?_)) | (try dsimp only [List.cons_append, List.nil_append])) | ((with_reducible show wpAny _ _ (binaryOp Operator.Mod (Value.int _ _) (Value.int _ _)) _ _ _); ((k_dflt (refine md_pos (by decide) ?_)))) | ((with_reducible show wpAny _ _ (binaryOp Operator.FloorDiv (Value.int _ _) (Value.int _ _)) _ _ _); ((k_dflt (refine fd_pos (by decide) (by decide) ?_)))) | ((with_reducible show wpAny _ _ (call (Value.type "str") _ _) _ _ _); ((k_dflt (refine' str_got ?sx ?sn ?sg ?_; (case sg => assumption); (case sn => assumption); (case sx => ((first | assumption | exact Frag.In.keeps (by assumption) (Fr.keep (by assumption))))))))) | ((with_reducible show wpAny _ _ (call (Value.builtin "sorted") _ _) _ _ _); ((refine' sorted_mine0 ?k1 ?k2 ?k3 ?k4 ?k5 ?_; (case k1 => k_asm); (case k2 => k_asm); (case k3 => exact isl2 (by assumption) (by assumption) (by assumption)); (case k4 => assumption); (case k5 => assumption); intro h9 vs9 ss9 e9 F9 N9 I9 S9 P9 T9 n9 k9; (try k_sweep)))) | ((with_reducible show wpAny _ _ (execs (_ :: _) _) _ _ _); ((refine execs_f ?_; intro qk))) | ((with_reducible show wpAny _ _ (storeName _ _ _) _ _ _); ((k_dflt (refine' store_f ?F ?N ?b ?a ?_; (case F => k_asm); (case N => k_asm); (case b => rfl); (case a => rfl); k_whole; intro m' h' F' N'; (try k_sweep))))) | (k_end; wrow_close) | walk1 | dsimp only | (leave1; try dsimp only)))
  · (rename Fr _ _ _ _ => F9)
    (rename News _ _ _ _ => N9)
    exact hQ _ _ _ F9 (fun p hp => N9 p (List.mem_cons_of_mem _ hp))
  · exfalso
    rename (@List.length Int _ = 0) => e9
    rename ((@List.length Int _ : Int) ≠ 0) => a9
    omega
end Mine
end
section -- C21
namespace Mine
noncomputable abbrev mpL (base : Str → Option Value) (v : Option Value) : Str → Option Value := fun y => if y = Str.ofString "less" then v else base y
theorem mpL_self {m : Str → Option Value} : m = mpL m (m (Str.ofString "less")) := by
  funext y
  simp only [mpL]
  split
  · rename_i h; rw [h]
  · rfl
theorem mpL_taken {m0 : Str → Option Value} {v : Option Value} {x : Value} (h : m0 (Str.ofString "taken") = some x) : mpL m0 v (Str.ofString "taken") = some x := h
theorem mpL_ahead {m0 : Str → Option Value} {v : Option Value} {u : Value} {x : Value} (h : m0 (Str.ofString "ahead") = some x) : mpL m0 v (Str.ofString "ahead") = some x := h
theorem mpL_ahead2 {m0 : Str → Option Value} {v : Option Value} {u : Value} {x : Value} (h : m0 (Str.ofString "ahead") = some x) : (fun y => if y = Str.ofString "less" then some u else mpL m0 v y) (Str.ofString "ahead") = some x := h
theorem mpL_taken2 {m0 : Str → Option Value} {v : Option Value} {u : Value} {x : Value} (h : m0 (Str.ofString "taken") = some x) : (fun y => if y = Str.ofString "less" then some u else mpL m0 v y) (Str.ofString "taken") = some x := h
theorem getm_count {M : Model} {A : Around} {E : Value → Shared → Prop} {s : Shared} {l : Addr} {its : Array Value} {n : Nat} {pl : Sem Bool} {Q : Value × List Value → Shared → Prop} (hg : s.heap.get? l = some { cls := .type "list", data := .seq its n }) (h : Q (.builtin "list.count", [.ref l]) s) :
    wpAny M A (getMethod (.ref l) (Str.ofString "count") pl) Q E s :=
  getMethod_builtin (T := "list") ⟨_, hg, rfl⟩ F.plainAttrs_list F.slot_list_count F.type_list_count (fun a e => by cases e; exact ⟨_, hg, rfl⟩) h
theorem mpL_up {m0 : Str → Option Value} {u v : Option Value} : (fun y => if y = Str.ofString "less" then u else mpL m0 v y) = mpL m0 u := by
  funext y
  simp only [mpL]
  split <;> rfl
noncomputable def strLt (a b : Str) : Bool := decide (Array.toList a.cps < Array.toList b.cps)
noncomputable def lessF (ss : List Str) (y : Str) : Nat := (ss.filter fun q => strLt q y).length
noncomputable def midP (ss : List Str) (ah : Int) (y : Str) : Prop := (lessF ss y : Int) ≤ ah ∧ ah < (lessF ss y : Int) + countIn (.str y) (ss.map PyData.str)
noncomputable def JM (ss : List Str) (P : Str → Prop) (m0 : Str → Option Value) (c1 : Addr) (i : Nat) (m : Str → Option Value) (news : List (Addr × Obj)) : Prop :=
  ∃ v o1 v1, m = mpL m0 v ∧ news = [(c1, o1)] ∧ o1.data = .cell v1 ∧ ∀ y ∈ ss.take i, ¬ P y
set_option maxHeartbeats 8000000 in
theorem c_middle {w : World} {A : Around} {s : Shared} {Q E : Value → Shared → Prop} {loose : List Str} {mean : ExcName → Option Value} {mg mb : Str → Option Value}
    (X : (hd.heap_1 w.params).In s.heap) (T : Top topProg loose mean mg mb s.heap) (hh : A.handled = none) (hr : A.depth + 6 < recursionLimit) (hu : A.units + 100 < cLine) (l : Addr) (vs : List Value) (ss : List Str) (ah : Int) (ta : Tok)
    (hc : ss.length ≤ 20)
    (nl : Nat) (hlo : s.heap.get? l = some { cls := .type "list", data := .seq (List.toArray vs) nl }) (hI : StrsAre vs ss) (x0 : Str) (hex : ∃ y ∈ ss, midP ss ah y) (hun : ∀ y ∈ ss, midP ss ah y → y = x0)
    (hQ : ∀ h' tk' t, Ext s.heap h' → Q (.str x0 t) { s with heap := h', toks := tk' }) :
    wpAny (model prg w) A (call (.ref 177) [.ref l, .int ah ta] []) Q E s := by
  have hlen := (are_strs hI).length
  have hl : s.heap.IsList l vs.toArray := ⟨_, hlo, rfl, _, rfl⟩
  obtain ⟨hd', dp, fr, gd, un⟩ := A
  dsimp only at hh hr hu
  subst hh
  refine' pcallC X T ?k6 ?k7 (Nat.lt_of_le_of_lt (Nat.le_add_right _ _) hr) ?k9 ?kB ?kD ?c2 ?c3 ?c4 ?_
  case k6 => k_is
  case k7 => k_is
  case k9 => rfl
  case kB => exact rfl
  case kD => decide +kernel
  case c2 => exact rfl
  case c3 => exact rfl
  case c4 => exact rfl
  intro L' h' tk cells F' N' Y' envL AL
  refine letM F' ?_
  clear F'
  intro mL F'
  k_cells Y'
  (try simp only [List.cons_append, List.nil_append] at N')
  (try dsimp only)
  show wpAny _ _ _ _ _ _
  k_fold
  (repeat' (first | ((try k_unmd); k_unfold; first | (with_reducible (first | refine after_nil ?_ | refine after_next ?_ | refine after_ret ?_ | refine after_brk ?_ | refine after_cont ?_)) | (try dsimp only [List.cons_append, List.nil_append])) | ((with_reducible show wpAny _ _ (exec _ _) _ _ _); first | ((with_reducible show wpAny _ _ (exec (Stmt.For _ (PySem.Expr.Name _ _) _ _ _) _) _ _ _); ((k_dflt (refine for_any ?_)))) | ((with_reducible show wpAny _ _ (exec (Stmt.Assign _ (PySem.Expr.ListComp _ _ _ _) _) _) _ _ _); (first | (k_dflt (refine LCt.Assign_ListComp_T (F₀ := by k_asm) (by rfl) (by with_unfolding_all rfl) (by with_unfolding_all rfl) (by decide) (by rfl) (by decide) (by rfl) (by rfl) (by rfl) ?_)))) | ((with_reducible show wpAny _ _ (exec (Stmt.For _ _ _ _ _) _) _ _ _); ((k_dflt (refine for_any ?_))))) | ((with_reducible show wpAny _ _ (eval (PySem.Expr.Name _ _) _) _ _ _); ((k_dflt ((refine' nameX_L ?F ?v ?_ ?a ?b); (case F => k_asm); (case b => rfl); (case a => rfl); (case v => assumption))))) | ((with_reducible show wpAny _ _ (eval (PySem.Expr.ListComp _ _ _ _) _) _ _ _); (first | (k_dflt (refine LCt.ListComp_T (F₀ := by k_asm) (by with_unfolding_all rfl) (by decide) (by rfl) (by decide) (by rfl) ?_)) | (k_dflt (refine LCg.ListComp_U (F₀ := by k_asm) (by with_unfolding_all rfl) (by decide) (by rfl) (by decide) (by rfl) ?_)))) | ((with_reducible show wpAny _ _ (call (Value.builtin "list.count") _ _) _ _ _); ((k_dflt (refine' count_list_strs ?l1 ?l2 ?_); (case l1 => (((rename Fr _ _ _ _ => F9); exact Heap.IsList.at (by assumption) fun o e => F9.keep _ o e))); (case l2 => assumption)))) | ((with_reducible show wpAny _ _ (call (Value.builtin "len") _ _) _ _ _); ((k_dflt (refine' len_strsA ?l1 ?l2 ?l3 ?_); (case l1 => (first | exact News.isList (by assumption) (by k_mem) | (((rename Fr _ _ _ _ => F9); exact Heap.IsList.at (by assumption) fun o e => F9.keep _ o e)))); (case l2 => assumption); (case l3 => omega)))) | ((with_reducible show wpAny _ _ (getMethod (Value.ref _) _ _) _ _ _); ((k_dflt (refine' getm_count ?g ?_); (case g => (rename Fr _ _ _ _ => F9); exact F9.keep _ _ (by assumption))))) | ((with_reducible show wpAny _ _ (execs (_ :: _) _) _ _ _); ((refine execs_f ?_; intro qk))) | ((with_reducible show wpAny _ _ (storeName _ _ _) _ _ _); ((k_dflt (refine' store_f ?F ?N ?b ?a ?_; (case F => k_asm); (case N => k_asm); (case b => rfl); (case a => rfl); k_whole; intro m' h' F' N'; (try k_sweep))))) | (k_end; wrow_close) | walk1 | dsimp only | (leave1; try dsimp only)))
  (rename Fr _ _ _ _ => F9)
  (rename News _ _ _ _ => N9)
  obtain ⟨m0, hm0, F8⟩ := fr_name F9
  refine iter_list (by rfl) hl (JM ss (midP ss ah) m0 (L' + 1)) F8 N9 ?_ ?_ ?_
  · exact ⟨_, _, _, mpL_self, rfl, by assumption, by simp⟩
  · rintro i v m₁ news₁ I it h tk hv hlt ⟨v0, o1, v1, rfl, rfl, ho1, hno⟩ off F N
    obtain ⟨p, hp, t, rfl⟩ := (are_strs hI).at i v (by simpa using hv)
    have hpm := List.mem_of_getElem? hp
    have hI0 : (@Ne Nat (L' + 1) I) := off _ (List.Mem.head _)
    have htk : m0 (Str.ofString "taken") = some (.ref l) := by subst hm0; exact rfl
    have hah : m0 (Str.ofString "ahead") = some (.int ah ta) := by subst hm0; exact rfl
    have hvl : vs.length ≤ 20 := by rw [hlen]; exact hc
    clear F8 F9 N9
    show wpAny _ _ _ _ _ _
    k_fold
    (repeat' (first | ((try k_unmd); k_unfold; first | (with_reducible (first | refine after_nil ?_ | refine after_next ?_ | refine after_ret ?_ | refine after_brk ?_ | refine after_cont ?_)) | (try dsimp only [List.cons_append, List.nil_append])) | ((with_reducible show wpAny _ _ (exec _ _) _ _ _); first | ((with_reducible show wpAny _ _ (exec (Stmt.For _ (PySem.Expr.Name _ _) _ _ _) _) _ _ _); ((k_dflt (refine for_any ?_)))) | ((with_reducible show wpAny _ _ (exec (Stmt.Assign _ (PySem.Expr.ListComp _ _ _ _) _) _) _ _ _); (first | (k_dflt (refine LCt.Assign_ListComp_T (F₀ := by k_asm) (by rfl) (by with_unfolding_all rfl) (by with_unfolding_all rfl) (by decide) (by rfl) (by decide) (by rfl) (by rfl) (by rfl) ?_)))) | ((with_reducible show wpAny _ _ (exec (Stmt.For _ _ _ _ _) _) _ _ _); ((k_dflt (refine for_any ?_))))) | ((with_reducible show wpAny _ _ (eval (PySem.Expr.Name _ _) _) _ _ _); ((k_dflt ((refine' nameX_L ?F ?v ?_ ?a ?b); (case F => k_asm); (case b => rfl); (case a => rfl); (case v => assumption))))) | ((with_reducible show wpAny _ _ (eval (PySem.Expr.ListComp _ _ _ _) _) _ _ _); (first | (k_dflt (refine LCt.ListComp_T (F₀ := by k_asm) (by with_unfolding_all rfl) (by decide) (by rfl) (by decide) (by rfl) ?_)) | (k_dflt (refine LCg.ListComp_U (F₀ := by k_asm) (by with_unfolding_all rfl) (by decide) (by rfl) (by decide) (by rfl) ?_)))) | ((with_reducible show wpAny _ _ (call (Value.builtin "list.count") _ _) _ _ _); ((k_dflt (refine' count_list_strs ?l1 ?l2 ?_); (case l1 => (((rename Fr _ _ _ _ => F9); exact Heap.IsList.at (by assumption) fun o e => F9.keep _ o e))); (case l2 => assumption)))) | ((with_reducible show wpAny _ _ (call (Value.builtin "len") _ _) _ _ _); ((k_dflt (refine' len_strsA ?l1 ?l2 ?l3 ?_); (case l1 => (first | exact News.isList (by assumption) (by k_mem) | (((rename Fr _ _ _ _ => F9); exact Heap.IsList.at (by assumption) fun o e => F9.keep _ o e)))); (case l2 => assumption); (case l3 => omega)))) | ((with_reducible show wpAny _ _ (getMethod (Value.ref _) _ _) _ _ _); ((k_dflt (refine' getm_count ?g ?_); (case g => (rename Fr _ _ _ _ => F9); exact F9.keep _ _ (by assumption))))) | ((with_reducible show wpAny _ _ (execs (_ :: _) _) _ _ _); ((refine execs_f ?_; intro qk))) | ((with_reducible show wpAny _ _ (storeName _ _ _) _ _ _); ((k_dflt (refine' store_f ?F ?N ?b ?a ?_; (case F => k_asm); (case N => k_asm); (case b => rfl); (case a => rfl); k_whole; intro m' h' F' N'; (try k_sweep))))) | (k_end; wrow_close) | walk1 | dsimp only | (leave1; try dsimp only)))
    (rename News _ _ _ _ => N9)
    refine LCt.CompSrcT.base (by rfl) (by k_asm) (by k_asm) hl ?_ ?_
    · rw [sizeLine_eq]; simp only [List.size_toArray]; omega
    intro g'
    refine rest_T ss (fun q => strLt q p) (fun q => q) (Ri := IsStr) (Ro := IsStr) (by simpa using hlen.symm) (src_strs hI) ?_ ?_ ?_
    · exact Or.inl hl
    · intro a v I oI C oC D m₂ ys h tk E' ha hv hC hx F N
      obtain ⟨tv, rfl⟩ := hv
      clear N9
      show wpAny _ _ _ _ _ _
      k_fold
      (repeat' (first | ((try k_unmd); k_unfold; first | (with_reducible (first | refine after_nil ?_ | refine after_next ?_ | refine after_ret ?_ | refine after_brk ?_ | refine after_cont ?_)) | (try dsimp only [List.cons_append, List.nil_append])) | ((with_reducible show wpAny _ _ (exec _ _) _ _ _); first | ((with_reducible show wpAny _ _ (exec (Stmt.For _ (PySem.Expr.Name _ _) _ _ _) _) _ _ _); ((k_dflt (refine for_any ?_)))) | ((with_reducible show wpAny _ _ (exec (Stmt.Assign _ (PySem.Expr.ListComp _ _ _ _) _) _) _ _ _); (first | (k_dflt (refine LCt.Assign_ListComp_T (F₀ := by k_asm) (by rfl) (by with_unfolding_all rfl) (by with_unfolding_all rfl) (by decide) (by rfl) (by decide) (by rfl) (by rfl) (by rfl) ?_)))) | ((with_reducible show wpAny _ _ (exec (Stmt.For _ _ _ _ _) _) _ _ _); ((k_dflt (refine for_any ?_))))) | ((with_reducible show wpAny _ _ (eval (PySem.Expr.Name _ _) _) _ _ _); ((k_dflt ((refine' nameX_L ?F ?v ?_ ?a ?b); (case F => k_asm); (case b => rfl); (case a => rfl); (case v => assumption))))) | ((with_reducible show wpAny _ _ (eval (PySem.Expr.ListComp _ _ _ _) _) _ _ _); (first | (k_dflt (refine LCt.ListComp_T (F₀ := by k_asm) (by with_unfolding_all rfl) (by decide) (by rfl) (by decide) (by rfl) ?_)) | (k_dflt (refine LCg.ListComp_U (F₀ := by k_asm) (by with_unfolding_all rfl) (by decide) (by rfl) (by decide) (by rfl) ?_)))) | ((with_reducible show wpAny _ _ (call (Value.builtin "list.count") _ _) _ _ _); ((k_dflt (refine' count_list_strs ?l1 ?l2 ?_); (case l1 => (((rename Fr _ _ _ _ => F9); exact Heap.IsList.at (by assumption) fun o e => F9.keep _ o e))); (case l2 => assumption)))) | ((with_reducible show wpAny _ _ (call (Value.builtin "len") _ _) _ _ _); ((k_dflt (refine' len_strsA ?l1 ?l2 ?l3 ?_); (case l1 => (first | exact News.isList (by assumption) (by k_mem) | (((rename Fr _ _ _ _ => F9); exact Heap.IsList.at (by assumption) fun o e => F9.keep _ o e)))); (case l2 => assumption); (case l3 => omega)))) | ((with_reducible show wpAny _ _ (getMethod (Value.ref _) _ _) _ _ _); ((k_dflt (refine' getm_count ?g ?_); (case g => (rename Fr _ _ _ _ => F9); exact F9.keep _ _ (by assumption))))) | ((with_reducible show wpAny _ _ (execs (_ :: _) _) _ _ _); ((refine execs_f ?_; intro qk))) | ((with_reducible show wpAny _ _ (storeName _ _ _) _ _ _); ((k_dflt (refine' store_f ?F ?N ?b ?a ?_; (case F => k_asm); (case N => k_asm); (case b => rfl); (case a => rfl); k_whole; intro m' h' F' N'; (try k_sweep))))) | (k_end; wrow_close) | walk1 | dsimp only | (leave1; try dsimp only)))
      · exact TurnE.intro (by assumption) (by assumption) (by kcf_all) ⟨decide_eq_true (by assumption), _, rfl⟩
      · exact TurnE.intro (by assumption) (by assumption) (by kcf_all) (decide_eq_false (by assumption))
    intro ys hys
    have S7 := hys.strs
    rw [List.map_id'] at S7
    have hfl : (List.filter (fun q => strLt q p) ss).length ≤ 20 := Nat.le_trans (List.length_filter_le _ _) hc
    have hnext : ¬ midP ss ah p → ∀ y ∈ ss.take (i + 1), ¬ midP ss ah y := by
      intro hp' y hy
      rw [List.take_add_one, hp] at hy
      rcases List.mem_append.mp hy with hy | hy
      · exact hno y hy
      · have : y = p := by simpa using hy
        rw [this]; exact hp'
    (repeat' (first | ((try k_unmd); k_unfold; first | (with_reducible (first | refine after_nil ?_ | refine after_next ?_ | refine after_ret ?_ | refine after_brk ?_ | refine after_cont ?_)) | (try dsimp only [List.cons_append, List.nil_append])) | ((with_reducible show wpAny _ _ (exec _ _) _ _ _); first | ((with_reducible show wpAny _ _ (exec (Stmt.For _ (PySem.Expr.Name _ _) _ _ _) _) _ _ _); ((k_dflt (refine for_any ?_)))) | ((with_reducible show wpAny _ _ (exec (Stmt.Assign _ (PySem.Expr.ListComp _ _ _ _) _) _) _ _ _); (first | (k_dflt (refine LCt.Assign_ListComp_T (F₀ := by k_asm) (by rfl) (by with_unfolding_all rfl) (by with_unfolding_all rfl) (by decide) (by rfl) (by decide) (by rfl) (by rfl) (by rfl) ?_)))) | ((with_reducible show wpAny _ _ (exec (Stmt.For _ _ _ _ _) _) _ _ _); ((k_dflt (refine for_any ?_))))) | ((with_reducible show wpAny _ _ (eval (PySem.Expr.Name _ _) _) _ _ _); ((k_dflt ((refine' nameX_L ?F ?v ?_ ?a ?b); (case F => k_asm); (case b => rfl); (case a => rfl); (case v => assumption))))) | ((with_reducible show wpAny _ _ (eval (PySem.Expr.ListComp _ _ _ _) _) _ _ _); (first | (k_dflt (refine LCt.ListComp_T (F₀ := by k_asm) (by with_unfolding_all rfl) (by decide) (by rfl) (by decide) (by rfl) ?_)) | (k_dflt (refine LCg.ListComp_U (F₀ := by k_asm) (by with_unfolding_all rfl) (by decide) (by rfl) (by decide) (by rfl) ?_)))) | ((with_reducible show wpAny _ _ (call (Value.builtin "list.count") _ _) _ _ _); ((k_dflt (refine' count_list_strs ?l1 ?l2 ?_); (case l1 => (((rename Fr _ _ _ _ => F9); exact Heap.IsList.at (by assumption) fun o e => F9.keep _ o e))); (case l2 => assumption)))) | ((with_reducible show wpAny _ _ (call (Value.builtin "len") _ _) _ _ _); ((k_dflt (refine' len_strsA ?l1 ?l2 ?l3 ?_); (case l1 => (first | exact News.isList (by assumption) (by k_mem) | (((rename Fr _ _ _ _ => F9); exact Heap.IsList.at (by assumption) fun o e => F9.keep _ o e)))); (case l2 => assumption); (case l3 => omega)))) | ((with_reducible show wpAny _ _ (getMethod (Value.ref _) _ _) _ _ _); ((k_dflt (refine' getm_count ?g ?_); (case g => (rename Fr _ _ _ _ => F9); exact F9.keep _ _ (by assumption))))) | ((with_reducible show wpAny _ _ (execs (_ :: _) _) _ _ _); ((refine execs_f ?_; intro qk))) | ((with_reducible show wpAny _ _ (storeName _ _ _) _ _ _); ((k_dflt (refine' store_f ?F ?N ?b ?a ?_; (case F => k_asm); (case N => k_asm); (case b => rfl); (case a => rfl); k_whole; intro m' h' F' N'; (try k_sweep))))) | (k_end; wrow_close) | walk1 | dsimp only | (leave1; try dsimp only)))
    all_goals (rename Fr _ _ _ _ => F7)
    all_goals (rename News _ _ _ _ => N7)
    · obtain rfl := hun p hpm ⟨by assumption, by assumption⟩
      exact hQ _ _ _ F7.keep
    · refine TurnP.next F7 N7 (news' := [(L' + 1, _)]) (fun q hq => ?_) (fun q hq => by rw [List.mem_singleton.mp hq]; exact hI0) ⟨_, _, _, mpL_up, rfl, by assumption, hnext ?_⟩
      · simp only [List.mem_cons, List.not_mem_nil, or_false] at hq
        rcases hq with rfl | rfl
        · k_mem
        · k_mem
      · intro hm; exact absurd hm.2 (by assumption)
    · refine TurnP.next F7 N7 (news' := [(L' + 1, _)]) (fun q hq => ?_) (fun q hq => by rw [List.mem_singleton.mp hq]; exact hI0) ⟨_, _, _, mpL_up, rfl, by assumption, hnext ?_⟩
      · simp only [List.mem_cons, List.not_mem_nil, or_false] at hq
        rcases hq with rfl | rfl
        · k_mem
        · k_mem
      · intro hm; exact absurd hm.1 (by assumption)
  · rintro h tk m₁ news₁ ⟨v0, o1, v1, rfl, rfl, ho1, hno⟩ F N
    exfalso
    obtain ⟨y, hy, hm⟩ := hex
    have hsz : vs.toArray.size = ss.length := by simpa using hlen
    rw [hsz, List.take_length] at hno
    exact hno y hy hm
end Mine
end
section -- EqS
open PySem PySem.W PySem.Spec PySem.Calls PyProof.Rows PyProof.V PySem.SeqAt
namespace Mine
theorem readsAll_of_strs {h : Heap} : ∀ {vs : List Value} {ns : List Str}, StrsAre vs ns → ReadsAll h vs (ns.map PyData.str) []
  | _, _, .nil => .nil
  | _, _, .cons k t r => by
    have := ReadsAll.cons (Reads.str (h := h) k t) (readsAll_of_strs (h := h) r)
    simpa using this
theorem reads_of_strs {h : Heap} {a : Addr} {vs : List Value} {ns : List Str} (hl : h.IsList a vs.toArray) (hi : StrsAre vs ns) : Reads h (.ref a) (.list (ns.map PyData.str)) [a] := by
  obtain ⟨o, ho, hc, n, hd⟩ := hl
  exact Reads.list ho hc hd (by simpa using readsAll_of_strs hi)
noncomputable def AllOk (ns : List Str) : Prop := ∀ x ∈ ns, PyData.strOk x = true
theorem canLayAll0_strs : ∀ ns : List Str, AllOk ns → PyData.canLayAll0 (ns.map PyData.str) = true
  | [], _ => by simp [PyData.canLayAll0]
  | n :: r, h => by
    have h1 := canLayAll0_strs r fun x hx => h x (List.mem_cons_of_mem _ hx)
    simp [PyData.canLayAll0, PyData.canLay0, h1, h n List.mem_cons_self]
theorem depthAll_strs : ∀ ns : List Str, PyData.depthAll (ns.map PyData.str) ≤ 1
  | [] => by simp [PyData.depthAll]
  | n :: r => by
    have := depthAll_strs r
    simp only [List.map_cons, PyData.depthAll, PyData.depth]
    omega
theorem shaped_strs (ns : List Str) (h : AllOk ns) : shaped (.list (ns.map PyData.str)) = true := by
  have h1 := depthAll_strs ns
  have h2 : PyData.depth (.list (ns.map PyData.str)) ≤ 64 := by simp only [PyData.depth]; omega
  show (PyData.canLay0 (.list (ns.map PyData.str)) && decide (PyData.depth (.list (ns.map PyData.str)) ≤ 64)) = true
  rw [Bool.and_eq_true]
  exact ⟨by simp only [PyData.canLay0]; exact canLayAll0_strs ns h, decide_eq_true h2⟩
theorem noMix_strs : ∀ ns ms : List Str, noMixAll (ns.map PyData.str) (ms.map PyData.str) = true
  | [], [] => by simp [noMixAll]
  | [], _ :: _ => by simp [noMixAll]
  | _ :: _, [] => by simp [noMixAll]
  | _ :: r, _ :: q => by simp [noMixAll, noMix, noMix_strs r q]
theorem same_strs : ∀ ns ms : List Str, PySem.Spec.sameAll (ns.map PyData.str) (ms.map PyData.str) = decide (ns = ms)
  | [], [] => by simp [PySem.Spec.sameAll]
  | [], _ :: _ => by simp [PySem.Spec.sameAll]
  | _ :: _, [] => by simp [PySem.Spec.sameAll]
  | n :: r, k :: q => by
    simp only [List.map_cons, PySem.Spec.sameAll, PySem.Spec.same, same_strs r q]
    by_cases h : n = k <;> simp [h]
section
variable {prog : Program} {w : World} {A : Around} {E : Value → Shared → Prop} {s : Shared}
theorem eq_strsK {a b : Addr} {vs us : List Value} {ns ms : List Str} {Q : Value → Shared → Prop} (hl : s.heap.IsList a vs.toArray) (hi : StrsAre vs ns) (hl' : s.heap.IsList b us.toArray) (hi' : StrsAre us ms) (h1 : AllOk ns) (h2 : AllOk ms) (hu : A.units + 64 < cLine)
    (h : Q (.bool (decide (ns = ms))) s) : wpAny (model prog w) A (compareOp .Eq (.ref a) (.ref b)) Q E s :=
  eq_dataH_same (reads_of_strs hl hi) (reads_of_strs hl' hi') (shaped_strs ns h1) (shaped_strs ms h2) hu (by simp only [noMix]; exact noMix_strs ns ms) (by simp only [PySem.Spec.same]; rw [same_strs]; exact h)
theorem ne_strsK {a b : Addr} {vs us : List Value} {ns ms : List Str} {Q : Value → Shared → Prop} (hl : s.heap.IsList a vs.toArray) (hi : StrsAre vs ns) (hl' : s.heap.IsList b us.toArray) (hi' : StrsAre us ms) (h1 : AllOk ns) (h2 : AllOk ms) (hu : A.units + 64 < cLine)
    (h : Q (.bool (!decide (ns = ms))) s) : wpAny (model prog w) A (compareOp .NotEq (.ref a) (.ref b)) Q E s :=
  ne_dataH_same (reads_of_strs hl hi) (reads_of_strs hl' hi') (shaped_strs ns h1) (shaped_strs ms h2) hu (by simp only [noMix]; exact noMix_strs ns ms) (by simp only [PySem.Spec.same]; rw [same_strs]; exact h)
end
end Mine
end
section -- C22
namespace Mine

theorem eq_nil_f {prog : Program} {w : World} {A : Around} {E : Value → Shared → Prop} {s : Shared} {a b : Addr} {vs : List Value} {ns : List Str} {Q : Value → Shared → Prop} (hl : s.heap.IsList a (List.toArray vs)) (hi : StrsAre vs ns) (hl' : s.heap.IsList b (List.toArray [])) (h1 : AllOk ns) (hne : ns ≠ []) (hu : A.units + 64 < cLine)
    (h : Q (.bool false) s) : wpAny (model prog w) A (compareOp .Eq (.ref a) (.ref b)) Q E s :=
  eq_strsK hl hi hl' .nil h1 (fun _ h => nomatch h) hu (by rw [decide_eq_false hne]; exact h)
theorem eq_nil_t {prog : Program} {w : World} {A : Around} {E : Value → Shared → Prop} {s : Shared} {a b : Addr} {Q : Value → Shared → Prop} (hl : s.heap.IsList a (List.toArray [])) (hl' : s.heap.IsList b (List.toArray [])) (hu : A.units + 64 < cLine)
    (h : Q (.bool true) s) : wpAny (model prog w) A (compareOp .Eq (.ref a) (.ref b)) Q E s :=
  eq_strsK hl .nil hl' .nil (fun _ h => nomatch h) (fun _ h => nomatch h) hu (by rw [decide_eq_true rfl]; exact h)
set_option maxHeartbeats 8000000 in
theorem c_told0 {w : World} {A : Around} {s : Shared} {Q E : Value → Shared → Prop} {loose : List Str} {mean : ExcName → Option Value} {mg mb : Str → Option Value}
    (X : (hd.heap_1 w.params).In s.heap) (T : Top topProg loose mean mg mb s.heap) (hh : A.handled = none) (hr : A.depth + 8 < recursionLimit) (hu : A.units + 120 < cLine) (l : Addr)
    (hl : s.heap.IsList l (List.toArray []))
    (hQ : ∀ h' tk' t, Ext s.heap h' → Q (.str (Str.ofString "no median for empty data") t) { s with heap := h', toks := tk' }) :
    wpAny (model prg w) A (call (.ref 184) [.ref l] []) Q E s := by
  obtain ⟨hd', dp, fr, gd, un⟩ := A
  dsimp only at hh hr hu
  subst hh
  refine' pcall X T ?k6 ?k7 (Nat.lt_of_le_of_lt (Nat.le_add_right _ _) hr) ?k9 ?kB ?c2 ?c3 ?c4 ?c5 ?_
  case k6 => k_is
  case k7 => k_is
  case k9 => first | exact BindsTo.of_eq rfl | exact binds_K X rfl (by k_is) rfl rfl rfl
  case c5 => decide
  case kB => exact locs rfl
  case c2 => exact rfl
  case c3 => exact rfl
  case c4 => exact rfl
  intro L' h' F N envL AL
  refine letM F ?_
  clear F
  intro mL F
  (try dsimp only)
  show wpAny _ _ _ _ _ _
  k_fold
  (repeat' (first | ((try k_unmd); k_unfold; first | (with_reducible (first | refine after_nil ?_ | refine after_next ?_ | refine after_ret ?_ | refine after_brk ?_ | refine after_cont ?_)) | (try dsimp only [List.cons_append, List.nil_append])) | ((with_reducible show wpAny _ _ (binaryOp Operator.FloorDiv (Value.int _ _) (Value.int _ _)) _ _ _); ((k_dflt (refine fd_pos (by decide) (by decide) ?_)))) | ((with_reducible show wpAny _ _ (compareOp CmpOp.Eq (Value.ref _) (Value.ref _)) _ _ _); ((k_dflt (first | (refine' eq_nil_f ?e1 ?e2 ?e3 ?e4 ?e5 ?e6 ?_; (case e1 => (first | exact News.isList (by assumption) (by k_mem) | (((rename Fr _ _ _ _ => F9); exact Heap.IsList.at (by assumption) fun o e => F9.keep _ o e)))); (case e2 => assumption); (case e3 => exact News.isList (by assumption) (by k_mem)); (case e4 => assumption); (case e5 => assumption); (case e6 => ((simp +zetaDelta only [depth_deeper, units_deeper]; omega)))) | (refine' eq_nil_t ?e1 ?e3 ?e6 ?_; (case e1 => (((rename Fr _ _ _ _ => F9); exact Heap.IsList.at (by assumption) fun o e => F9.keep _ o e))); (case e3 => exact News.isList (by assumption) (by k_mem)); (case e6 => ((simp +zetaDelta only [depth_deeper, units_deeper]; omega)))))))) | ((with_reducible show wpAny _ _ (call (Value.ref _) _ _) _ _ _); ((k_dflt (refine' c_middle ?cx ?ct ?ch ?cr ?cu _ _ _ _ _ ?c1 _ ?c2 ?c3 _ ?c4 ?c5 ?_); (case cx => ((first | assumption | exact Frag.In.keeps (by assumption) (Fr.keep (by assumption))))); (case ct => ((first | assumption | exact Top.keeps (by assumption) (Fr.keep (by assumption))))); (case ch => with_unfolding_all rfl); (case cr => ((simp +zetaDelta only [depth_deeper, units_deeper]; omega))); (case cu => ((simp +zetaDelta only [depth_deeper, units_deeper]; omega))); (case c1 => assumption); (case c2 => (rename Fr _ _ _ _ => F9); exact F9.keep _ _ (by assumption)); (case c3 => assumption); (case c4 => assumption); (case c5 => assumption); intro h9 tk9 t9 hx9; (((rename Fr _ _ _ _ => F9); (rename News _ _ _ _ => N9); (rename Ext _ _ => hx9); (have F8 := fr_ext F9 hx9); (have N8 := news_ext N9 hx9); clear F9 N9 hx9; (try dsimp only); (try k_fold)))))) | ((with_reducible show wpAny _ _ (call (Value.builtin "len") _ _) _ _ _); ((k_dflt (refine' len_strsA ?l1 ?l2 ?l3 ?_); (case l1 => (((rename Fr _ _ _ _ => F9); exact Heap.IsList.at (by assumption) fun o e => F9.keep _ o e))); (case l2 => assumption); (case l3 => omega)))) | ((with_reducible show wpAny _ _ (execs (_ :: _) _) _ _ _); ((refine execs_f ?_; intro qk))) | ((with_reducible show wpAny _ _ (storeName _ _ _) _ _ _); ((k_dflt (refine' store_f ?F ?N ?b ?a ?_; (case F => k_asm); (case N => k_asm); (case b => rfl); (case a => rfl); k_whole; intro m' h' F' N'; (try k_sweep))))) | (k_end; wrow_close) | walk1 | dsimp only | (leave1; try dsimp only)))
  (rename Fr _ _ _ _ => F9)
  exact hQ _ _ _ F9.keep
set_option maxHeartbeats 8000000 in
theorem c_told {w : World} {A : Around} {s : Shared} {Q E : Value → Shared → Prop} {loose : List Str} {mean : ExcName → Option Value} {mg mb : Str → Option Value}
    (X : (hd.heap_1 w.params).In s.heap) (T : Top topProg loose mean mg mb s.heap) (hh : A.handled = none) (hr : A.depth + 8 < recursionLimit) (hu : A.units + 120 < cLine) (l : Addr) (vs : List Value) (ss : List Str)
    (hc : ss.length ≤ 20) (hne : ss ≠ []) (hok : AllOk ss)
    (nl : Nat) (hlo : s.heap.get? l = some { cls := .type "list", data := .seq (List.toArray vs) nl }) (hI : StrsAre vs ss) (x1 x2 : Str)
    (hex1 : ∃ y ∈ ss, midP ss (((ss.length : Int) - 1) / 2) y) (hun1 : ∀ y ∈ ss, midP ss (((ss.length : Int) - 1) / 2) y → y = x1)
    (hex2 : ∃ y ∈ ss, midP ss ((ss.length : Int) / 2) y) (hun2 : ∀ y ∈ ss, midP ss ((ss.length : Int) / 2) y → y = x2)
    (hQ : ∀ t1 t2 D n h' tk', Ext s.heap h' → s.heap.get? D = none → h'.get? D = some { cls := .type "list", data := .seq #[.str x1 t1, .str x2 t2] n } → Q (.ref D) { s with heap := h', toks := tk' }) :
    wpAny (model prg w) A (call (.ref 184) [.ref l] []) Q E s := by
  have hl : s.heap.IsList l (List.toArray vs) := ⟨_, hlo, rfl, _, rfl⟩
  obtain ⟨hd', dp, fr, gd, un⟩ := A
  dsimp only at hh hr hu
  subst hh
  refine' pcall X T ?k6 ?k7 (Nat.lt_of_le_of_lt (Nat.le_add_right _ _) hr) ?k9 ?kB ?c2 ?c3 ?c4 ?c5 ?_
  case k6 => k_is
  case k7 => k_is
  case k9 => first | exact BindsTo.of_eq rfl | exact binds_K X rfl (by k_is) rfl rfl rfl
  case c5 => decide
  case kB => exact locs rfl
  case c2 => exact rfl
  case c3 => exact rfl
  case c4 => exact rfl
  intro L' h' F N envL AL
  refine letM F ?_
  clear F
  intro mL F
  (try dsimp only)
  show wpAny _ _ _ _ _ _
  k_fold
  (repeat' (first | ((try k_unmd); k_unfold; first | (with_reducible (first | refine after_nil ?_ | refine after_next ?_ | refine after_ret ?_ | refine after_brk ?_ | refine after_cont ?_)) | (try dsimp only [List.cons_append, List.nil_append])) | ((with_reducible show wpAny _ _ (binaryOp Operator.FloorDiv (Value.int _ _) (Value.int _ _)) _ _ _); ((k_dflt (refine fd_pos (by decide) (by decide) ?_)))) | ((with_reducible show wpAny _ _ (compareOp CmpOp.Eq (Value.ref _) (Value.ref _)) _ _ _); ((k_dflt (first | (refine' eq_nil_f ?e1 ?e2 ?e3 ?e4 ?e5 ?e6 ?_; (case e1 => (first | exact News.isList (by assumption) (by k_mem) | (((rename Fr _ _ _ _ => F9); exact Heap.IsList.at (by assumption) fun o e => F9.keep _ o e)))); (case e2 => assumption); (case e3 => exact News.isList (by assumption) (by k_mem)); (case e4 => assumption); (case e5 => assumption); (case e6 => ((simp +zetaDelta only [depth_deeper, units_deeper]; omega)))) | (refine' eq_nil_t ?e1 ?e3 ?e6 ?_; (case e1 => (((rename Fr _ _ _ _ => F9); exact Heap.IsList.at (by assumption) fun o e => F9.keep _ o e))); (case e3 => exact News.isList (by assumption) (by k_mem)); (case e6 => ((simp +zetaDelta only [depth_deeper, units_deeper]; omega)))))))) | ((with_reducible show wpAny _ _ (call (Value.ref _) _ _) _ _ _); ((k_dflt (refine' c_middle ?cx ?ct ?ch ?cr ?cu _ _ _ _ _ ?c1 _ ?c2 ?c3 _ ?c4 ?c5 ?_); (case cx => ((first | assumption | exact Frag.In.keeps (by assumption) (Fr.keep (by assumption))))); (case ct => ((first | assumption | exact Top.keeps (by assumption) (Fr.keep (by assumption))))); (case ch => with_unfolding_all rfl); (case cr => ((simp +zetaDelta only [depth_deeper, units_deeper]; omega))); (case cu => ((simp +zetaDelta only [depth_deeper, units_deeper]; omega))); (case c1 => assumption); (case c2 => (rename Fr _ _ _ _ => F9); exact F9.keep _ _ (by assumption)); (case c3 => assumption); (case c4 => assumption); (case c5 => assumption); intro h9 tk9 t9 hx9; (((rename Fr _ _ _ _ => F9); (rename News _ _ _ _ => N9); (rename Ext _ _ => hx9); (have F8 := fr_ext F9 hx9); (have N8 := news_ext N9 hx9); clear F9 N9 hx9; (try dsimp only); (try k_fold)))))) | ((with_reducible show wpAny _ _ (call (Value.builtin "len") _ _) _ _ _); ((k_dflt (refine' len_strsA ?l1 ?l2 ?l3 ?_); (case l1 => (((rename Fr _ _ _ _ => F9); exact Heap.IsList.at (by assumption) fun o e => F9.keep _ o e))); (case l2 => assumption); (case l3 => omega)))) | ((with_reducible show wpAny _ _ (execs (_ :: _) _) _ _ _); ((refine execs_f ?_; intro qk))) | ((with_reducible show wpAny _ _ (storeName _ _ _) _ _ _); ((k_dflt (refine' store_f ?F ?N ?b ?a ?_; (case F => k_asm); (case N => k_asm); (case b => rfl); (case a => rfl); k_whole; intro m' h' F' N'; (try k_sweep))))) | (k_end; wrow_close) | walk1 | dsimp only | (leave1; try dsimp only)))
  (rename Fr _ _ _ _ => F9)
  (rename News _ _ _ _ => N9)
  have z := N9 _ (List.Mem.head _)
  exact hQ _ _ _ _ _ _ F9.keep z.2.2 z.1
end Mine
end
section -- G2
namespace Mine
noncomputable def EltOk (prog : Program) (w : World) (D U : Nat) (env : Env) (elt : PySem.Expr) (scope : Scope) (cl : List (Str × Addr)) (x : Str) (ss : List Str) (f : Str → Str) : Prop :=
  ∀ (C : Addr) (code : Value) (A' : Around) (E' : Value → Shared → Prop) (y : Str) (u : Tok) (t : Shared) (m₂ : Str → Option Value), A'.handled = none → A'.depth ≤ D → A'.units ≤ U → y ∈ ss → t.heap.Ns C m₂ → m₂ x = some (.str y u) →
    wpAny (model prog w) A' (eval elt (genEnv scope cl C code builtinsNs env)) (fun v s₃ => (∃ u', v = .str (f y) u') ∧ Keeps t s₃) E' t
noncomputable def GenS (prog : Program) (w : World) (A : Around) (K a : Addr) (ss : List Str) (f : Str → Str) (s : Shared) : Prop :=
  Gen prog w A K a ss.length (fun j y => ∃ b u, ss[j]? = some b ∧ y = .str (f b) u) s
noncomputable def SrcG (prog : Program) (w : World) (A : Around) (hb : Heap) (L : Addr) (m : Str → Option Value) (env : Env) (elt : PySem.Expr) (x : Str) (scope : Scope) (cl : List (Str × Addr)) (pos : Pos) (P : Addr) (Q : Value → Shared → Prop) (xv : Value) (s₁ : Shared) : Prop :=
  ∃ l vs ss f ps news, xv = .ref l ∧ Fr hb L s₁.heap m ∧ News hb L s₁.heap news ∧ s₁.heap.IsList l (List.toArray vs) ∧ StrsAre vs ss ∧ AllBare s₁.gens ∧ TriplesOk ps.toList ∧ EltOk prog w (A.depth + 1) (A.units + 8) env elt scope cl x ss f ∧
    ((codeAmong pos ps.toList = none ∧ ∃ g, UpdF P (tabObj ps) news g ∧ ∀ c' a K s₅, Fr hb L s₅.heap m → News hb L s₅.heap (g (tabObj (ps ++ #[rawInt pos.line, rawInt pos.col, .ref c']))) → AllBare s₅.gens → s₅.os = s₁.os → L ≤ K →
        (∀ q ∈ g (tabObj (ps ++ #[rawInt pos.line, rawInt pos.col, .ref c'])), q.1 ≤ K) → GenS prog w A K a ss f s₅ → Q (.ref a) s₅) ∨
     (∃ c', codeAmong pos ps.toList = some (.ref c') ∧ (P, tabObj ps) ∈ news ∧ ∀ a K s₅, Fr hb L s₅.heap m → News hb L s₅.heap news → AllBare s₅.gens → s₅.os = s₁.os → L ≤ K → (∀ q ∈ news, q.1 ≤ K) → GenS prog w A K a ss f s₅ → Q (.ref a) s₅))
section
variable {prog : Program} {w : World} {A : Around} {E : Value → Shared → Prop} {s : Shared} {hb : Heap} {c P L : Addr} {ps : Array Value} {m mg mb : Str → Option Value} {p : Program} {loose : List Str} {mean : ExcName → Option Value}
  {env : Env} {elt iter : PySem.Expr} {x : Str} {px : Pos} {scope : Scope} {cl : List (Str × Addr)} {pos : Pos} {Q : Value → Shared → Prop}
theorem gen_leaf (_F₀ : Fr hb L s.heap m) (T : Top p loose mean mg mb hb) (C : CodeHd hb c P) (hcode : env.code = .ref c) (hge : env.globals = mainGlobals)
    (hh : A.handled = none) (hco : scope.isCoroutine = false) (hclos : closureFor scope env = pure cl) (hcell : ∀ y ∈ scope.names, y.2 ≠ .cell) (h0 : scope.names.lookup (".0" : Str) = some NameKind.local)
    (hx : scope.names.lookup x = some .local) (hkind : scope.kind = .function) (hroom : A.depth < recursionLimit)
    (h : wpAny (model prog w) A (eval iter env) (SrcG prog w A hb L m env elt x scope cl pos P Q) E s)
    (hs : ∀ x, genFold iter env x = pure x) : wpAny (model prog w) A (eval (.GeneratorExp elt [⟨.Name x px, iter, [], 0⟩] scope pos) env) Q E s := by
  refine wpAny_GeneratorExp_walksQD hh hco hclos hcell h0 hx hkind hroom (wpAny_mono h (fun xv s₁ h₁ => ?_) fun _ _ e => e) hs
  refine hideG ?_
  intro q9
  obtain ⟨l, vs, ss, f, ps, news, rfl, F, N, hl, hS, hG, ht, hE, arms⟩ := h₁
  (try k_unmd)
  k_unfold
  have hlt : l < s₁.heap.objs.size := by obtain ⟨_, e, _⟩ := hl; exact Heap.lt_size e
  refine wpAny_pyIter_list hl ?_
  have lim : hb.NoLimit := T.nolimit
  have F₂ : Fr hb L (s₁.heap.push _) m := F.push { cls := .type "list_iterator", data := .fields #[.ref l, .int 0 0] }
  refine ⟨lim.keeps F₂.keep, ?_⟩
  have hL : L < s₁.heap.objs.size := F.ns.lt
  have hI₀ : hb.get? s₁.heap.objs.size = none := next_is_new F
  refine hideG ?_
  intro q9
  obtain ⟨bm, ob, b1, b2, b3, b4, b5, b6⟩ := T.bmain
  (try k_unmd)
  k_unfold
  have hgs := T.g
  have core : ∀ (news' : List (Addr × Obj)) (h₃ : Heap) (tk₃ : Nat) (cv : Value), Fr hb L h₃ m → News hb L h₃ news' → s₁.heap.objs.size < h₃.objs.size → (∀ b o, b = s₁.heap.objs.size ∨ b = l → (s₁.heap.push { cls := .type "list_iterator", data := .fields #[.ref l, .int 0 0] }).get? b = some o → h₃.get? b = some o) → (∀ q ∈ news', q.1 < s₁.heap.objs.size) →
      (∀ a K s₅, Fr hb L s₅.heap m → News hb L s₅.heap news' → AllBare s₅.gens → s₅.os = s₁.os → L ≤ K → (∀ q ∈ news', q.1 ≤ K) → GenS prog w A K a ss f s₅ → Q (.ref a) s₅) →
      wpAny (model prog w) A (builtinsFor env.globals env.builtins) (fun bi s₄ =>
        ∃ I fp wr n₀ P St₀ pz F, Value.ref s₁.heap.objs.size = .ref I ∧ (∀ A' : Around, A'.handled = none → Walks prog w A' I fp wr n₀ P St₀) ∧ St₀ 0 s₄.heap ∧ (∀ b ∈ fp, b < s₄.heap.objs.size) ∧ s₄.heap.NoLimit ∧ cStatics ∉ wr ∧
          (∀ href : Heap, (∀ b o, s₄.heap.get? b = some o → href.get? b = some o) →
            QuietGenD prog w (genEnv scope cl s₄.heap.objs.size cv bi env) x [] elt (List.range s₄.heap.objs.size) wr P pz F href (A.depth + 1) (A.units + 8)) ∧
          (∀ a h₅ tk gs, gs.bare = true → s₄.heap.objs.size < a → h₅.objs.size = a + 1 → (∀ b o, s₄.heap.get? b = some o → h₅.get? b = some o) →
            WalksS prog w A.in4 a (a :: s₄.heap.objs.size :: List.range s₄.heap.objs.size) (s₄.heap.objs.size :: wr) (GenOnlyQ s₄.gens.size) (passing pz n₀ 0).length
              (fun j y => ∃ i, (passing pz n₀ 0)[j]? = some i ∧ F i y) (GenAt prog w A.in4 a s₄.gens.size s₄.heap.objs.size (List.range s₄.heap.objs.size) wr pz n₀ F) →
            GenAt prog w A.in4 a s₄.gens.size s₄.heap.objs.size (List.range s₄.heap.objs.size) wr pz n₀ F 0 { s₄ with gens := s₄.gens.push gs, toks := tk, heap := h₅ } →
            Q (.ref a) { s₄ with gens := s₄.gens.push gs, toks := tk, heap := h₅ })) E { s₁ with heap := h₃, toks := tk₃ } := by
    intro news' h₃ tk₃ cv F₃ N₃ hsz hk₃ hlt' fin
    rw [hge]
    refine wpAny_builtinsFor (hgs.keeps F₃.keep) b1 b2 (F₃.keep _ _ b3) b4 b5 b6 ?_
    have hst : (h₃.IsListIter s₁.heap.objs.size l 0 ∧ h₃.IsList l vs.toArray) := by
      refine ⟨⟨_, hk₃ _ _ (.inl rfl) (Heap.get?_push_size _ rfl), rfl, rfl⟩, ?_⟩
      obtain ⟨o, e, r⟩ := hl
      exact ⟨o, hk₃ _ _ (.inr rfl) (Heap.get?_push_of_some _ e), r⟩
    refine ⟨s₁.heap.objs.size, [s₁.heap.objs.size, l], [s₁.heap.objs.size], vs.toArray.size, _, _, (fun _ => true), (fun i y => ∃ b u, ss[i]? = some b ∧ y = .str (f b) u), rfl, (fun A' hA => Walks.list hA _ _ (Nat.ne_of_lt hlt) _), hst, ?_, lim.keeps F₃.keep, ?_, ?_, ?_⟩
    · intro b hb'
      simp only [List.mem_cons, List.not_mem_nil, or_false] at hb'
      show b < h₃.objs.size
      rcases hb' with rfl | rfl
      · exact hsz
      · exact Nat.lt_trans hlt hsz
    · intro hm
      obtain ⟨_, hns, _⟩ := lim
      have h1 : cStatics < hb.objs.size := hns.lt
      have h2 : cStatics = s₁.heap.objs.size := by simpa using hm
      exact absurd (h2 ▸ h1 : s₁.heap.objs.size < hb.objs.size) (Nat.not_lt.mpr (Nat.le_of_lt (Nat.lt_of_le_of_lt F.above hL)))
    · intro href hhref
      refine ⟨fun A' E' i v t m₂ hA hD hU hP hn hm hkp => ?_, fun A' E' i v t m₂ hA hD hU hP hp hn hm hkp => ?_⟩
      · rw [List.forIn_nil]
        exact wpAny_pure ⟨rfl, t.heap, t.toks, rfl, fun _ _ e => e⟩
      · obtain ⟨y, hy, u, rfl⟩ := (are_strs hS).at i v (by simpa using hP)
        refine wpAny_mono (hE _ _ A' E' y u t m₂ hA hD hU (List.mem_of_getElem? hy) hn hm) (fun v s₃ hv => ?_) fun _ _ e => e
        obtain ⟨⟨u', rfl⟩, hk⟩ := hv
        exact ⟨⟨y, u', hy, rfl⟩, hk⟩
    · intro a h₅ tk gs hgb hag hsz₅ hk₅ W hat
      have F₅ : Fr hb L h₅ m := F₃.keeps hk₅
      have hlen : ss.length = vs.toArray.size := by have := (are_strs hS).length; simp [this]
      have hpass : passing (fun _ => true) vs.toArray.size 0 = List.range vs.toArray.size := by
        have : ∀ n, passing (fun _ => true) n 0 = List.range n := fun n => by simp [passing]
        exact this _
      refine fin a (s₁.heap.objs.size - 1) { s₁ with gens := s₁.gens.push gs, toks := tk, heap := h₅ } F₅ (fun q hq => ⟨hk₅ _ _ (N₃ q hq).1, (N₃ q hq).2⟩) (hG.push hgb) rfl (Nat.le_sub_one_of_lt hL) (fun q hq => Nat.le_sub_one_of_lt (hlt' q hq)) ?_
      have hx1 : (passing (fun _ => true) vs.toArray.size 0).length = ss.length := by rw [hpass, hlen, List.length_range]
      unfold GenS
      rw [← hx1]
      refine Gen.imp ⟨_, _, _, _, W, hat, (fun i s' st => st.1.typeIs), List.mem_cons_self, ?_, ?_⟩ fun i y hP => ?_
      · intro b hb'
        show b < h₅.objs.size
        rw [hsz₅]
        rcases List.mem_cons.mp hb' with rfl | hb'
        · exact Nat.lt_succ_self _
        · rcases List.mem_cons.mp hb' with rfl | hb'
          · exact Nat.lt_succ_of_lt hag
          · exact Nat.lt_succ_of_lt (Nat.lt_trans (List.mem_range.mp hb') hag)
      · intro b hb'
        rcases List.mem_cons.mp hb' with rfl | hb'
        · show s₁.heap.objs.size - 1 < h₃.objs.size; omega
        · rw [List.mem_singleton.mp hb']; exact Nat.sub_lt (Nat.lt_of_le_of_lt (Nat.zero_le _) hL) Nat.one_pos
      · obtain ⟨i', hi', y', u, hy, rfl⟩ := hP
        rw [hpass] at hi'
        have : i = i' := (List.getElem?_eq_some_iff.mp hi').2 ▸ (by simp)
        subst this
        exact ⟨y', u, hy, rfl⟩
  rcases arms with ⟨hnf, g, U, hQ⟩ | ⟨c', hf, hmem, hQ⟩
  · refine hideG ?_
    intro q9
    obtain ⟨own, rest, rfl, hgr, h1, h2⟩ := U.split
    (try k_unmd)
    k_unfold
    have hm := N (P, tabObj ps) (List.mem_append_right _ (.head _))
    have hm2 : (s₁.heap.push { cls := .type "list_iterator", data := .fields #[.ref l, .int 0 0] }).get? P = some (tabObj ps) := Heap.get?_push_of_some _ hm.1
    have C₂ := C.keeps F₂.keep
    refine wpAny_genexprCodeX hcode (C₂.code hm2 ht) (C₂.tab hm2) hnf fun c' h₃ tk₃ hx₃ hge' hlt' hcode₃ _ htab₃ _ => ?_
    have hsz3 : s₁.heap.objs.size < h₃.objs.size := by rw [Heap.size_push] at hge'; omega
    have hPlt : P < s₁.heap.objs.size := Heap.lt_size hm.1
    have hlP : l ≠ P := fun e => by
      obtain ⟨o, ho, hc, _⟩ := hl
      rw [e, hm.1] at ho; cases ho; exact absurd hc (by simp)
    refine core (g (tabObj (ps ++ #[rawInt pos.line, rawInt pos.col, .ref c']))) h₃ tk₃ (.ref c') ⟨F₂.ns.extBut hx₃ hm.2.1.symm, fun b o e => hx₃ b o (fun q => by rw [q, hm.2.2] at e; cases e) (F₂.keep b o e), F₂.above⟩ (fun q hq => ?_) hsz3 (fun b o hb' e => hx₃ b o (by rcases hb' with rfl | rfl; exact Nat.ne_of_gt hPlt; exact hlP) e) (fun q hq => ?_) (fun a K s₅ => hQ c' a K s₅)
    · rw [hgr] at hq
      rcases List.mem_append.mp hq with hq | hq
      · have n := N q (List.mem_append_left _ hq)
        exact ⟨hx₃ _ _ (h1 q hq) (Heap.get?_push_of_some _ n.1), n.2⟩
      · rcases List.mem_cons.mp hq with rfl | hq
        · exact ⟨htab₃.2, hm.2⟩
        · have n := N q (List.mem_append_right _ (.tail _ hq))
          exact ⟨hx₃ _ _ (h2 q hq) (Heap.get?_push_of_some _ n.1), n.2⟩
    · rw [hgr] at hq
      rcases List.mem_append.mp hq with hq | hq
      · exact Heap.lt_size (N q (List.mem_append_left _ hq)).1
      · rcases List.mem_cons.mp hq with rfl | hq
        · exact hPlt
        · exact Heap.lt_size (N q (List.mem_append_right _ (.tail _ hq))).1
  · have hm := N (P, tabObj ps) hmem
    have hm2 : (s₁.heap.push { cls := .type "list_iterator", data := .fields #[.ref l, .int 0 0] }).get? P = some (tabObj ps) := Heap.get?_push_of_some _ hm.1
    have C₂ := C.keeps F₂.keep
    refine wpAny_genexprCode_hit hcode (C₂.code hm2 ht) hf ?_
    refine core news (s₁.heap.push _) s₁.toks (.ref c') F₂ (fun q hq => ⟨Heap.get?_push_of_some _ (N q hq).1, (N q hq).2⟩) (by rw [Heap.size_push]; exact Nat.lt_succ_self _) (fun b o _ e => e) (fun q hq => Heap.lt_size (N q hq).1) hQ
theorem join_leaf {news : List (Addr × Obj)} {K a : Addr} {ss : List Str} {f : Str → Str} {sep r : Str} {t : Tok} (F : Fr hb L s.heap m) (N : News hb L s.heap news) (G : AllBare s.gens) (X : GenS prog w A K a ss f s) (hLK : L ≤ K) (hK : ∀ q ∈ news, q.1 ≤ K) (hok : JoinOk sep (ss.map f) = true) (hr : Txt.join sep (ss.map f) = r) (hn : ss.length ≤ sizeLine)
    (hQ : ∀ s' t', Fr hb L s'.heap m → News hb L s'.heap news → AllBare s'.gens → s'.os = s.os → Q (.str r t') s') : wpAny (model prog w) A (call (.builtin "str.join") [.str sep t, .ref a]) Q E s := by
  have e : (List.range ss.length).map (fun j => f (ss.getD j Str.empty)) = ss.map f := by
    apply List.ext_getElem?
    intro j
    by_cases hj : j < ss.length
    · simp [hj]
    · simp [Nat.le_of_not_lt hj]
  subst hr
  have hQ' := hQ
  rw [← e] at hQ'
  refine join_rowsK F G X hLK (fun j => f (ss.getD j Str.empty)) (fun j v hv => ?_) (by rw [e]; exact hok) (fun s' t' F' G' ho hk => hQ' s' t' F' (fun q hq => ⟨hk _ _ (hK q hq) (N q hq).1, (N q hq).2⟩) G' ho) hn
  obtain ⟨b, u, hb', rfl⟩ := hv
  exact ⟨u, by rw [List.getD_eq_getElem?_getD, hb']; rfl⟩
end
end Mine
end
section -- XL
namespace Mine
section
open Builtin Builtin.Str
theorem gives_find4 (x y : Str) (i j : Int) (t u v v' : Tok) : Gives (Builtin.«str.find» ⟨[.str x t, .str y u, .int i v, .int j v'], []⟩) (.int (match occurrences x y (fromIndex x.length i) (min (fromIndex x.length j) x.length) 1 with | k :: _ => (k : Int) | [] => -1)) := by
  show Gives (match occurrences x y (fromIndex x.length i) (min (fromIndex x.length j) x.length) 1 with | k :: _ => retInt k | [] => (do rule "str.find.not-found"; retInt (-1))) _
  cases occurrences x y (fromIndex x.length i) (min (fromIndex x.length j) x.length) 1 with
  | nil => exact .rule (.of_eq rfl)
  | cons k _ => exact .of_eq rfl
end
section
variable {prog : Program} {w : World} {A : Around} {E : Value → Shared → Prop} {s : Shared} {x y z : Str} {t u v v' : Tok} {Q : Value → Shared → Prop}
theorem find_lit {i j r : Int} (hr : (match Builtin.Str.occurrences x y (fromIndex x.length i) (min (fromIndex x.length j) x.length) 1 with | k :: _ => (k : Int) | [] => -1) = r) (hq : Q (.int r s.toks) { s with toks := s.toks + 1 }) :
    wpAny (model prog w) A (call (.builtin "str.find") [.str x t, .str y u, .int i v, .int j v']) Q E s := by
  subst hr
  exact call_gives F.slot_str_find (typeIs_str _ _ _) F.entry_str_find (F.args_str_find_4 _ _ _ _) (gives_find4 x y i j t u v v') hq
theorem rep_lit {r : Str} (hu : 0 < u) (huv : u < v) (hyz : (y == z) = false) (hx : x.length ≤ 100) (hz : z.length ≤ 14) (hr : Txt.replace x y z = r)
    (hq : ∀ t' k, Q (.str r t') { s with toks := k }) : wpAny (model prog w) A (call (.builtin "str.replace") [.str x t, .str y u, .str z v]) Q E s :=
  SC.replaceW (Nat.ne_of_gt hu) (Nat.ne_of_gt (Nat.lt_of_le_of_lt (Nat.zero_le _) huv)) (Nat.ne_of_lt huv) hyz (by omega) hz (by rw [hr]; exact hq)
theorem rep_none (he : (Builtin.Str.occurrences x y 0 x.length (x.length + 1)).isEmpty = true) (h : Q (.str x t) s) : wpAny (model prog w) A (call (.builtin "str.replace") [.str x t, .str y u, .str z v]) Q E s := by
  have hc : ((Builtin.Str.occurrences x y 0 x.length (x.length + 1)).isEmpty || (y.length == 0 && z.length == 0)) = true := by rw [he]; rfl
  refine call_gives F.slot_str_replace (typeIs_str _ _ _) F.entry_str_replace (F.args_str_replace_3 _ _ _) (gives_str_replace x y z t u v fun hf => by rw [hc] at hf; cases hf) ?_
  rw [hc]
  exact h
theorem notin_lit {b : Bool} (hb : (Builtin.Str.occurrences x y 0 x.length 1).isEmpty = b) (h : Q (.bool b) s) : wpAny (model prog w) A (compareOp .NotIn (.str y u) (.str x t)) Q E s := by
  refine PyProof.Rows.notIn_str ?_
  rw [hb, Bool.not_not]; exact h
end
end Mine
end
section -- TL
namespace Mine
theorem app_N {w : World} {A : Around} {E : Value → Shared → Prop} {s : Shared} {p : Program} {h₀ : Heap} {L a : Addr} {m : Str → Option Value} {news : List (Addr × Obj)} {its : Array Value} {n : Nat} {expr : Bool} {Q : Value → Shared → Prop}
    (F : Fr h₀ L s.heap m) (N : News h₀ L s.heap news) (hm : (a, listOf its n) ∈ news)
    (h : ∀ x h', Fr h₀ L h' m → News h₀ L h' ((x, appOf a) :: news) → (∀ p ∈ news, p.1 < x) → Q (.ref x) { s with heap := h', toks := s.toks + 1 }) :
    wpAny (model p w) A (getAttr (.ref a) (Str.ofString "append") expr) Q E s := by
  obtain ⟨hp, g, d, t, os⟩ := s
  exact app_attr (N _ hm).1 (h _ _ (F.push _) (News.push F N _) fun p hp => Heap.lt_size (N p hp).1)
theorem append_B {w : World} {A : Around} {E : Value → Shared → Prop} {s : Shared} {p : Program} {h₀ : Heap} {L x D : Addr} {m : Str → Option Value} {news news' : List (Addr × Obj)} {its : Array Value} {n : Nat} {v : Value} {Q : Value → Shared → Prop}
    (F : Fr h₀ L s.heap m) (N : News h₀ L s.heap news) (ha : (x, appOf D) ∈ news) (U : Upd D (listOf its n) (listOf (its.push v) (n + 1)) news news')
    (h : ∀ h', Fr h₀ L h' m → News h₀ L h' news' → Q .none { s with heap := h' }) (hsz : its.size ≤ sizeLine := by size_fits) : wpAny (model p w) A (call (.ref x) [v]) Q E s := by
  have ha' := app_at N ha
  obtain ⟨pre, post, rfl, rfl, a, b⟩ := U.split
  have z := N (D, listOf its n) (List.mem_append.mpr (.inr (.head _)))
  exact call_app (hsz := hsz) ha' z.1 fun h' hs ho' => h h' (F.change hs z.2.1 z.2.2) (news_set N a b hs ho')
theorem isnot_str {M : Model} {A : Around} {E : Value → Shared → Prop} {s : Shared} {x y : Str} {t u : Tok} {Q : Value → Shared → Prop} (hxy : (x == y) = false) (ht : @LT.lt Nat _ 0 u) (hu : @LT.lt Nat _ u t) (h : Q (.bool true) s) : wpAny M A (compareOp .IsNot (.str x t) (.str y u)) Q E s := by
  show wpAny M A (isSame (.str x t) (.str y u) >>= fun b => pure (.bool (!b))) Q E s
  refine wpAny_bind ?_
  show wpAny M A (isSame.created (x == y) t u) _ E s
  unfold isSame.created
  rw [hxy]
  have h1 : (t == 0 || u == 0) = false := by
    have a1 : (t == 0) = false := by rw [beq_eq_false_iff_ne]; exact Nat.ne_of_gt (Nat.lt_of_le_of_lt (Nat.zero_le _) hu)
    have a2 : (u == 0) = false := by rw [beq_eq_false_iff_ne]; exact Nat.ne_of_gt ht
    rw [a1, a2]; rfl
  have h2 : (t == u) = false := by rw [beq_eq_false_iff_ne]; exact Nat.ne_of_gt hu
  refine KFB.if_not h1 ?_
  refine KFB.if_not h2 ?_
  exact wpAny_pure (wpAny_pure h)
theorem execs_grow {M : Model} {A : Around} {E : Value → Shared → Prop} {s : Shared} {env : Env} {st : Stmt} {rest : List Stmt} {Q : Flow → Shared → Prop}
    (h : wpAny M A (exec st env) (fun f s' => s.toks ≤ s'.toks → (match f with | .next => wpAny M A (execs rest env) Q E s' | f => Q f s')) E s) :
    wpAny M A (execs (st :: rest) env) Q E s := wpAny_execs_cons (wpAny_growQ h)
theorem item_lit {prog : Program} {w : World} {A : Around} {E : Value → Shared → Prop} {s : Shared} {value slice : PySem.Expr} {cs : List Nat} {t u : Tok} {k : Int} {Q : Value → Shared → Prop} {c : Nat} (h0 : 0 ≤ k) (h1 : k < (cs.length : Int)) (h2 : cs.length ≤ 20) (hc : cs.getD k.toNat 0 = c)
    (h : Q (.str ⟨#[c]⟩ s.toks) { s with toks := s.toks + 1 })
    (hs : subscripted slice false (.str ⟨cs.toArray⟩ t) (.int k u) = operate [.str ⟨cs.toArray⟩ t, .int k u] (getItem (.str ⟨cs.toArray⟩ t) (.int k u)))
    (ht : ∀ r, letTemporaryGo value (.str ⟨cs.toArray⟩ t) r = pure ()) :
    wpAny (model prog w) A (subscriptTail value slice (.str ⟨cs.toArray⟩ t) (.int k u)) Q E s := by
  subst hc
  have hl : (⟨cs.toArray⟩ : Str).length = cs.length := by simp [Str.length]
  refine item_str (fitsSsize_of (N := 64) (by omega) (by omega) (by decide)) (by omega) (by omega) (fun _ => ?_) hs ht
  rw [item_meets (n := cs.getD k.toNat 0) h0 ?_]
  · exact h
  · have : k.toNat < cs.length := by omega
    simp [List.getD_eq_getElem?_getD, this]
theorem len_lit {prog : Program} {w : World} {A : Around} {E : Value → Shared → Prop} {s : Shared} {cs : List Nat} {t : Tok} {n : Int} {Q : Value → Shared → Prop} (h2 : cs.length ≤ 20) (hn : (cs.length : Int) = n) (h : Q (.int n (s.toks + 1)) { s with toks := s.toks + 1 + 1 }) : wpAny (model prog w) A (call (.builtin "len") [.str ⟨cs.toArray⟩ t]) Q E s := by
  subst hn
  have hl : (⟨cs.toArray⟩ : Str).length = cs.length := by simp [Str.length]
  refine PyProof.Rows.len_str (by rw [hl]; omega) ?_
  rw [hl]; exact h
theorem rep_same {prog : Program} {w : World} {A : Around} {E : Value → Shared → Prop} {s : Shared} {x y z : Str} {t u v : Tok} {Q : Value → Shared → Prop} (hu : @LT.lt Nat _ 0 u) (huv : @LT.lt Nat _ u v) (hyz : (y == z) = false) (hx : x.length ≤ 100) (hz : z.length ≤ 14) (hr : Txt.replace x y z = x)
    (hq : ∀ t' k, @LE.le Nat _ s.toks k → Q (.str x t') { s with toks := k }) : wpAny (model prog w) A (call (.builtin "str.replace") [.str x t, .str y u, .str z v]) Q E s :=
  wpAny_growQ (rep_lit hu huv hyz hx hz hr fun t' k hk => hq t' k hk)
theorem item_news {prog : Program} {w : World} {A : Around} {E : Value → Shared → Prop} {s : Shared} {h₀ : Heap} {L : Addr} {news : List (Addr × Obj)} {value slice : PySem.Expr} {D : Addr} {its : Array Value} {n : Nat} {k : Int} {u : Tok} {v : Value} {Q : Value → Shared → Prop}
    (N : News h₀ L s.heap news) (hm : (D, listOf its n) ∈ news) (h0 : 0 ≤ k) (h1 : k < 1000) (hx : its.toList[k.toNat]? = some v) (h : Q v s)
    (hs : subscripted slice false (.ref D) (.int k u) = operate [.ref D, .int k u] (getItem (.ref D) (.int k u))) :
    wpAny (model prog w) A (subscriptTail value slice (.ref D) (.int k u)) Q E s :=
  have hl : s.heap.IsList D its := ⟨_, (N _ hm).1, rfl, n, rfl⟩
  tail_any hl.typeIs slot_list_getitem.lookup (wpAny_getItem_list hl h0 (by omega) (by rw [← Array.getElem?_toList]; exact hx) h) hs
noncomputable def Newer (ts k : Nat) : Prop := 0 < ts ∧ ts < k
noncomputable def Old (ts k : Nat) : Prop := 0 < ts ∧ ts < k
theorem Newer.up {ts a b : Nat} (h : Newer ts a) (k : a ≤ b) : Newer ts b := ⟨h.1, Nat.lt_of_lt_of_le h.2 k⟩
theorem le_s1 {k : Nat} : k ≤ k + 1 := Nat.le_succ _
theorem le_s2 {k : Nat} : k ≤ k + 1 + 1 := by omega
theorem le_s3 {k : Nat} : k ≤ k + 1 + 1 + 1 := by omega
theorem le_s4 {k : Nat} : k ≤ k + 1 + 1 + 1 + 1 := by omega
theorem le_s5 {k : Nat} : k ≤ k + 1 + 1 + 1 + 1 + 1 := by omega
theorem le_s6 {k : Nat} : k ≤ k + 1 + 1 + 1 + 1 + 1 + 1 := by omega
theorem le_s7 {k : Nat} : k ≤ k + 1 + 1 + 1 + 1 + 1 + 1 + 1 := by omega
theorem le_s8 {k : Nat} : k ≤ k + 1 + 1 + 1 + 1 + 1 + 1 + 1 + 1 := by omega
theorem execs_newer {M : Model} {A : Around} {E : Value → Shared → Prop} {s : Shared} {env : Env} {st : Stmt} {rest : List Stmt} {Q : Flow → Shared → Prop} {ts k : Nat} (z : Newer ts k) (e : @LE.le Nat _ k s.toks)
    (h : wpAny M A (exec st env) (fun f s' => Newer ts s'.toks → (match f with | .next => wpAny M A (execs rest env) Q E s' | f => Q f s')) E s) :
    wpAny M A (execs (st :: rest) env) Q E s := wpAny_execs_cons (wpAny_growQ (wpAny_mono h (fun _ _ x hk => x (z.up (Nat.le_trans e hk))) fun _ _ e => e))
theorem execs_newer2 {M : Model} {A : Around} {E : Value → Shared → Prop} {s : Shared} {env : Env} {st : Stmt} {rest : List Stmt} {Q : Flow → Shared → Prop} {ts k : Nat} (z : Newer ts k) (e : @LE.le Nat _ k s.toks)
    (h : ∀ tk, Newer ts tk → wpAny M A (exec st env) (fun f s' => Newer ts s'.toks → (match f with | .next => wpAny M A (execs rest env) Q E s' | f => Q f s')) E { s with toks := tk }) :
    wpAny M A (execs (st :: rest) env) Q E s := execs_newer z e (h s.toks (z.up e))
theorem if_newer {M : Model} {A : Around} {E : Value → Shared → Prop} {s : Shared} {env : Env} {test : PySem.Expr} {body orelse : List Stmt} {pos : Pos} {Q : Flow → Shared → Prop} {ts k : Nat} (z : Newer ts k) (e : @LE.le Nat _ k s.toks)
    (h : wpAny M A (PySem.isTrue test env (eval test env)) (fun b s₂ => Newer ts s₂.toks → if b = true then wpAny M A (execs body env) Q E s₂ else wpAny M A (execs orelse env) Q E s₂) E s) :
    wpAny M A (exec (Stmt.If test body orelse pos) env) Q E s := wpAny_If (wpAny_growQ (wpAny_mono h (fun _ _ x hk => x (z.up (Nat.le_trans e hk))) fun _ _ e => e))
theorem joinParts_newer {M : Model} {A : Around} {E : Value → Shared → Prop} {s : Shared} {out : Str} {x : Sem Value} {rest : List (Sem Value)} {Q : Value → Shared → Prop} {ts k : Nat} (z : Newer ts k) (e : @LE.le Nat _ k s.toks)
    (h : wpAny M A x (fun v s₁ => Newer ts s₁.toks → match v with | .str y _ => (out ++ y).length ≤ sizeLine ∧ wpAny M A (joinParts (out ++ y) rest) Q E s₁ | _ => False) E s) : wpAny M A (joinParts out (x :: rest)) Q E s :=
  joinParts_cons (wpAny_growQ (wpAny_mono h (fun _ _ x hk => x (z.up (Nat.le_trans e hk))) fun _ _ e => e))
theorem isnot_old {M : Model} {A : Around} {E : Value → Shared → Prop} {s : Shared} {x y : Str} {t u : Tok} {Q : Value → Shared → Prop} (hxy : (x == y) = false) (ho : Old u t) (h : Q (.bool true) s) : wpAny M A (compareOp .IsNot (.str x t) (.str y u)) Q E s :=
  isnot_str hxy ho.1 ho.2 h
end Mine
end
section -- XE
namespace Mine
set_option maxHeartbeats 4000000 in
theorem elt_tail {prog : Program} {w : World} {A : Around} {E : Value → Shared → Prop} {env : Env} {y : Str} {u : Tok} {pl pl' : Sem Bool} {pos pos' q1 q2 q3 q4 : Pos} {h₁ : Heap} {gg : Array GenState} {dd : Drawn} {tt : Nat} {oo : OsState}
    (hr1 : (Builtin.Str.occurrences y (Str.ofString "\\") 0 y.length (y.length + 1)).isEmpty = true) (hr2 : (Builtin.Str.occurrences y (Str.ofString "-") 0 y.length (y.length + 1)).isEmpty = true) :
    wpAny (model prog w) A (getMethod (.str y u) (Str.ofString "replace") pl) (fun fx s₂ => wpAny (model prog w) A (callWith pos fx.1 fx.2 (backTo pos (starEach [.Constant (.str (Str.ofString "\\")) 0 q1, .Constant (.str (Str.ofString "\\\\")) 0 q2] env)) [])
      (fun ov s₁ => wpAny (model prog w) A (getMethod ov (Str.ofString "replace") pl') (fun fx s₂ => wpAny (model prog w) A (callWith pos' fx.1 fx.2 (backTo pos' (starEach [.Constant (.str (Str.ofString "-")) 0 q3, .Constant (.str (Str.ofString "\\-")) 0 q4] env)) [])
        (fun v s₃ => (∃ u', v = .str y u') ∧ Keeps ⟨h₁, gg, dd, tt, oo⟩ s₃) E s₂) E s₁) E s₂) E ⟨h₁, gg, dd, tt, oo⟩ := by
  (repeat' (first | (k_unfold; (try dsimp only)) | ((with_reducible show wpAny _ _ (call (Value.builtin "str.replace") _ _) _ _ _); ((k_dflt (refine rep_none (by assumption) ?_)))) | (k_end; wrow_close) | walk1 | dsimp only | (leave1; try dsimp only)))
  all_goals first | exact ⟨_, rfl⟩ | exact ⟨h₁, _, rfl, fun _ _ e => e⟩ | exact ⟨⟨_, rfl⟩, h₁, _, rfl, fun _ _ e => e⟩
end Mine
end
section -- CTh
namespace Mine
noncomputable def many : Str := Str.ofString "many"
noncomputable def anyS : Str := Str.ofString "any"
noncomputable abbrev mp7 (m0 : Str → Option Value) (pat st qm res add i n : Value) : Str → Option Value := fun y =>
  if y = Str.ofString "i" then some i else if y = Str.ofString "n" then some n else if y = Str.ofString "pat" then some pat else if y = Str.ofString "res" then some res else if y = Str.ofString "add" then some add else if y = Str.ofString "STAR" then some st else if y = Str.ofString "QUESTION_MARK" then some qm else m0 y
theorem mp7_of {m : Str → Option Value} {pat st qm res add i n : Value} (e1 : m (Str.ofString "i") = some i) (e2 : m (Str.ofString "n") = some n) (e3 : m (Str.ofString "pat") = some pat) (e4 : m (Str.ofString "res") = some res) (e5 : m (Str.ofString "add") = some add) (e6 : m (Str.ofString "STAR") = some st) (e7 : m (Str.ofString "QUESTION_MARK") = some qm) : m = mp7 m pat st qm res add i n := by
  funext y
  simp only [mp7]
  repeat' split
  all_goals first | (rename_i h; subst h; assumption) | rfl
noncomputable abbrev tabT (g l : Addr) : Array Value := #[rawInt 121, rawInt 37, .ref g, rawInt 122, rawInt 39, .ref l]
noncomputable def Tab (fl : Bool) (ps : Array Value) : Prop := match fl with
  | false => ps = #[]
  | true => ∃ g l, ps = tabT g l
noncomputable def Rg (a z : Nat) (r : Str) : Prop := (a = 65 ∧ z = 90 ∧ r = Str.ofString "[A-Z]") ∨ (a = 97 ∧ z = 122 ∧ r = Str.ofString "[a-z]") ∨ (a = 48 ∧ z = 57 ∧ r = Str.ofString "[0-9]")
inductive Step (cs : List Nat) : Nat → Bool → List Str → Nat → Bool → List Str → Prop
  | star0 {i fl} : i < cs.length → cs.getD i 0 = 42 → Step cs i fl [] (i + 1) fl [many]
  | star1 {i fl} (x : Str) : i < cs.length → cs.getD i 0 = 42 → (x == many) = false → Step cs i fl [x] (i + 1) fl [x, many]
  | star2 {i fl} (y x : Str) : i < cs.length → cs.getD i 0 = 42 → (x == many) = false → Step cs i fl [y, x] (i + 1) fl [y, x, many]
  | esc {i fl l c} : i < cs.length → cs.getD i 0 = c → (c = 65 ∨ c = 61) → Step cs i fl l (i + 1) fl (l ++ [⟨#[c]⟩])
  | qm {i fl l} : i < cs.length → cs.getD i 0 = 63 → Step cs i fl l (i + 1) fl (l ++ [anyS])
  | rg {fl} (a z : Nat) (r : Str) : Rg a z r → cs = [91, a, 45, z, 93, 42] → Step cs 0 fl [] 5 true [r]
  | ps : cs = [42, 91, 43, 47, 93, 42] → Step cs 1 true [many] 5 true [many, Str.ofString "[+/]"]
  | ne : cs = [42, 91, 33, 61, 93] → Step cs 1 true [many] 5 true [many, Str.ofString "[^=]"]
inductive Steps (cs : List Nat) : Nat → Nat → Bool → List Str → Bool → List Str → Prop
  | nil {fl l} : Steps cs 0 cs.length fl l fl l
  | cons {i fl l i1 fl1 l1 n fl2 l2} : Step cs i fl l i1 fl1 l1 → Steps cs n i1 fl1 l1 fl2 l2 → Steps cs (n + 1) i fl l fl2 l2
theorem Step.le {cs : List Nat} {i i1 : Nat} {fl fl1 : Bool} {l l1 : List Str} (h : Step cs i fl l i1 fl1 l1) : i ≤ cs.length :=
  Step.rec (motive := fun i _ _ _ _ _ _ => i ≤ cs.length) (fun h _ => Nat.le_of_lt h) (fun _ h _ _ => Nat.le_of_lt h) (fun _ _ h _ _ => Nat.le_of_lt h) (fun h _ _ => Nat.le_of_lt h) (fun h _ => Nat.le_of_lt h) (fun _ _ _ _ _ => Nat.zero_le _) (fun h => h ▸ Nat.le_of_ble_eq_true rfl) (fun h => h ▸ Nat.le_of_ble_eq_true rfl) h
theorem Steps.le {cs : List Nat} {n i : Nat} {fl fl1 : Bool} {l l1 : List Str} (h : Steps cs n i fl l fl1 l1) : i ≤ cs.length :=
  Steps.rec (motive := fun _ i _ _ _ _ _ => i ≤ cs.length) (Nat.le_refl _) (fun h _ _ => h.le) h
noncomputable def LastOld (ts : Nat) (vs : List Value) : Prop := ∀ x t, vs.getLast? = some (.str x t) → (x == many) = false → Old ts t
noncomputable def TrSt (base : Heap) (L x9 D : Addr) (os : OsState) (cs : List Nat) (tp ts ta tn : Tok) (fl : Bool) (i : Nat) (l : List Str) (s : Shared) : Prop :=
  ∃ m ti vs n ps, Fr base L s.heap (mp7 m (.str ⟨List.toArray cs⟩ tp) (.str (Str.ofString "many") ts) (.str (Str.ofString "any") ta) (.ref D) (.ref x9) (.int (i : Int) ti) (.int (cs.length : Int) tn)) ∧
    News base L s.heap [(x9, appOf D), (D, listOf (List.toArray vs) n), (114, tabObj ps)] ∧ Newer ts s.toks ∧ AllBare s.gens ∧ s.os = os ∧ StrsAre vs l ∧ LastOld ts vs ∧ Tab fl ps ∧ vs.length ≤ i
noncomputable def WhlG (prog : Program) (w : World) (A : Around) (env : Env) (test : PySem.Expr) (body : List Stmt) (Q : Flow → Shared → Prop) (s : Shared) : Prop :=
  ∃ (I : Nat → Shared → Prop) (n : Nat), I n s ∧ ∀ n s, I n s → wpAny (model prog w) A (PySem.isTrue test env (eval test env)) (fun b s₂ => if b = true then wpAny (model prog w) A (execs body env) (fun f s₃ => match f with | .next | .cont => ∃ m, m < n ∧ I m s₃ | .brk => Q .next s₃ | .ret v => Q (.ret v) s₃) (fun _ _ => False) s₂ else Q .next s₂) (fun _ _ => False) s
theorem whl_leaf {prog : Program} {w : World} {A : Around} {env : Env} {test : PySem.Expr} {body : List Stmt} {pos : Pos} {Q : Flow → Shared → Prop} {E : Value → Shared → Prop} {s : Shared} (h : WhlG prog w A env test body Q s) : wpAny (model prog w) A (exec (.While test body [] pos) env) Q E s := by
  obtain ⟨I, n, h0, turn⟩ := h
  refine wpAny_While (codeAny_whileLoop I (fun n s hI => ?_) n h0)
  refine wpAny_mono (turn n s hI) (fun b s₂ h₂ => ?_) fun _ _ x => x.elim
  cases b with
  | false =>
    simp only [Bool.false_eq_true, if_false] at h₂ ⊢
    exact wpAny_execs_nil h₂
  | true =>
    simp only [if_true] at h₂ ⊢
    refine wpAny_mono h₂ (fun f s₃ h₃ => ?_) fun _ _ x => x.elim
    cases f with
    | next => exact h₃
    | cont => exact h₃
    | brk => exact h₃
    | ret v => exact h₃
theorem TrSt.intro {base h : Heap} {L x9 D : Addr} {os : OsState} {cs : List Nat} {tp ts ta tn ti : Tok} {fl : Bool} {i tk : Nat} {l : List Str} {m : Str → Option Value} {vs : List Value} {n : Nat} {ps : Array Value} {all : List (Addr × Obj)} {ii nn : Int} {g : Array GenState} {d : Drawn}
    (F : Fr base L h m) (N : News base L h all)
    (e1 : m (Str.ofString "i") = some (.int ii ti)) (e2 : m (Str.ofString "n") = some (.int nn tn)) (e3 : m (Str.ofString "pat") = some (.str ⟨List.toArray cs⟩ tp)) (e4 : m (Str.ofString "res") = some (.ref D)) (e5 : m (Str.ofString "add") = some (.ref x9)) (e6 : m (Str.ofString "STAR") = some (.str (Str.ofString "many") ts)) (e7 : m (Str.ofString "QUESTION_MARK") = some (.str (Str.ofString "any") ta))
    (hi : ii = (i : Int)) (hn : nn = (cs.length : Int))
    (m1 : (x9, appOf D) ∈ all) (m2 : (D, listOf (List.toArray vs) n) ∈ all) (m3 : (114, tabObj ps) ∈ all)
    (z : Newer ts tk) (hG : AllBare g) (hS : StrsAre vs l) (hO : LastOld ts vs) (hT : Tab fl ps) (hv : vs.length ≤ i) : TrSt base L x9 D os cs tp ts ta tn fl i l ⟨h, g, d, tk, os⟩ := by
  subst hi hn
  refine ⟨m, ti, vs, n, ps, mp7_of e1 e2 e3 e4 e5 e6 e7 ▸ F, ?_, z, hG, rfl, hS, hO, hT, hv⟩
  intro p hp
  simp only [List.mem_cons, List.not_mem_nil, or_false] at hp
  rcases hp with rfl | rfl | rfl
  · exact N _ m1
  · exact N _ m2
  · exact N _ m3
end Mine
namespace Mine
theorem lastOld_snoc {ts t : Nat} {vs : List Value} {x : Str} (h : (x == many) = false → Old ts t) : LastOld ts (vs ++ [.str x t]) := by
  intro y u e hy
  rw [List.getLast?_append] at e
  simp at e
  obtain ⟨rfl, rfl⟩ := e
  exact h hy
theorem lastOld_nil {ts : Nat} : LastOld ts [] := by intro y u e; simp at e
theorem strs_snoc {vs : List Value} {l : List Str} {x : Str} {t : Tok} (h : StrsAre vs l) : StrsAre (vs ++ [.str x t]) (l ++ [x]) := ((are_strs h).append (.cons ⟨t, rfl⟩ .nil)).strs
noncomputable def TrEnd (base : Heap) (L x9 D : Addr) (os : OsState) (cs : List Nat) (tp ts ta tn : Tok) (flE : Bool) (lE : List Str) (n : Nat) (s₃ : Shared) : Prop := ∃ m, m < n ∧ ∃ i fl l, Steps cs m i fl l flE lE ∧ TrSt base L x9 D os cs tp ts ta tn fl i l s₃
theorem whlG_tr {prog : Program} {w : World} {A : Around} {env : Env} {test : PySem.Expr} {body : List Stmt} {Q : Flow → Shared → Prop} {base : Heap} {L : Addr} {os : OsState} {cs : List Nat} {tp ts ta : Tok} {fl flE : Bool} {lE : List Str} {n : Nat} {s1 : Shared}
    (hst : ∃ x9 D tn, TrSt base L x9 D os cs tp ts ta tn fl 0 [] s1) (hS : Steps cs n 0 fl [] flE lE)
    (turn : ∀ x9 D tn n i fl l s1, Steps cs n i fl l flE lE → TrSt base L x9 D os cs tp ts ta tn fl i l s1 → wpAny (model prog w) A (PySem.isTrue test env (eval test env)) (fun b s₂ => if b = true then wpAny (model prog w) A (execs body env) (fun f s₃ => match f with
        | .next | .cont => TrEnd base L x9 D os cs tp ts ta tn flE lE n s₃ | .brk => Q .next s₃ | .ret v => Q (.ret v) s₃) (fun _ _ => False) s₂ else Q .next s₂) (fun _ _ => False) s1) : WhlG prog w A env test body Q s1 := by
  obtain ⟨x9, D, tn, hst⟩ := hst
  exact ⟨fun n s1 => ∃ i fl l, Steps cs n i fl l flE lE ∧ TrSt base L x9 D os cs tp ts ta tn fl i l s1, n, ⟨0, fl, [], hS, hst⟩, fun n s ⟨i, fl, l, hS, hT⟩ => turn x9 D tn n i fl l s hS hT⟩
theorem trEnd_of {base : Heap} {L x9 D : Addr} {os : OsState} {cs : List Nat} {tp ts ta tn : Tok} {flE fl : Bool} {lE l : List Str} {n i : Nat} {s₃ : Shared} (h : Steps cs n i fl l flE lE) (t : TrSt base L x9 D os cs tp ts ta tn fl i l s₃) : TrEnd base L x9 D os cs tp ts ta tn flE lE (n + 1) s₃ := ⟨n, Nat.lt_succ_self _, i, fl, l, h, t⟩
theorem tr_ne {base h : Heap} {L x9 D : Addr} {its : Array Value} {n : Nat} {ps : Array Value} (N : News base L h [(x9, appOf D), (D, listOf its n), (114, tabObj ps)]) : @Ne Nat x9 D ∧ @Ne Nat x9 114 ∧ @Ne Nat D 114 := by
  have a := (N (x9, appOf D) (by simp)).1
  have b := (N (D, listOf its n) (by simp)).1
  have c := (N (114, tabObj ps) (by simp)).1
  dsimp only at a b c
  refine ⟨fun e => ?_, fun e => ?_, fun e => ?_⟩
  · have e : x9 = D := e
    rw [e, b] at a; exact absurd (congrArg Obj.cls (Option.some.inj a)) (by show ¬ (Value.type "list" = Value.type "builtin_function_or_method"); decide)
  · have e : x9 = 114 := e
    rw [e, c] at a; exact absurd (congrArg Obj.cls (Option.some.inj a)) (by show ¬ (Value.none = Value.type "builtin_function_or_method"); decide)
  · have e : D = 114 := e
    rw [e, c] at b; exact absurd (congrArg Obj.cls (Option.some.inj b)) (by show ¬ (Value.none = Value.type "list"); decide)
theorem old_many {ts : Nat} : LastOld ts [.str (Str.ofString "many") ts] := lastOld_snoc (vs := []) (fun h => absurd h (by decide +kernel))
theorem star1_open {ts : Nat} {vs : List Value} {x : Str} (h : StrsAre vs [x]) (ho : LastOld ts vs) (hx : (x == many) = false) : ∃ t, vs = [.str x t] ∧ Old ts t := by
  cases h with
  | cons _ t h => cases h; exact ⟨t, rfl, ho x t rfl hx⟩
theorem star2_open {ts : Nat} {vs : List Value} {y x : Str} (h : StrsAre vs [y, x]) (ho : LastOld ts vs) (hx : (x == many) = false) : ∃ u t, vs = [.str y u, .str x t] ∧ Old ts t := by
  cases h with
  | cons _ u h => cases h with
    | cons _ t h => cases h; exact ⟨u, t, rfl, ho x t rfl hx⟩
theorem old_push {ts : Nat} {vs : List Value} : LastOld ts (vs ++ [.str (Str.ofString "many") ts]) := lastOld_snoc (fun h => absurd h (by decide +kernel))
theorem joinParts_lit {M : Model} {A : Around} {E : Value → Shared → Prop} {s : Shared} {out r : Str} {Q : Value → Shared → Prop} (e : out = r) (hsz : r.length ≤ sizeLine) (h : Q (.str r s.toks) { s with toks := s.toks + 1 }) : wpAny M A (joinParts out []) Q E s := by
  subst e
  exact joinParts_nil h hsz
theorem get_unhide {h : Heap} {D : Addr} (e : (hideAll h [114]).get? D = none) (hD : @Ne Nat D 114) : h.get? D = none := by
  cases q : h.get? D with
  | none => rfl
  | some o => rw [hideAll_get [114] q (by simpa using hD)] at e; cases e
theorem many_open {vs : List Value} (h : StrsAre vs [many]) : ∃ t, vs = [.str (Str.ofString "many") t] := by
  cases h with
  | cons _ t h => cases h; exact ⟨t, rfl⟩
end Mine
end
section -- CTr
namespace Mine
noncomputable abbrev one (a : Nat) : Str := ⟨#[a]⟩
noncomputable abbrev abc (a z : Nat) : Str := ⟨#[a, 45, z]⟩
section
variable {a z : Nat} {r : Str} (h : Rg a z r)
include h
theorem rg_all (P : Nat → Nat → Str → Prop) (h1 : P 65 90 (Str.ofString "[A-Z]")) (h2 : P 97 122 (Str.ofString "[a-z]")) (h3 : P 48 57 (Str.ofString "[0-9]")) : P a z r := by
  rcases h with ⟨rfl, rfl, rfl⟩ | ⟨rfl, rfl, rfl⟩ | ⟨rfl, rfl, rfl⟩ <;> assumption
theorem rg_ne (y : Str) (hy : (one 65 == y || one 90 == y || one 97 == y || one 122 == y || one 48 == y || one 57 == y) = false) : (one a == y) = false ∧ (one z == y) = false := by
  simp only [Bool.or_eq_false_iff] at hy
  obtain ⟨⟨⟨⟨⟨h1, h2⟩, h3⟩, h4⟩, h5⟩, h6⟩ := hy
  exact rg_all h (fun a z _ => (one a == y) = false ∧ (one z == y) = false) ⟨h1, h2⟩ ⟨h3, h4⟩ ⟨h5, h6⟩
theorem rg_dash : (Builtin.Str.occurrences (abc a z) (Str.ofString "-") 0 (abc a z).length 1).isEmpty = false := rg_all h (fun a z _ => (Builtin.Str.occurrences (abc a z) (Str.ofString "-") 0 (abc a z).length 1).isEmpty = false) (by decide +kernel) (by decide +kernel) (by decide +kernel)
theorem rg_rep (y : Str) (hy : ((Builtin.Str.occurrences (one 65) y 0 1 2).isEmpty && (Builtin.Str.occurrences (one 90) y 0 1 2).isEmpty && (Builtin.Str.occurrences (one 97) y 0 1 2).isEmpty && (Builtin.Str.occurrences (one 122) y 0 1 2).isEmpty && (Builtin.Str.occurrences (one 48) y 0 1 2).isEmpty && (Builtin.Str.occurrences (one 57) y 0 1 2).isEmpty) = true) :
    (Builtin.Str.occurrences (one a) y 0 (one a).length ((one a).length + 1)).isEmpty = true ∧ (Builtin.Str.occurrences (one z) y 0 (one z).length ((one z).length + 1)).isEmpty = true := by
  simp only [Bool.and_eq_true] at hy
  obtain ⟨⟨⟨⟨⟨h1, h2⟩, h3⟩, h4⟩, h5⟩, h6⟩ := hy
  exact rg_all h (fun a z _ => (Builtin.Str.occurrences (one a) y 0 (one a).length ((one a).length + 1)).isEmpty = true ∧ (Builtin.Str.occurrences (one z) y 0 (one z).length ((one z).length + 1)).isEmpty = true) ⟨h1, h2⟩ ⟨h3, h4⟩ ⟨h5, h6⟩
theorem rg_find1 : (match Builtin.Str.occurrences (⟨#[91, a, 45, z, 93, 42]⟩ : Str) (Str.ofString "-") (PySem.fromIndex (⟨#[91, a, 45, z, 93, 42]⟩ : Str).length 2) (min (PySem.fromIndex (⟨#[91, a, 45, z, 93, 42]⟩ : Str).length 4) (⟨#[91, a, 45, z, 93, 42]⟩ : Str).length) 1 with | k :: _ => (k : Int) | [] => -1) = 2 :=
  rg_all h (fun a z _ => (match Builtin.Str.occurrences (⟨#[91, a, 45, z, 93, 42]⟩ : Str) (Str.ofString "-") (PySem.fromIndex (⟨#[91, a, 45, z, 93, 42]⟩ : Str).length 2) (min (PySem.fromIndex (⟨#[91, a, 45, z, 93, 42]⟩ : Str).length 4) (⟨#[91, a, 45, z, 93, 42]⟩ : Str).length) 1 with | k :: _ => (k : Int) | [] => -1) = 2) (by decide +kernel) (by decide +kernel) (by decide +kernel)
theorem rg_find2 : (match Builtin.Str.occurrences (⟨#[91, a, 45, z, 93, 42]⟩ : Str) (Str.ofString "-") (PySem.fromIndex (⟨#[91, a, 45, z, 93, 42]⟩ : Str).length 5) (min (PySem.fromIndex (⟨#[91, a, 45, z, 93, 42]⟩ : Str).length 4) (⟨#[91, a, 45, z, 93, 42]⟩ : Str).length) 1 with | k :: _ => (k : Int) | [] => -1) = -1 :=
  rg_all h (fun a z _ => (match Builtin.Str.occurrences (⟨#[91, a, 45, z, 93, 42]⟩ : Str) (Str.ofString "-") (PySem.fromIndex (⟨#[91, a, 45, z, 93, 42]⟩ : Str).length 5) (min (PySem.fromIndex (⟨#[91, a, 45, z, 93, 42]⟩ : Str).length 4) (⟨#[91, a, 45, z, 93, 42]⟩ : Str).length) 1 with | k :: _ => (k : Int) | [] => -1) = -1) (by decide +kernel) (by decide +kernel) (by decide +kernel)
theorem rg_gt : decide (Array.toList (one z).cps < Array.toList (one a).cps) = false := rg_all h (fun a z _ => decide (Array.toList (one z).cps < Array.toList (one a).cps) = false) (by decide +kernel) (by decide +kernel) (by decide +kernel)
theorem rg_i (y : Str) (hy : (one a == y) = false) : (Txt.item (abc a z) 0 == y) = false := rg_all (P := fun a z _ => (one a == y) = false → (Txt.item (abc a z) 0 == y) = false) h id id id hy
theorem rg_not : (abc a z == Str.ofString "!") = false := rg_all h (fun a z _ => (abc a z == Str.ofString "!") = false) (by decide +kernel) (by decide +kernel) (by decide +kernel)
theorem rg_in : (List.any [Str.ofString "^", Str.ofString "["] fun x => x == Txt.item (abc a z) 0) = false := rg_all h (fun a z _ => (List.any [Str.ofString "^", Str.ofString "["] fun x => x == Txt.item (abc a z) 0) = false) (by decide +kernel) (by decide +kernel) (by decide +kernel)
theorem rg_join : Txt.join (Str.ofString "-") ([one a, one z].map fun y => y) = abc a z := rg_all h (fun a z _ => Txt.join (Str.ofString "-") ([one a, one z].map fun y => y) = abc a z) (by decide +kernel) (by decide +kernel) (by decide +kernel)
theorem rg_jok : JoinOk (Str.ofString "-") ([one a, one z].map fun y => y) = true := rg_all h (fun a z _ => JoinOk (Str.ofString "-") ([one a, one z].map fun y => y) = true) (by decide +kernel) (by decide +kernel) (by decide +kernel)
theorem rg_len : r.length ≤ sizeLine := rg_all h (fun _ _ r => r.length ≤ sizeLine) (by decide +kernel) (by decide +kernel) (by decide +kernel)
theorem rg_fmt : Str.ofString "[" ++ abc a z ++ Str.ofString "]" = r := rg_all h (fun a z r => Str.ofString "[" ++ abc a z ++ Str.ofString "]" = r) (by decide +kernel) (by decide +kernel) (by decide +kernel)
end
end Mine
namespace Mine
section
variable {a z : Nat}
theorem slice_abc : Txt.slice (⟨#[91, a, 45, z, 93, 42]⟩ : Str) (some 1) (some 4) = abc a z := rfl
theorem slice_a : Txt.slice (⟨#[91, a, 45, z, 93, 42]⟩ : Str) (some 1) (some 2) = one a := rfl
theorem slice_z : Txt.slice (⟨#[91, a, 45, z, 93, 42]⟩ : Str) (some 3) (some 4) = one z := rfl
end
section
variable {prog : Program} {w : World} {A : Around} {E : Value → Shared → Prop} {s : Shared} {h₀ : Heap} {L : Addr} {m : Str → Option Value} {news : List (Addr × Obj)} {value slice : PySem.Expr} {x r : Str} {t : Tok} {Q : Value → Shared → Prop}
theorem slice_to {i j : Int} {ui uj : Tok} (hF : Fr h₀ L s.heap m) (hN : News h₀ L s.heap news) (hr : Txt.slice x (some i) (some j) = r) (h : ∀ h' t' k, Fr h₀ L h' m → News h₀ L h' news → Q (.str r t') { s with heap := h', toks := k })
    (hs : subscripted slice false (.str x t) (.ref s.heap.objs.size) = operate [.ref s.heap.objs.size, .str x t] (getItem (.str x t) (.ref s.heap.objs.size)))
    (ht : ∀ r, letTemporaryGo value (.str x t) r = pure ()) (hsz : x.length ≤ sizeLine) :
    wpAny (model prog w) A (subscriptTail value slice (.str x t) (.ref s.heap.objs.size)) Q E { s with heap := s.heap.push { cls := .type "slice", data := .fields #[.int i ui, .int j uj, .none] } } := by
  subst hr
  exact slice_strN_ss hF hN h hs ht hsz
end
theorem truthy_T {prog : Program} {w : World} {A : Around} {E : Value → Shared → Prop} {s : Shared} {x : Str} {t : Tok} {Q : Bool → Shared → Prop} {n : Nat} (hp : x.length = n + 1) (hl : n ≤ 100) (h : Q true { s with toks := s.toks + 1 + 1 }) : wpAny (model prog w) A (PySem.truthy (.str x t)) Q E s :=
  PySem.P.truthy_str (by omega) (by rw [show (((x.length : Nat) : Int) != 0) = true from bne_iff_ne.mpr (by omega)]; exact h)
noncomputable def JEnd (base : Heap) (L : Addr) (m : Str → Option Value) (news : List (Addr × Obj)) (ts e k : Nat) (t' : Tok) (g : Array GenState) (d : Drawn) (os : OsState) (f : Flow) (s₃ : Shared) : Prop :=
  f = .next ∧ ∃ h'' t'' tk'', s₃ = ⟨h'', g, d, tk'', os⟩ ∧ Fr base L h'' (fun y => if y = Str.ofString "j" then some (.int ((e : Int) - (k + 1 : Nat) + 1) t'') else (fun y => if y = Str.ofString "j" then some (.int ((e : Int) - (k + 1 : Nat)) t') else m y) y) ∧ News base L h'' news ∧ Newer ts tk''
theorem tab_or {fl : Bool} {ps : Array Value} (h : Tab fl ps) : ps = #[] ∨ ∃ g l, ps = tabT g l := by
  cases fl
  · exact .inl h
  · exact .inr h
theorem gt_strF {prog : Program} {w : World} {A : Around} {E : Value → Shared → Prop} {s : Shared} {x y : Str} {t u : Tok} {Q : Value → Shared → Prop} (e : decide (Array.toList y.cps < Array.toList x.cps) = false) (h : Q (.bool false) s) : wpAny (model prog w) A (compareOp .Gt (.str x t) (.str y u)) Q E s := PySem.P.gt_str (by rw [e]; exact h)
theorem sub_rng {w : World} {dp un : Nat} {fr : Option (List Env)} {gd : Option (List Code)} {s : Shared} {Q E : Value → Shared → Prop} {a z : Nat} {r : Str} (hR : Rg a z r) (X : (hd.heap_1 w.params).In s.heap) (tp : Tok) (lam : Addr) (c : Data) (sl : Array (Option Value)) (hlam : s.heap.get? lam = some ⟨.type "function", none, c, sl⟩) (hQ : SubQ s (abc a z) Q) :
    wpAny (model prg w) ⟨none, dp, fr, gd, un⟩ (call (.builtin "re.Pattern.sub") [.ref (nat_lit 100), .ref lam, .str (abc a z) tp] []) Q E s := by
  refine rg_all (P := fun a z _ => SubQ s (abc a z) Q → wpAny (model prg w) ⟨none, dp, fr, gd, un⟩ (call (.builtin "re.Pattern.sub") [.ref (nat_lit 100), .ref lam, .str (abc a z) tp] []) Q E s) hR ?_ ?_ ?_ hQ
  · rw [show abc 65 90 = Str.ofString "A-Z" by decide +kernel]; exact fun h => sub_up X tp lam c sl hlam h
  · rw [show abc 97 122 = Str.ofString "a-z" by decide +kernel]; exact fun h => sub_lo X tp lam c sl hlam h
  · rw [show abc 48 57 = Str.ofString "0-9" by decide +kernel]; exact fun h => sub_fig X tp lam c sl hlam h
/-- the inner loop over `j`: up to the place e -/
theorem whl_j {prog : Program} {w : World} {A : Around} {env : Env} {test : PySem.Expr} {body : List Stmt} {Q : Flow → Shared → Prop} {base h : Heap} {L : Addr} {m : Str → Option Value} {news : List (Addr × Obj)} {ts tk : Nat} {t : Tok} {jv : Int} {g : Array GenState} {d : Drawn} {os : OsState} (e k0 : Nat)
    (F : Fr base L h m) (N : News base L h news) (z : Newer ts tk) (hj : m (Str.ofString "j") = some (.int jv t)) (hv : jv = (e : Int) - k0)
    (stop : ∀ h' t' tk', Fr base L h' (fun y => if y = Str.ofString "j" then some (.int ((e : Int) - (0 : Nat)) t') else m y) → News base L h' news → Newer ts tk' →
      wpAny (model prog w) A (PySem.isTrue test env (eval test env)) (fun b s₂ => if b = true then wpAny (model prog w) A (execs body env) (fun _ _ => False) (fun _ _ => False) s₂ else Q .next s₂) (fun _ _ => False) ⟨h', g, d, tk', os⟩)
    (turn : ∀ k h' t' tk', k + 1 ≤ k0 → Fr base L h' (fun y => if y = Str.ofString "j" then some (.int ((e : Int) - (k + 1 : Nat)) t') else m y) → News base L h' news → Newer ts tk' →
      wpAny (model prog w) A (PySem.isTrue test env (eval test env)) (fun b s₂ => if b = true then wpAny (model prog w) A (execs body env)
        (JEnd base L m news ts e k t' g d os) (fun _ _ => False) s₂ else False) (fun _ _ => False) ⟨h', g, d, tk', os⟩) : WhlG prog w A env test body Q ⟨h, g, d, tk, os⟩ := by
  subst hv
  refine ⟨fun k s' => k ≤ k0 ∧ ∃ h' t' tk', s' = ⟨h', g, d, tk', os⟩ ∧ Fr base L h' (fun y => if y = Str.ofString "j" then some (.int ((e : Int) - (k : Nat)) t') else m y) ∧ News base L h' news ∧ Newer ts tk', k0, ⟨Nat.le_refl _, h, t, tk, rfl, ?_, N, z⟩, ?_⟩
  · have : m = fun y => if y = Str.ofString "j" then some (.int ((e : Int) - (k0 : Nat)) t) else m y := by
      funext y
      split
      · rename_i hy; rw [hy, hj]
      · rfl
    rw [← this]; exact F
  · rintro k s' ⟨hk, h', t', tk', rfl, F', N', z'⟩
    cases k with
    | zero =>
      refine wpAny_mono (stop h' t' tk' F' N' z') (fun b s₂ h₂ => ?_) fun _ _ x => x
      cases b with
      | false => exact h₂
      | true =>
        simp only [if_true] at h₂ ⊢
        exact wpAny_mono h₂ (fun _ _ x => x.elim) fun _ _ x => x
    | succ k =>
      refine wpAny_mono (turn k h' t' tk' hk F' N' z') (fun b s₂ h₂ => ?_) fun _ _ x => x
      cases b with
      | false => exact h₂.elim
      | true =>
        simp only [if_true] at h₂ ⊢
        refine wpAny_mono h₂ (fun f s₃ h₃ => ?_) fun _ _ x => x
        obtain ⟨rfl, h'', t'', tk'', rfl, F'', N'', z''⟩ := h₃
        refine ⟨k, Nat.lt_succ_self _, Nat.le_of_succ_le hk, h'', t'', tk'', rfl, ?_, N'', z''⟩
        have : (fun y => if y = Str.ofString "j" then some (Value.int ((e : Int) - (k + 1 : Nat) + 1) t'') else (fun y => if y = Str.ofString "j" then some (Value.int ((e : Int) - (k + 1 : Nat)) t') else m y) y) = fun y => if y = Str.ofString "j" then some (.int ((e : Int) - (k : Nat)) t'') else m y := by
          funext y
          split
          · congr 2; omega
          · rename_i hy; simp only [if_neg hy]
        rw [← this]; exact F''
end Mine
end
section -- Kn
namespace Mine
/-- what is left behind a statement, where the tokens stay newer than ts -/
noncomputable def AfterN (ts : Nat) (M : Model) (A : Around) (rest : List Stmt) (env : Env) (Q : Flow → Shared → Prop) (E : Value → Shared → Prop) (f : Flow) (s : Shared) : Prop := Newer ts s.toks → After M A rest env Q E f s
section
variable {ts : Nat} {M : Model} {A : Around} {E : Value → Shared → Prop} {rest : List Stmt} {env : Env} {Q : Flow → Shared → Prop} {h : Heap} {g : Array GenState} {d : Drawn} {tk k : Nat} {o : OsState}
theorem afterN_next (H : Newer ts tk → wpAny M A (execs rest env) Q E ⟨h, g, d, tk, o⟩) : AfterN ts M A rest env Q E .next ⟨h, g, d, tk, o⟩ := H
theorem afterN_nil (H : Newer ts tk → Q .next ⟨h, g, d, tk, o⟩) : AfterN ts M A [] env Q E .next ⟨h, g, d, tk, o⟩ := fun z => wpAny_execs_nil (H z)
theorem afterN_ret {v : Value} (H : Newer ts tk → Q (.ret v) ⟨h, g, d, tk, o⟩) : AfterN ts M A rest env Q E (.ret v) ⟨h, g, d, tk, o⟩ := H
theorem afterN_brk (H : Newer ts tk → Q .brk ⟨h, g, d, tk, o⟩) : AfterN ts M A rest env Q E .brk ⟨h, g, d, tk, o⟩ := H
theorem execs_n {st : Stmt} (z : Newer ts k) (e : @LE.le Nat _ k tk) (H : let q := AfterN ts M A rest env Q E; ∀ tk, Newer ts tk → wpAny M A (exec st env) q E ⟨h, g, d, tk, o⟩) : wpAny M A (execs (st :: rest) env) Q E ⟨h, g, d, tk, o⟩ := by
  refine execs_newer z e (wpAny_mono (H tk (z.up e)) (fun f s' x y => ?_) fun _ _ x => x)
  cases f <;> exact x y
end
section
variable {prog : Program} {w : World} {A : Around} {env : Env} {test : PySem.Expr} {body : List Stmt} {Q : Flow → Shared → Prop} {base : Heap} {L : Addr} {os : OsState} {cs : List Nat} {tp ts ta : Tok} {flE : Bool} {lE : List Str}
noncomputable def TrPost (Q : Flow → Shared → Prop) (base : Heap) (L x9 D : Addr) (os : OsState) (cs : List Nat) (tp ts ta tn : Tok) (flE : Bool) (lE : List Str) (n : Nat) (f : Flow) (s : Shared) : Prop := match f with
  | .next | .cont => TrEnd base L x9 D os cs tp ts ta tn flE lE n s | .brk => Q .next s | .ret v => Q (.ret v) s
/-- one turn of the loop, kept folded -/
noncomputable def TurnW (prog : Program) (w : World) (A : Around) (env : Env) (test : PySem.Expr) (body : List Stmt) (Q : Flow → Shared → Prop) (P : Flow → Shared → Prop) (s : Shared) : Prop :=
  wpAny (model prog w) A (PySem.isTrue test env (eval test env)) (fun b s₂ => if b = true then wpAny (model prog w) A (execs body env) P (fun _ _ => False) s₂ else Q .next s₂) (fun _ _ => False) s
theorem turn_of {P : Flow → Shared → Prop} {s : Shared} (h : wpAny (model prog w) A (PySem.isTrue test env (eval test env)) (fun b s₂ => if b = true then wpAny (model prog w) A (execs body env) P (fun _ _ => False) s₂ else Q .next s₂) (fun _ _ => False) s) : TurnW prog w A env test body Q P s := h
noncomputable def St (base : Heap) (L x9 D : Addr) (cs : List Nat) (tp ts ta tn : Tok) (i : Nat) (vs : List Value) (ps : Array Value) (R : Heap → Array GenState → Drawn → Nat → Prop) : Prop :=
  ∀ h g d k m ti nn, Fr base L h (mp7 m (.str ⟨List.toArray cs⟩ tp) (.str (Str.ofString "many") ts) (.str (Str.ofString "any") ta) (.ref D) (.ref x9) (.int (i : Int) ti) (.int (cs.length : Int) tn)) → News base L h [(x9, appOf D), (D, listOf (List.toArray vs) nn), (114, tabObj ps)] → Newer ts k → AllBare g → @Ne Nat x9 D → @Ne Nat x9 114 → @Ne Nat D 114 → R h g d k
theorem whlG_kinds {fl : Bool} {n : Nat} {s1 : Shared} (hcl : cs.length ≤ 6)
    (hst : ∃ x9 D tn, TrSt base L x9 D os cs tp ts ta tn fl 0 [] s1) (hS : Steps cs n 0 fl [] flE lE)
    (nil : ∀ x9 D tn i vs ps, i = cs.length → StrsAre vs lE → Tab flE ps → vs.length ≤ 10 → St base L x9 D cs tp ts ta tn i vs ps fun h g d k => TurnW prog w A env test body Q (TrPost Q base L x9 D os cs tp ts ta tn flE lE 0) ⟨h, g, d, k, os⟩)
    (star0 : ∀ x9 D tn n i fl ps, i < cs.length → cs.getD i 0 = 42 → Steps cs n (i + 1) fl [many] flE lE → Tab fl ps → St base L x9 D cs tp ts ta tn i [] ps fun h g d k => TurnW prog w A env test body Q (TrPost Q base L x9 D os cs tp ts ta tn flE lE (n + 1)) ⟨h, g, d, k, os⟩)
    (star1 : ∀ x9 D tn n i fl ps x t0, i < cs.length → cs.getD i 0 = 42 → (x == many) = false → Old ts t0 → 1 ≤ i → Steps cs n (i + 1) fl [x, many] flE lE → Tab fl ps → St base L x9 D cs tp ts ta tn i [.str x t0] ps fun h g d k => TurnW prog w A env test body Q (TrPost Q base L x9 D os cs tp ts ta tn flE lE (n + 1)) ⟨h, g, d, k, os⟩)
    (star2 : ∀ x9 D tn n i fl ps y u0 x t0, i < cs.length → cs.getD i 0 = 42 → (x == many) = false → Old ts t0 → 2 ≤ i → Steps cs n (i + 1) fl [y, x, many] flE lE → Tab fl ps → St base L x9 D cs tp ts ta tn i [.str y u0, .str x t0] ps fun h g d k => TurnW prog w A env test body Q (TrPost Q base L x9 D os cs tp ts ta tn flE lE (n + 1)) ⟨h, g, d, k, os⟩)
    (esc : ∀ c, c = 65 ∨ c = 61 → ∀ x9 D tn n i fl l vs ps, i < cs.length → cs.getD i 0 = c → Steps cs n (i + 1) fl (l ++ [one c]) flE lE → StrsAre vs l → Tab fl ps → vs.length ≤ i → vs.length ≤ 10 → St base L x9 D cs tp ts ta tn i vs ps fun h g d k => TurnW prog w A env test body Q (TrPost Q base L x9 D os cs tp ts ta tn flE lE (n + 1)) ⟨h, g, d, k, os⟩)
    (qm : ∀ x9 D tn n i fl l vs ps, i < cs.length → cs.getD i 0 = 63 → Steps cs n (i + 1) fl (l ++ [anyS]) flE lE → StrsAre vs l → Tab fl ps → vs.length ≤ i → vs.length ≤ 10 → St base L x9 D cs tp ts ta tn i vs ps fun h g d k => TurnW prog w A env test body Q (TrPost Q base L x9 D os cs tp ts ta tn flE lE (n + 1)) ⟨h, g, d, k, os⟩)
    (rg : ∀ a z r, Rg a z r → cs = [91, a, 45, z, 93, 42] → ∀ x9 D tn n fl ps, Steps cs n 5 true [r] flE lE → Tab fl ps → St base L x9 D cs tp ts ta tn 0 [] ps fun h g d k => TurnW prog w A env test body Q (TrPost Q base L x9 D os cs tp ts ta tn flE lE (n + 1)) ⟨h, g, d, k, os⟩)
    (ps : cs = [42, 91, 43, 47, 93, 42] → ∀ x9 D tn n gA lA t0, Steps cs n 5 true [many, Str.ofString "[+/]"] flE lE → St base L x9 D cs tp ts ta tn 1 [.str (Str.ofString "many") t0] (tabT gA lA) fun h g d k => TurnW prog w A env test body Q (TrPost Q base L x9 D os cs tp ts ta tn flE lE (n + 1)) ⟨h, g, d, k, os⟩)
    (ne : cs = [42, 91, 33, 61, 93] → ∀ x9 D tn n gA lA t0, Steps cs n 5 true [many, Str.ofString "[^=]"] flE lE → St base L x9 D cs tp ts ta tn 1 [.str (Str.ofString "many") t0] (tabT gA lA) fun h g d k => TurnW prog w A env test body Q (TrPost Q base L x9 D os cs tp ts ta tn flE lE (n + 1)) ⟨h, g, d, k, os⟩) :
    WhlG prog w A env test body Q s1 := by
  refine whlG_tr hst hS ?_
  intro x9 D tn n i fl l s1 hS hq
  refine hideG ?_
  intro q9
  obtain ⟨m, ti, vs, nn, ps', F, N, z, hG, os1, hSt, hO, hT, hv⟩ := hq
  obtain ⟨h1, g1, d1, k1, o1⟩ := s1
  dsimp only at F N z hG os1
  subst os1
  have hil : i ≤ cs.length := hS.le
  have hv10 : vs.length ≤ 10 := by omega
  obtain ⟨a1, a2, a3⟩ := tr_ne N
  cases hS with
  | nil => exact nil x9 D tn _ vs ps' rfl hSt hT hv10 _ _ _ _ _ _ _ F N z hG a1 a2 a3
  | cons hst hrest =>
    induction hst with
    | star0 hlt hc => cases hSt; exact star0 x9 D tn _ _ _ ps' hlt hc hrest hT _ _ _ _ _ _ _ F N z hG a1 a2 a3
    | star1 x hlt hc hx => obtain ⟨t0, rfl, hO2⟩ := star1_open hSt hO hx; exact star1 x9 D tn _ _ _ ps' x t0 hlt hc hx hO2 hv hrest hT _ _ _ _ _ _ _ F N z hG a1 a2 a3
    | star2 y x hlt hc hx => obtain ⟨u0, t0, rfl, hO2⟩ := star2_open hSt hO hx; exact star2 x9 D tn _ _ _ ps' y u0 x t0 hlt hc hx hO2 hv hrest hT _ _ _ _ _ _ _ F N z hG a1 a2 a3
    | esc hlt hc hcc => exact esc _ hcc x9 D tn _ _ _ _ vs ps' hlt hc hrest hSt hT hv hv10 _ _ _ _ _ _ _ F N z hG a1 a2 a3
    | qm hlt hc => exact qm x9 D tn _ _ _ _ vs ps' hlt hc hrest hSt hT hv hv10 _ _ _ _ _ _ _ F N z hG a1 a2 a3
    | rg a z' r hR hcs => cases hSt; exact rg a z' r hR hcs x9 D tn _ _ ps' hrest hT _ _ _ _ _ _ _ F N z hG a1 a2 a3
    | ps hcs => obtain ⟨gA, lA, rfl⟩ := hT; obtain ⟨t0, rfl⟩ := many_open hSt; exact ps hcs x9 D tn _ gA lA t0 hrest _ _ _ _ _ _ _ F N z hG a1 a2 a3
    | ne hcs => obtain ⟨gA, lA, rfl⟩ := hT; obtain ⟨t0, rfl⟩ := many_open hSt; exact ne hcs x9 D tn _ gA lA t0 hrest _ _ _ _ _ _ _ F N z hG a1 a2 a3
end
end Mine
end
section -- CU
namespace Mine
inductive SymA (n : Nat) : Prop
  | mk : SymA n
inductive SymZ (n : Nat) : Prop
  | mk : SymZ n
theorem SymA.rfl {n : Nat} (_ : SymA n) : n = n := Eq.refl n
theorem SymZ.rfl {n : Nat} (_ : SymZ n) : n = n := Eq.refl n
theorem eq_strF {prog : Program} {w : World} {A : Around} {E : Value → Shared → Prop} {s : Shared} {x y : Str} {t u : Tok} {Q : Value → Shared → Prop} (e : (x == y) = false) (h : Q (.bool false) s) : wpAny (model prog w) A (compareOp .Eq (.str x t) (.str y u)) Q E s := PyProof.Rows.eq_str (by rw [e]; exact h)
theorem ne_strT {prog : Program} {w : World} {A : Around} {E : Value → Shared → Prop} {s : Shared} {x y : Str} {t u : Tok} {Q : Value → Shared → Prop} (e : (x == y) = false) (h : Q (.bool true) s) : wpAny (model prog w) A (compareOp .NotEq (.str x t) (.str y u)) Q E s := PyProof.Rows.ne_str (by rw [bne, e]; exact h)



set_option maxHeartbeats 40000000 in
theorem c_translate {w : World} {dp un : Nat} {fr : Option (List Env)} {gd : Option (List Code)} {s : Shared} {Q E : Value → Shared → Prop} {loose : List Str} {mean : ExcName → Option Value} {mg mb : Str → Option Value}
    (X0 : (hd.heap_1 w.params).In s.heap) (T0 : Top topProg loose mean mg mb s.heap) (hr : dp + 8 < recursionLimit) (hu : un + 60 < cLine) (ts ta tp : Tok) (hts : @LT.lt Nat _ 0 ts) (hts' : @LT.lt Nat _ ts s.toks) (hta : Old ts ta) (ps : Array Value)
    (X : (hd.heap_1 w.params).In (hideAll s.heap [114])) (T : Top topProg loose mean mg mb (hideAll s.heap [114])) (hP : s.heap.get? 114 = some (tabObj ps)) (C : CodeHd (hideAll s.heap [114]) 118 114) (hG : AllBare s.gens)
    (cs : List Nat) (hcl : cs.length ≤ 6) (fl flE : Bool) (lE : List Str) (nT : Nat) (hS : Steps cs nT 0 fl [] flE lE) (hT : Tab fl ps)
    (hQ : ∀ D vs n ps' s', (∀ b o, b ≠ 114 → s.heap.get? b = some o → s'.heap.get? b = some o) → s'.heap.get? 114 = some (tabObj ps') → Tab flE ps' → s.heap.get? D = none → s'.heap.get? D = some (listOf (List.toArray vs) n) → StrsAre vs lE → AllBare s'.gens → s'.os = s.os → Q (.ref D) s') :
    wpAny (model prg w) ⟨none, dp, fr, gd, un⟩ (call (.ref 119) [.str ⟨List.toArray cs⟩ tp, .str (Str.ofString "many") ts, .str (Str.ofString "any") ta] []) Q E s := by
  refine' pcall X0 T0 ?k6 ?k7 (Nat.lt_of_le_of_lt (Nat.le_add_right _ _) hr) ?k9 ?kB ?c2 ?c3 ?c4 ?c5 ?_
  case k6 => k_is
  case k7 => k_is
  case k9 => first | exact BindsTo.of_eq rfl | exact binds_K X0 rfl (by k_is) rfl rfl rfl
  case c5 => decide
  case kB => exact locs rfl
  case c2 => exact rfl
  case c3 => exact rfl
  case c4 => exact rfl
  intro L' h' F0 N0 envL AL
  have F : Fr (hideAll s.heap [114]) L' h' _ := ⟨F0.ns, fun b o e => F0.keep b o (of_hideAll _ e), Nat.le_trans (Nat.le_of_eq (hideAll_size _ _)) F0.above⟩
  have N : News (hideAll s.heap [114]) L' h' [(114, tabObj ps)] := by
    intro p hp
    simp at hp
    subst hp
    exact ⟨F0.keep _ _ hP, Nat.ne_of_lt (Nat.lt_of_lt_of_le (Heap.lt_size hP) F0.above), hideAll_none _ (by simp)⟩
  have h114 : @LT.lt Nat _ 114 s.heap.objs.size := Heap.lt_size hP
  clear F0 N0 X0 T0
  clear hP
  have z0 : Newer ts (s.toks + 3) := ⟨hts, by show @LT.lt Nat _ ts (s.toks + 3); exact Nat.lt_of_lt_of_le hts' (Nat.le_add_right _ _)⟩
  show wpAny _ _ _ _ _ ⟨h', s.gens, s.drawn, s.toks + 3, s.os⟩
  k_fold
  (repeat' (first | ((try k_unmd); k_unfold; first | ((with_reducible (first | refine afterN_nil ?_ | refine afterN_next ?_ | refine afterN_ret ?_ | refine afterN_brk ?_)); intro z9) | (try dsimp only [List.cons_append, List.nil_append])) | ((with_reducible show wpAny _ _ (subscriptTail _ _ _ _) _ _ _); first | ((with_reducible show wpAny _ _ (subscriptTail (PySem.Expr.Name _ _) (PySem.Expr.Slice _ _ _ _) (Value.str _ _) (Value.ref _)) _ _ _); (((rename Fr _ _ _ _ => F9); (rename News _ _ _ _ => N9); k_dflt (refine' slice_to (s := ⟨_, _, _, _, _⟩) F9 N9 ?r ?_ ?hs ?ht ?hz; (case r => first | exact slice_abc | exact slice_a | exact slice_z); (case hs => with_unfolding_all rfl); (case ht => intro _; with_unfolding_all rfl); (case hz => size_fits)); intro h8 t8 k8 F8 N8; clear F9 N9; (try dsimp only)))) | ((with_reducible show wpAny _ _ (subscriptTail (PySem.Expr.Name _ _) (PySem.Expr.Name _ _) (Value.ref _) (Value.int _ _)) _ _ _); (k_dflt ((refine' item_news ?k1 ?k2 ?k3 ?k4 ?k5 ?_ ?k6); (case k1 => k_asm); (case k2 => k_mem); (case k3 => decide); (case k4 => decide); (case k5 => exact rfl); (case k6 => with_unfolding_all rfl)))) | ((with_reducible show wpAny _ _ (subscriptTail (PySem.Expr.Name _ _) (PySem.Expr.BinOp _ _ _ _) (Value.ref _) (Value.int _ _)) _ _ _); (k_dflt ((refine' item_news ?k1 ?k2 ?k3 ?k4 ?k5 ?_ ?k6); (case k1 => k_asm); (case k2 => k_mem); (case k3 => decide); (case k4 => decide); (case k5 => exact rfl); (case k6 => with_unfolding_all rfl)))) | ((with_reducible show wpAny _ _ (subscriptTail (PySem.Expr.Name _ _) (PySem.Expr.Name _ _) (Value.str _ _) (Value.int _ _)) _ _ _); (k_dflt ((refine' item_lit ?i0 ?i1 ?i2 ?hc ?_ ?is ?it); (case hc => first | assumption | exact Eq.refl 42 | exact Eq.refl 65 | exact Eq.refl 61 | exact Eq.refl 63 | exact Eq.refl 91 | exact Eq.refl 93 | exact Eq.refl 45 | exact Eq.refl 90 | exact Eq.refl 97 | exact Eq.refl 122 | exact Eq.refl 48 | exact Eq.refl 57 | exact Eq.refl 43 | exact Eq.refl 47 | exact Eq.refl 33 | ((rename SymA _ => y9); exact Eq.trans (by rfl) (SymA.rfl y9)) | ((rename SymZ _ => y9); exact Eq.trans (by rfl) (SymZ.rfl y9))); (case i0 => first | decide | omega); (case i1 => first | decide | omega); (case i2 => first | decide | omega); (case is => with_unfolding_all rfl); (case it => intro _; with_unfolding_all rfl))))) | ((with_reducible show wpAny _ _ (exec _ _) _ _ _); first | ((with_reducible show wpAny _ _ (exec (Stmt.While (PySem.Expr.BoolOp _ _ _) _ [] _) _) _ _ _); ((k_dflt (refine whl_leaf ?_)))) | ((with_reducible show wpAny _ _ (exec (Stmt.While (PySem.Expr.Compare _ _ _ _) _ [] _) _) _ _ _); ((k_dflt (refine whl_leaf ?_)))) | ((with_reducible show wpAny _ _ (exec (Stmt.If _ _ _ _) _) _ _ _); (first | (((rename Newer _ _ => z9); (with_reducible refine if_newer z9 ?le ?_); (case le => k_dflt (first | exact Nat.le_refl _ | exact le_s1 | exact le_s2 | exact le_s3 | exact le_s4 | exact le_s5 | exact le_s6 | exact le_s7 | exact le_s8)))) | (refine wpAny_If ?_)))) | ((with_reducible show wpAny _ _ (compareOp _ _ _) _ _ _); first | ((with_reducible show wpAny _ _ (compareOp CmpOp.NotIn (Value.str _ _) (Value.str _ _)) _ _ _); (first | ((k_dflt (refine notin_lit (b := false) (rg_dash (by assumption)) ?_))) | (first | (k_dflt (refine notin_lit (b := true) (by decide +kernel) ?_)) | (k_dflt (refine notin_lit (b := false) (by decide +kernel) ?_))))) | ((with_reducible show wpAny _ _ (compareOp CmpOp.Gt (Value.str _ _) (Value.str _ _)) _ _ _); (k_dflt (refine gt_strF (rg_gt (by assumption)) ?_))) | ((with_reducible show wpAny _ _ (compareOp CmpOp.IsNot (Value.str _ _) (Value.str _ _)) _ _ _); ((k_dflt (refine isnot_old (by first | assumption | rfl | decide +kernel) ?ho ?_); (case ho => first | assumption | (simp only [Newer] at *; (try dsimp only at *); exact ⟨by omega, by omega⟩))))) | ((with_reducible show wpAny _ _ (compareOp CmpOp.NotEq (Value.str _ _) (Value.str _ _)) _ _ _); (refine ne_strT (by assumption) ?_)) | ((with_reducible show wpAny _ _ (compareOp CmpOp.Eq (Value.str _ _) (Value.str _ _)) _ _ _); (refine eq_strF (by assumption) ?_))) | ((with_reducible show wpAny _ _ (call _ _ _) _ _ _); first | ((with_reducible show wpAny _ _ (call (Value.builtin "str.find") _ _) _ _ _); (first | (first | (k_dflt (refine find_lit (r := 2) (rg_find1 (by assumption)) ?_)) | (k_dflt (refine find_lit (r := -1) (rg_find2 (by assumption)) ?_))) | (first | (k_dflt (refine find_lit (r := 2) (by decide +kernel) ?_)) | (k_dflt (refine find_lit (r := -1) (by decide +kernel) ?_))))) | ((with_reducible show wpAny _ _ (call (Value.builtin "re.Pattern.sub") _ _) _ _ _); (first | ((k_dflt (refine sub_rng (by assumption) (by ((first | assumption | exact Frag.In.keeps (by assumption) (Fr.keep (by assumption))))) _ _ _ _ (by (((rename News _ _ _ _ => N9); exact (N9 _ (by k_mem)).1))) (fun h9 t9 tk9 hx9 => ?_)); (((rename Fr _ _ _ _ => F9); (rename News _ _ _ _ => N9); (rename Ext _ _ => hx9); (have F8 := fr_ext F9 hx9); (have N8 := news_ext N9 hx9); clear F9 N9 hx9; (try dsimp only); (try k_fold))))) | ((k_dflt (first | (refine sub_up (by ((first | assumption | exact Frag.In.keeps (by assumption) (Fr.keep (by assumption))))) _ _ _ _ (by (((rename News _ _ _ _ => N9); exact (N9 _ (by k_mem)).1))) (fun h9 t9 tk9 hx9 => ?_)) | (refine sub_lo (by ((first | assumption | exact Frag.In.keeps (by assumption) (Fr.keep (by assumption))))) _ _ _ _ (by (((rename News _ _ _ _ => N9); exact (N9 _ (by k_mem)).1))) (fun h9 t9 tk9 hx9 => ?_)) | (refine sub_fig (by ((first | assumption | exact Frag.In.keeps (by assumption) (Fr.keep (by assumption))))) _ _ _ _ (by (((rename News _ _ _ _ => N9); exact (N9 _ (by k_mem)).1))) (fun h9 t9 tk9 hx9 => ?_)) | (refine sub_ps (by ((first | assumption | exact Frag.In.keeps (by assumption) (Fr.keep (by assumption))))) _ _ _ _ (by (((rename News _ _ _ _ => N9); exact (N9 _ (by k_mem)).1))) (fun h9 t9 tk9 hx9 => ?_)) | (refine sub_ne (by ((first | assumption | exact Frag.In.keeps (by assumption) (Fr.keep (by assumption))))) _ _ _ _ (by (((rename News _ _ _ _ => N9); exact (N9 _ (by k_mem)).1))) (fun h9 t9 tk9 hx9 => ?_))); (((rename Fr _ _ _ _ => F9); (rename News _ _ _ _ => N9); (rename Ext _ _ => hx9); (have F8 := fr_ext F9 hx9); (have N8 := news_ext N9 hx9); clear F9 N9 hx9; (try dsimp only); (try k_fold))))))) | ((with_reducible show wpAny _ _ (call (Value.builtin "str.join") _ _) _ _ _); (first | ((k_dflt (refine join_leaf (by k_asm) (by k_asm) (by assumption) (by assumption) (by assumption) (by assumption) (rg_jok (by assumption)) (rg_join (by assumption)) (Nat.le_of_ble_eq_true rfl) (fun s9 t9 F9 N9 G9 o9 => ?_)); obtain ⟨h9, g9, d9, tk9, os9⟩ := s9; dsimp only at F9 N9 G9 o9; subst o9; (try dsimp only))) | ((k_dflt (first | (refine join_leaf (r := Str.ofString "A-Z") (by k_asm) (by k_asm) (by assumption) (by assumption) (by assumption) (by assumption) (by decide +kernel) (by decide +kernel) (by decide) (fun s9 t9 F9 N9 G9 o9 => ?_)) | (refine join_leaf (r := Str.ofString "a-z") (by k_asm) (by k_asm) (by assumption) (by assumption) (by assumption) (by assumption) (by decide +kernel) (by decide +kernel) (by decide) (fun s9 t9 F9 N9 G9 o9 => ?_)) | (refine join_leaf (r := Str.ofString "0-9") (by k_asm) (by k_asm) (by assumption) (by assumption) (by assumption) (by assumption) (by decide +kernel) (by decide +kernel) (by decide) (fun s9 t9 F9 N9 G9 o9 => ?_))); obtain ⟨h9, g9, d9, tk9, os9⟩ := s9; dsimp only at F9 N9 G9 o9; subst o9; (try dsimp only))))) | ((with_reducible show wpAny _ _ (call (Value.builtin "list.append") _ _) _ _ _); ((k_dflt (refine' append_K ?k1 ?k2 ?k3 ?_ ?z; (case k1 => k_asm); (case k2 => k_asm); (case k3 => k_upd); (case z => size_fits)); intro h' F' N'; (try k_sweep)))) | ((with_reducible show wpAny _ _ (call (Value.builtin "str.replace") _ _) _ _ _); ((k_dflt (refine rep_none (by decide +kernel) ?_)))) | ((with_reducible show wpAny _ _ (call (Value.ref _) _ _) _ _ _); (first | (k_dflt (refine' append_B ?k1 ?k2 ?k3 ?k4 ?_ ?z; (case k1 => k_asm); (case k2 => k_asm); (case k3 => k_mem); (case k4 => k_upd); (case z => size_fits)); intro h9 F9 N9; (try k_sweep)) | (refine' c_escape ?cx ?ct ?ch ?cr ?cu _ _ ?cc ?_; (case cx => ((first | assumption | exact Frag.In.keeps (by assumption) (Fr.keep (by assumption))))); (case ct => ((first | assumption | exact Top.keeps (by assumption) (Fr.keep (by assumption))))); (case ch => with_unfolding_all rfl); (case cr => ((simp +zetaDelta only [depth_deeper, units_deeper]; omega))); (case cu => ((simp +zetaDelta only [depth_deeper, units_deeper]; omega))); (case cc => first | assumption | decide); intro h9 t9 tk9 hx9 hle9 hlt9; (try dsimp only at hle9); (((rename Fr _ _ _ _ => F9); (rename News _ _ _ _ => N9); (rename Ext _ _ => hx9); (have F8 := fr_ext F9 hx9); (have N8 := news_ext N9 hx9); clear F9 N9 hx9; (try dsimp only); (try k_fold)))))) | ((with_reducible show wpAny _ _ (call (Value.builtin "len") _ _) _ _ _); (first | (k_dflt (refine name_len (by omega) ?_)) | (k_dflt (refine len_lit (n := 1) (by decide) (by rfl) ?_)) | (k_dflt (refine len_lit (n := 2) (by decide) (by rfl) ?_)) | (k_dflt (refine len_lit (n := 3) (by decide) (by rfl) ?_)) | (k_dflt (refine len_lit (n := 4) (by decide) (by rfl) ?_)) | (k_dflt (refine len_lit (n := 5) (by decide) (by rfl) ?_)) | (k_dflt (refine len_lit (n := 6) (by decide) (by rfl) ?_))))) | ((with_reducible show wpAny _ _ (PySem.truthy (Value.str _ _)) _ _ _); (k_dflt (first | refine truthy_T (n := 2) rfl (by decide) ?_ | refine truthy_T (n := 0) rfl (by decide) ?_))) | ((with_reducible show wpAny _ _ (getMethod (Value.ref _) _ _) _ _ _); (k_dflt (refine getm_sub (by ((first | assumption | exact Frag.In.keeps (by assumption) (Fr.keep (by assumption))))) ?_))) | ((with_reducible show wpAny _ _ (execs [] _) _ _ _); ((with_reducible refine wpAny_execs_nil ?_))) | ((with_reducible show wpAny _ _ (execs (_ :: _) _) _ _ _); (((rename Newer _ _ => z9); (with_reducible refine execs_n z9 ?le ?_); (case le => (k_dflt (first | exact Nat.le_refl _ | exact le_s1 | exact le_s2 | exact le_s3 | exact le_s4 | exact le_s5 | exact le_s6 | exact le_s7 | exact le_s8))); clear z9; intro qk tk9 z9))) | ((with_reducible show wpAny _ _ (eval (PySem.Expr.Name _ _) _) _ _ _); ((k_dflt ((refine' nameX_L ?F ?v ?_ ?a ?b); (case F => k_asm); (case b => rfl); (case a => rfl); (case v => rfl))))) | ((with_reducible show wpAny _ _ (eval (PySem.Expr.GeneratorExp _ _ _ _) _) _ _ _); ((k_dflt (refine gen_leaf (by k_asm) (by k_asm) (by k_asm) (by rfl) (by rfl) (by rfl) (by rfl) (by with_unfolding_all rfl) (by decide) (by rfl) (by rfl) (by rfl) ?hroom ?_ (by intro _; with_unfolding_all rfl)); (case hroom => ((simp +zetaDelta only [depth_deeper, units_deeper]; omega)))))) | ((with_reducible show wpAny _ _ (pyIter (Value.ref _)) _ _ _); (((with_reducible show wpAny _ _ (pyIter (Value.ref _)) (fun it s₂ => LoopAtV _ _ _ _ _ _ _ _ _ it s₂) _ _); krs_unr))) | ((with_reducible show wpAny _ _ (callWith _ (Value.ref _) _ _ _) _ _ _); (first | (k_dflt (refine' callWith_app ?k1 ?k2 ?_; (case k1 => k_asm); (case k2 => k_mem))))) | ((with_reducible show wpAny _ _ (getAttr (Value.ref _) _ _) _ _ _); ((k_dflt (refine' app_N ?k1 ?k2 ?k3 ?_; (case k1 => k_asm); (case k2 => k_asm); (case k3 => k_mem)); intro x9 h9 F9 N9 l9; (try k_lt l9); (try k_sweep)))) | ((with_reducible show wpAny _ _ (joinParts _ _) _ _ _); (first | ((k_dflt (refine joinParts_lit (rg_fmt (by assumption)) (rg_len (by assumption)) ?_))) | ((k_dflt (first | (refine joinParts_lit (r := Str.ofString "[A-Z]") (by decide +kernel) (by decide +kernel) ?_) | (refine joinParts_lit (r := Str.ofString "[a-z]") (by decide +kernel) (by decide +kernel) ?_) | (refine joinParts_lit (r := Str.ofString "[0-9]") (by decide +kernel) (by decide +kernel) ?_) | (refine joinParts_lit (r := Str.ofString "[+/]") (by decide +kernel) (by decide +kernel) ?_) | (refine joinParts_lit (r := Str.ofString "[^=]") (by decide +kernel) (by decide +kernel) ?_)))) | (((rename Newer _ _ => z9); (with_reducible refine joinParts_newer z9 ?le ?_); (case le => k_dflt (first | exact Nat.le_refl _ | exact le_s1 | exact le_s2 | exact le_s3 | exact le_s4 | exact le_s5 | exact le_s6 | exact le_s7 | exact le_s8)))))) | ((with_reducible show _ ∧ _); (((with_reducible show AppAt _ _ _ ∧ _); k_dflt (refine ⟨app_at (by k_asm) (by k_mem), ?_⟩)))) | ((with_reducible show wpAny _ _ (storeName _ _ _) _ _ _); ((k_dflt (refine' store_f ?F ?N ?b ?a ?_; (case F => k_asm); (case N => k_asm); (case b => rfl); (case a => rfl); k_whole; intro m' h' F' N'; (try k_sweep))))) | (k_end; wrow_close) | walk1 | dsimp only | (leave1; try dsimp only)))
  (rename Fr _ _ _ _ => F9)
  (rename News _ _ _ _ => N9)
  (rename Newer _ _ => z9)
  refine whlG_kinds (base := hideAll s.heap [114]) (L := L') (os := s.os) (cs := cs) (tp := tp) (ts := ts) (ta := ta) (fl := fl) hcl ⟨_, _, _, TrSt.intro (vs := []) F9 N9 rfl rfl rfl rfl rfl rfl rfl rfl rfl (by k_mem) (by k_mem) (by k_mem) ⟨z9.1, by have := z9.2; omega⟩ hG .nil lastOld_nil hT (Nat.zero_le _)⟩ hS ?nil ?star0 ?star1 ?star2 ?esc ?qm ?rg ?ps ?ne
  all_goals clear F9 N9 z9 hT hG
  case nil =>
    intro x9 D tn i vs ps' hi hSt hT hv10
    intro h1 g1 d1 k1 m ti nn F N zN hG lx1 lx2 lx3
    refine turn_of ?_
    (repeat' (first | ((try k_unmd); k_unfold; first | ((with_reducible (first | refine afterN_nil ?_ | refine afterN_next ?_ | refine afterN_ret ?_ | refine afterN_brk ?_)); intro z9) | (try dsimp only [List.cons_append, List.nil_append])) | ((with_reducible show wpAny _ _ (subscriptTail _ _ _ _) _ _ _); first | ((with_reducible show wpAny _ _ (subscriptTail (PySem.Expr.Name _ _) (PySem.Expr.Slice _ _ _ _) (Value.str _ _) (Value.ref _)) _ _ _); (((rename Fr _ _ _ _ => F9); (rename News _ _ _ _ => N9); k_dflt (refine' slice_to (s := ⟨_, _, _, _, _⟩) F9 N9 ?r ?_ ?hs ?ht ?hz; (case r => first | exact slice_abc | exact slice_a | exact slice_z); (case hs => with_unfolding_all rfl); (case ht => intro _; with_unfolding_all rfl); (case hz => size_fits)); intro h8 t8 k8 F8 N8; clear F9 N9; (try dsimp only)))) | ((with_reducible show wpAny _ _ (subscriptTail (PySem.Expr.Name _ _) (PySem.Expr.Name _ _) (Value.ref _) (Value.int _ _)) _ _ _); (k_dflt ((refine' item_news ?k1 ?k2 ?k3 ?k4 ?k5 ?_ ?k6); (case k1 => k_asm); (case k2 => k_mem); (case k3 => decide); (case k4 => decide); (case k5 => exact rfl); (case k6 => with_unfolding_all rfl)))) | ((with_reducible show wpAny _ _ (subscriptTail (PySem.Expr.Name _ _) (PySem.Expr.BinOp _ _ _ _) (Value.ref _) (Value.int _ _)) _ _ _); (k_dflt ((refine' item_news ?k1 ?k2 ?k3 ?k4 ?k5 ?_ ?k6); (case k1 => k_asm); (case k2 => k_mem); (case k3 => decide); (case k4 => decide); (case k5 => exact rfl); (case k6 => with_unfolding_all rfl)))) | ((with_reducible show wpAny _ _ (subscriptTail (PySem.Expr.Name _ _) (PySem.Expr.Name _ _) (Value.str _ _) (Value.int _ _)) _ _ _); (k_dflt ((refine' item_lit ?i0 ?i1 ?i2 ?hc ?_ ?is ?it); (case hc => first | assumption | exact Eq.refl 42 | exact Eq.refl 65 | exact Eq.refl 61 | exact Eq.refl 63 | exact Eq.refl 91 | exact Eq.refl 93 | exact Eq.refl 45 | exact Eq.refl 90 | exact Eq.refl 97 | exact Eq.refl 122 | exact Eq.refl 48 | exact Eq.refl 57 | exact Eq.refl 43 | exact Eq.refl 47 | exact Eq.refl 33 | ((rename SymA _ => y9); exact Eq.trans (by rfl) (SymA.rfl y9)) | ((rename SymZ _ => y9); exact Eq.trans (by rfl) (SymZ.rfl y9))); (case i0 => first | decide | omega); (case i1 => first | decide | omega); (case i2 => first | decide | omega); (case is => with_unfolding_all rfl); (case it => intro _; with_unfolding_all rfl))))) | ((with_reducible show wpAny _ _ (exec _ _) _ _ _); first | ((with_reducible show wpAny _ _ (exec (Stmt.While (PySem.Expr.BoolOp _ _ _) _ [] _) _) _ _ _); ((k_dflt (refine whl_leaf ?_)))) | ((with_reducible show wpAny _ _ (exec (Stmt.While (PySem.Expr.Compare _ _ _ _) _ [] _) _) _ _ _); ((k_dflt (refine whl_leaf ?_)))) | ((with_reducible show wpAny _ _ (exec (Stmt.If _ _ _ _) _) _ _ _); (first | (((rename Newer _ _ => z9); (with_reducible refine if_newer z9 ?le ?_); (case le => k_dflt (first | exact Nat.le_refl _ | exact le_s1 | exact le_s2 | exact le_s3 | exact le_s4 | exact le_s5 | exact le_s6 | exact le_s7 | exact le_s8)))) | (refine wpAny_If ?_)))) | ((with_reducible show wpAny _ _ (compareOp _ _ _) _ _ _); first | ((with_reducible show wpAny _ _ (compareOp CmpOp.NotIn (Value.str _ _) (Value.str _ _)) _ _ _); (first | ((k_dflt (refine notin_lit (b := false) (rg_dash (by assumption)) ?_))) | (first | (k_dflt (refine notin_lit (b := true) (by decide +kernel) ?_)) | (k_dflt (refine notin_lit (b := false) (by decide +kernel) ?_))))) | ((with_reducible show wpAny _ _ (compareOp CmpOp.Gt (Value.str _ _) (Value.str _ _)) _ _ _); (k_dflt (refine gt_strF (rg_gt (by assumption)) ?_))) | ((with_reducible show wpAny _ _ (compareOp CmpOp.IsNot (Value.str _ _) (Value.str _ _)) _ _ _); ((k_dflt (refine isnot_old (by first | assumption | rfl | decide +kernel) ?ho ?_); (case ho => first | assumption | (simp only [Newer] at *; (try dsimp only at *); exact ⟨by omega, by omega⟩))))) | ((with_reducible show wpAny _ _ (compareOp CmpOp.NotEq (Value.str _ _) (Value.str _ _)) _ _ _); (refine ne_strT (by assumption) ?_)) | ((with_reducible show wpAny _ _ (compareOp CmpOp.Eq (Value.str _ _) (Value.str _ _)) _ _ _); (refine eq_strF (by assumption) ?_))) | ((with_reducible show wpAny _ _ (call _ _ _) _ _ _); first | ((with_reducible show wpAny _ _ (call (Value.builtin "str.find") _ _) _ _ _); (first | (first | (k_dflt (refine find_lit (r := 2) (rg_find1 (by assumption)) ?_)) | (k_dflt (refine find_lit (r := -1) (rg_find2 (by assumption)) ?_))) | (first | (k_dflt (refine find_lit (r := 2) (by decide +kernel) ?_)) | (k_dflt (refine find_lit (r := -1) (by decide +kernel) ?_))))) | ((with_reducible show wpAny _ _ (call (Value.builtin "re.Pattern.sub") _ _) _ _ _); (first | ((k_dflt (refine sub_rng (by assumption) (by ((first | assumption | exact Frag.In.keeps (by assumption) (Fr.keep (by assumption))))) _ _ _ _ (by (((rename News _ _ _ _ => N9); exact (N9 _ (by k_mem)).1))) (fun h9 t9 tk9 hx9 => ?_)); (((rename Fr _ _ _ _ => F9); (rename News _ _ _ _ => N9); (rename Ext _ _ => hx9); (have F8 := fr_ext F9 hx9); (have N8 := news_ext N9 hx9); clear F9 N9 hx9; (try dsimp only); (try k_fold))))) | ((k_dflt (first | (refine sub_up (by ((first | assumption | exact Frag.In.keeps (by assumption) (Fr.keep (by assumption))))) _ _ _ _ (by (((rename News _ _ _ _ => N9); exact (N9 _ (by k_mem)).1))) (fun h9 t9 tk9 hx9 => ?_)) | (refine sub_lo (by ((first | assumption | exact Frag.In.keeps (by assumption) (Fr.keep (by assumption))))) _ _ _ _ (by (((rename News _ _ _ _ => N9); exact (N9 _ (by k_mem)).1))) (fun h9 t9 tk9 hx9 => ?_)) | (refine sub_fig (by ((first | assumption | exact Frag.In.keeps (by assumption) (Fr.keep (by assumption))))) _ _ _ _ (by (((rename News _ _ _ _ => N9); exact (N9 _ (by k_mem)).1))) (fun h9 t9 tk9 hx9 => ?_)) | (refine sub_ps (by ((first | assumption | exact Frag.In.keeps (by assumption) (Fr.keep (by assumption))))) _ _ _ _ (by (((rename News _ _ _ _ => N9); exact (N9 _ (by k_mem)).1))) (fun h9 t9 tk9 hx9 => ?_)) | (refine sub_ne (by ((first | assumption | exact Frag.In.keeps (by assumption) (Fr.keep (by assumption))))) _ _ _ _ (by (((rename News _ _ _ _ => N9); exact (N9 _ (by k_mem)).1))) (fun h9 t9 tk9 hx9 => ?_))); (((rename Fr _ _ _ _ => F9); (rename News _ _ _ _ => N9); (rename Ext _ _ => hx9); (have F8 := fr_ext F9 hx9); (have N8 := news_ext N9 hx9); clear F9 N9 hx9; (try dsimp only); (try k_fold))))))) | ((with_reducible show wpAny _ _ (call (Value.builtin "str.join") _ _) _ _ _); (first | ((k_dflt (refine join_leaf (by k_asm) (by k_asm) (by assumption) (by assumption) (by assumption) (by assumption) (rg_jok (by assumption)) (rg_join (by assumption)) (Nat.le_of_ble_eq_true rfl) (fun s9 t9 F9 N9 G9 o9 => ?_)); obtain ⟨h9, g9, d9, tk9, os9⟩ := s9; dsimp only at F9 N9 G9 o9; subst o9; (try dsimp only))) | ((k_dflt (first | (refine join_leaf (r := Str.ofString "A-Z") (by k_asm) (by k_asm) (by assumption) (by assumption) (by assumption) (by assumption) (by decide +kernel) (by decide +kernel) (by decide) (fun s9 t9 F9 N9 G9 o9 => ?_)) | (refine join_leaf (r := Str.ofString "a-z") (by k_asm) (by k_asm) (by assumption) (by assumption) (by assumption) (by assumption) (by decide +kernel) (by decide +kernel) (by decide) (fun s9 t9 F9 N9 G9 o9 => ?_)) | (refine join_leaf (r := Str.ofString "0-9") (by k_asm) (by k_asm) (by assumption) (by assumption) (by assumption) (by assumption) (by decide +kernel) (by decide +kernel) (by decide) (fun s9 t9 F9 N9 G9 o9 => ?_))); obtain ⟨h9, g9, d9, tk9, os9⟩ := s9; dsimp only at F9 N9 G9 o9; subst o9; (try dsimp only))))) | ((with_reducible show wpAny _ _ (call (Value.builtin "list.append") _ _) _ _ _); ((k_dflt (refine' append_K ?k1 ?k2 ?k3 ?_ ?z; (case k1 => k_asm); (case k2 => k_asm); (case k3 => k_upd); (case z => size_fits)); intro h' F' N'; (try k_sweep)))) | ((with_reducible show wpAny _ _ (call (Value.builtin "str.replace") _ _) _ _ _); ((k_dflt (refine rep_none (by decide +kernel) ?_)))) | ((with_reducible show wpAny _ _ (call (Value.ref _) _ _) _ _ _); (first | (k_dflt (refine' append_B ?k1 ?k2 ?k3 ?k4 ?_ ?z; (case k1 => k_asm); (case k2 => k_asm); (case k3 => k_mem); (case k4 => k_upd); (case z => size_fits)); intro h9 F9 N9; (try k_sweep)) | (refine' c_escape ?cx ?ct ?ch ?cr ?cu _ _ ?cc ?_; (case cx => ((first | assumption | exact Frag.In.keeps (by assumption) (Fr.keep (by assumption))))); (case ct => ((first | assumption | exact Top.keeps (by assumption) (Fr.keep (by assumption))))); (case ch => with_unfolding_all rfl); (case cr => ((simp +zetaDelta only [depth_deeper, units_deeper]; omega))); (case cu => ((simp +zetaDelta only [depth_deeper, units_deeper]; omega))); (case cc => first | assumption | decide); intro h9 t9 tk9 hx9 hle9 hlt9; (try dsimp only at hle9); (((rename Fr _ _ _ _ => F9); (rename News _ _ _ _ => N9); (rename Ext _ _ => hx9); (have F8 := fr_ext F9 hx9); (have N8 := news_ext N9 hx9); clear F9 N9 hx9; (try dsimp only); (try k_fold)))))) | ((with_reducible show wpAny _ _ (call (Value.builtin "len") _ _) _ _ _); (first | (k_dflt (refine name_len (by omega) ?_)) | (k_dflt (refine len_lit (n := 1) (by decide) (by rfl) ?_)) | (k_dflt (refine len_lit (n := 2) (by decide) (by rfl) ?_)) | (k_dflt (refine len_lit (n := 3) (by decide) (by rfl) ?_)) | (k_dflt (refine len_lit (n := 4) (by decide) (by rfl) ?_)) | (k_dflt (refine len_lit (n := 5) (by decide) (by rfl) ?_)) | (k_dflt (refine len_lit (n := 6) (by decide) (by rfl) ?_))))) | ((with_reducible show wpAny _ _ (PySem.truthy (Value.str _ _)) _ _ _); (k_dflt (first | refine truthy_T (n := 2) rfl (by decide) ?_ | refine truthy_T (n := 0) rfl (by decide) ?_))) | ((with_reducible show wpAny _ _ (getMethod (Value.ref _) _ _) _ _ _); (k_dflt (refine getm_sub (by ((first | assumption | exact Frag.In.keeps (by assumption) (Fr.keep (by assumption))))) ?_))) | ((with_reducible show wpAny _ _ (execs [] _) _ _ _); ((with_reducible refine wpAny_execs_nil ?_))) | ((with_reducible show wpAny _ _ (execs (_ :: _) _) _ _ _); (((rename Newer _ _ => z9); (with_reducible refine execs_n z9 ?le ?_); (case le => (k_dflt (first | exact Nat.le_refl _ | exact le_s1 | exact le_s2 | exact le_s3 | exact le_s4 | exact le_s5 | exact le_s6 | exact le_s7 | exact le_s8))); clear z9; intro qk tk9 z9))) | ((with_reducible show wpAny _ _ (eval (PySem.Expr.Name _ _) _) _ _ _); ((k_dflt ((refine' nameX_L ?F ?v ?_ ?a ?b); (case F => k_asm); (case b => rfl); (case a => rfl); (case v => rfl))))) | ((with_reducible show wpAny _ _ (eval (PySem.Expr.GeneratorExp _ _ _ _) _) _ _ _); ((k_dflt (refine gen_leaf (by k_asm) (by k_asm) (by k_asm) (by rfl) (by rfl) (by rfl) (by rfl) (by with_unfolding_all rfl) (by decide) (by rfl) (by rfl) (by rfl) ?hroom ?_ (by intro _; with_unfolding_all rfl)); (case hroom => ((simp +zetaDelta only [depth_deeper, units_deeper]; omega)))))) | ((with_reducible show wpAny _ _ (pyIter (Value.ref _)) _ _ _); (((with_reducible show wpAny _ _ (pyIter (Value.ref _)) (fun it s₂ => LoopAtV _ _ _ _ _ _ _ _ _ it s₂) _ _); krs_unr))) | ((with_reducible show wpAny _ _ (callWith _ (Value.ref _) _ _ _) _ _ _); (first | (k_dflt (refine' callWith_app ?k1 ?k2 ?_; (case k1 => k_asm); (case k2 => k_mem))))) | ((with_reducible show wpAny _ _ (getAttr (Value.ref _) _ _) _ _ _); ((k_dflt (refine' app_N ?k1 ?k2 ?k3 ?_; (case k1 => k_asm); (case k2 => k_asm); (case k3 => k_mem)); intro x9 h9 F9 N9 l9; (try k_lt l9); (try k_sweep)))) | ((with_reducible show wpAny _ _ (joinParts _ _) _ _ _); (first | ((k_dflt (refine joinParts_lit (rg_fmt (by assumption)) (rg_len (by assumption)) ?_))) | ((k_dflt (first | (refine joinParts_lit (r := Str.ofString "[A-Z]") (by decide +kernel) (by decide +kernel) ?_) | (refine joinParts_lit (r := Str.ofString "[a-z]") (by decide +kernel) (by decide +kernel) ?_) | (refine joinParts_lit (r := Str.ofString "[0-9]") (by decide +kernel) (by decide +kernel) ?_) | (refine joinParts_lit (r := Str.ofString "[+/]") (by decide +kernel) (by decide +kernel) ?_) | (refine joinParts_lit (r := Str.ofString "[^=]") (by decide +kernel) (by decide +kernel) ?_)))) | (((rename Newer _ _ => z9); (with_reducible refine joinParts_newer z9 ?le ?_); (case le => k_dflt (first | exact Nat.le_refl _ | exact le_s1 | exact le_s2 | exact le_s3 | exact le_s4 | exact le_s5 | exact le_s6 | exact le_s7 | exact le_s8)))))) | ((with_reducible show _ ∧ _); (((with_reducible show AppAt _ _ _ ∧ _); k_dflt (refine ⟨app_at (by k_asm) (by k_mem), ?_⟩)))) | ((with_reducible show wpAny _ _ (storeName _ _ _) _ _ _); ((k_dflt (refine' store_f ?F ?N ?b ?a ?_; (case F => k_asm); (case N => k_asm); (case b => rfl); (case a => rfl); k_whole; intro m' h' F' N'; (try k_sweep))))) | (k_end; wrow_close) | walk1 | dsimp only | (leave1; try dsimp only)))
    (rename Fr _ _ _ _ => F9)
    (rename News _ _ _ _ => N9)
    exact hQ D vs nn ps' _ (fun b o hb e => F9.keep b o (hideAll_get _ e (by simpa using hb))) (N9 (114, _) (by k_mem)).1 hT (get_unhide (N9 (D, _) (by k_mem)).2.2 lx3) (N9 (D, _) (by k_mem)).1 hSt hG rfl
  case star0 =>
    intro x9 D tn n i fl ps' hlt hc hrest hT
    intro h1 g1 d1 k1 m ti nn F N zN hG lx1 lx2 lx3
    refine turn_of ?_
    (repeat' (first | ((try k_unmd); k_unfold; first | ((with_reducible (first | refine afterN_nil ?_ | refine afterN_next ?_ | refine afterN_ret ?_ | refine afterN_brk ?_)); intro z9) | (try dsimp only [List.cons_append, List.nil_append])) | ((with_reducible show wpAny _ _ (subscriptTail _ _ _ _) _ _ _); first | ((with_reducible show wpAny _ _ (subscriptTail (PySem.Expr.Name _ _) (PySem.Expr.Slice _ _ _ _) (Value.str _ _) (Value.ref _)) _ _ _); (((rename Fr _ _ _ _ => F9); (rename News _ _ _ _ => N9); k_dflt (refine' slice_to (s := ⟨_, _, _, _, _⟩) F9 N9 ?r ?_ ?hs ?ht ?hz; (case r => first | exact slice_abc | exact slice_a | exact slice_z); (case hs => with_unfolding_all rfl); (case ht => intro _; with_unfolding_all rfl); (case hz => size_fits)); intro h8 t8 k8 F8 N8; clear F9 N9; (try dsimp only)))) | ((with_reducible show wpAny _ _ (subscriptTail (PySem.Expr.Name _ _) (PySem.Expr.Name _ _) (Value.ref _) (Value.int _ _)) _ _ _); (k_dflt ((refine' item_news ?k1 ?k2 ?k3 ?k4 ?k5 ?_ ?k6); (case k1 => k_asm); (case k2 => k_mem); (case k3 => decide); (case k4 => decide); (case k5 => exact rfl); (case k6 => with_unfolding_all rfl)))) | ((with_reducible show wpAny _ _ (subscriptTail (PySem.Expr.Name _ _) (PySem.Expr.BinOp _ _ _ _) (Value.ref _) (Value.int _ _)) _ _ _); (k_dflt ((refine' item_news ?k1 ?k2 ?k3 ?k4 ?k5 ?_ ?k6); (case k1 => k_asm); (case k2 => k_mem); (case k3 => decide); (case k4 => decide); (case k5 => exact rfl); (case k6 => with_unfolding_all rfl)))) | ((with_reducible show wpAny _ _ (subscriptTail (PySem.Expr.Name _ _) (PySem.Expr.Name _ _) (Value.str _ _) (Value.int _ _)) _ _ _); (k_dflt ((refine' item_lit ?i0 ?i1 ?i2 ?hc ?_ ?is ?it); (case hc => first | assumption | exact Eq.refl 42 | exact Eq.refl 65 | exact Eq.refl 61 | exact Eq.refl 63 | exact Eq.refl 91 | exact Eq.refl 93 | exact Eq.refl 45 | exact Eq.refl 90 | exact Eq.refl 97 | exact Eq.refl 122 | exact Eq.refl 48 | exact Eq.refl 57 | exact Eq.refl 43 | exact Eq.refl 47 | exact Eq.refl 33 | ((rename SymA _ => y9); exact Eq.trans (by rfl) (SymA.rfl y9)) | ((rename SymZ _ => y9); exact Eq.trans (by rfl) (SymZ.rfl y9))); (case i0 => first | decide | omega); (case i1 => first | decide | omega); (case i2 => first | decide | omega); (case is => with_unfolding_all rfl); (case it => intro _; with_unfolding_all rfl))))) | ((with_reducible show wpAny _ _ (exec _ _) _ _ _); first | ((with_reducible show wpAny _ _ (exec (Stmt.While (PySem.Expr.BoolOp _ _ _) _ [] _) _) _ _ _); ((k_dflt (refine whl_leaf ?_)))) | ((with_reducible show wpAny _ _ (exec (Stmt.While (PySem.Expr.Compare _ _ _ _) _ [] _) _) _ _ _); ((k_dflt (refine whl_leaf ?_)))) | ((with_reducible show wpAny _ _ (exec (Stmt.If _ _ _ _) _) _ _ _); (first | (((rename Newer _ _ => z9); (with_reducible refine if_newer z9 ?le ?_); (case le => k_dflt (first | exact Nat.le_refl _ | exact le_s1 | exact le_s2 | exact le_s3 | exact le_s4 | exact le_s5 | exact le_s6 | exact le_s7 | exact le_s8)))) | (refine wpAny_If ?_)))) | ((with_reducible show wpAny _ _ (compareOp _ _ _) _ _ _); first | ((with_reducible show wpAny _ _ (compareOp CmpOp.NotIn (Value.str _ _) (Value.str _ _)) _ _ _); (first | ((k_dflt (refine notin_lit (b := false) (rg_dash (by assumption)) ?_))) | (first | (k_dflt (refine notin_lit (b := true) (by decide +kernel) ?_)) | (k_dflt (refine notin_lit (b := false) (by decide +kernel) ?_))))) | ((with_reducible show wpAny _ _ (compareOp CmpOp.Gt (Value.str _ _) (Value.str _ _)) _ _ _); (k_dflt (refine gt_strF (rg_gt (by assumption)) ?_))) | ((with_reducible show wpAny _ _ (compareOp CmpOp.IsNot (Value.str _ _) (Value.str _ _)) _ _ _); ((k_dflt (refine isnot_old (by first | assumption | rfl | decide +kernel) ?ho ?_); (case ho => first | assumption | (simp only [Newer] at *; (try dsimp only at *); exact ⟨by omega, by omega⟩))))) | ((with_reducible show wpAny _ _ (compareOp CmpOp.NotEq (Value.str _ _) (Value.str _ _)) _ _ _); (refine ne_strT (by assumption) ?_)) | ((with_reducible show wpAny _ _ (compareOp CmpOp.Eq (Value.str _ _) (Value.str _ _)) _ _ _); (refine eq_strF (by assumption) ?_))) | ((with_reducible show wpAny _ _ (call _ _ _) _ _ _); first | ((with_reducible show wpAny _ _ (call (Value.builtin "str.find") _ _) _ _ _); (first | (first | (k_dflt (refine find_lit (r := 2) (rg_find1 (by assumption)) ?_)) | (k_dflt (refine find_lit (r := -1) (rg_find2 (by assumption)) ?_))) | (first | (k_dflt (refine find_lit (r := 2) (by decide +kernel) ?_)) | (k_dflt (refine find_lit (r := -1) (by decide +kernel) ?_))))) | ((with_reducible show wpAny _ _ (call (Value.builtin "re.Pattern.sub") _ _) _ _ _); (first | ((k_dflt (refine sub_rng (by assumption) (by ((first | assumption | exact Frag.In.keeps (by assumption) (Fr.keep (by assumption))))) _ _ _ _ (by (((rename News _ _ _ _ => N9); exact (N9 _ (by k_mem)).1))) (fun h9 t9 tk9 hx9 => ?_)); (((rename Fr _ _ _ _ => F9); (rename News _ _ _ _ => N9); (rename Ext _ _ => hx9); (have F8 := fr_ext F9 hx9); (have N8 := news_ext N9 hx9); clear F9 N9 hx9; (try dsimp only); (try k_fold))))) | ((k_dflt (first | (refine sub_up (by ((first | assumption | exact Frag.In.keeps (by assumption) (Fr.keep (by assumption))))) _ _ _ _ (by (((rename News _ _ _ _ => N9); exact (N9 _ (by k_mem)).1))) (fun h9 t9 tk9 hx9 => ?_)) | (refine sub_lo (by ((first | assumption | exact Frag.In.keeps (by assumption) (Fr.keep (by assumption))))) _ _ _ _ (by (((rename News _ _ _ _ => N9); exact (N9 _ (by k_mem)).1))) (fun h9 t9 tk9 hx9 => ?_)) | (refine sub_fig (by ((first | assumption | exact Frag.In.keeps (by assumption) (Fr.keep (by assumption))))) _ _ _ _ (by (((rename News _ _ _ _ => N9); exact (N9 _ (by k_mem)).1))) (fun h9 t9 tk9 hx9 => ?_)) | (refine sub_ps (by ((first | assumption | exact Frag.In.keeps (by assumption) (Fr.keep (by assumption))))) _ _ _ _ (by (((rename News _ _ _ _ => N9); exact (N9 _ (by k_mem)).1))) (fun h9 t9 tk9 hx9 => ?_)) | (refine sub_ne (by ((first | assumption | exact Frag.In.keeps (by assumption) (Fr.keep (by assumption))))) _ _ _ _ (by (((rename News _ _ _ _ => N9); exact (N9 _ (by k_mem)).1))) (fun h9 t9 tk9 hx9 => ?_))); (((rename Fr _ _ _ _ => F9); (rename News _ _ _ _ => N9); (rename Ext _ _ => hx9); (have F8 := fr_ext F9 hx9); (have N8 := news_ext N9 hx9); clear F9 N9 hx9; (try dsimp only); (try k_fold))))))) | ((with_reducible show wpAny _ _ (call (Value.builtin "str.join") _ _) _ _ _); (first | ((k_dflt (refine join_leaf (by k_asm) (by k_asm) (by assumption) (by assumption) (by assumption) (by assumption) (rg_jok (by assumption)) (rg_join (by assumption)) (Nat.le_of_ble_eq_true rfl) (fun s9 t9 F9 N9 G9 o9 => ?_)); obtain ⟨h9, g9, d9, tk9, os9⟩ := s9; dsimp only at F9 N9 G9 o9; subst o9; (try dsimp only))) | ((k_dflt (first | (refine join_leaf (r := Str.ofString "A-Z") (by k_asm) (by k_asm) (by assumption) (by assumption) (by assumption) (by assumption) (by decide +kernel) (by decide +kernel) (by decide) (fun s9 t9 F9 N9 G9 o9 => ?_)) | (refine join_leaf (r := Str.ofString "a-z") (by k_asm) (by k_asm) (by assumption) (by assumption) (by assumption) (by assumption) (by decide +kernel) (by decide +kernel) (by decide) (fun s9 t9 F9 N9 G9 o9 => ?_)) | (refine join_leaf (r := Str.ofString "0-9") (by k_asm) (by k_asm) (by assumption) (by assumption) (by assumption) (by assumption) (by decide +kernel) (by decide +kernel) (by decide) (fun s9 t9 F9 N9 G9 o9 => ?_))); obtain ⟨h9, g9, d9, tk9, os9⟩ := s9; dsimp only at F9 N9 G9 o9; subst o9; (try dsimp only))))) | ((with_reducible show wpAny _ _ (call (Value.builtin "list.append") _ _) _ _ _); ((k_dflt (refine' append_K ?k1 ?k2 ?k3 ?_ ?z; (case k1 => k_asm); (case k2 => k_asm); (case k3 => k_upd); (case z => size_fits)); intro h' F' N'; (try k_sweep)))) | ((with_reducible show wpAny _ _ (call (Value.builtin "str.replace") _ _) _ _ _); ((k_dflt (refine rep_none (by decide +kernel) ?_)))) | ((with_reducible show wpAny _ _ (call (Value.ref _) _ _) _ _ _); (first | (k_dflt (refine' append_B ?k1 ?k2 ?k3 ?k4 ?_ ?z; (case k1 => k_asm); (case k2 => k_asm); (case k3 => k_mem); (case k4 => k_upd); (case z => size_fits)); intro h9 F9 N9; (try k_sweep)) | (refine' c_escape ?cx ?ct ?ch ?cr ?cu _ _ ?cc ?_; (case cx => ((first | assumption | exact Frag.In.keeps (by assumption) (Fr.keep (by assumption))))); (case ct => ((first | assumption | exact Top.keeps (by assumption) (Fr.keep (by assumption))))); (case ch => with_unfolding_all rfl); (case cr => ((simp +zetaDelta only [depth_deeper, units_deeper]; omega))); (case cu => ((simp +zetaDelta only [depth_deeper, units_deeper]; omega))); (case cc => first | assumption | decide); intro h9 t9 tk9 hx9 hle9 hlt9; (try dsimp only at hle9); (((rename Fr _ _ _ _ => F9); (rename News _ _ _ _ => N9); (rename Ext _ _ => hx9); (have F8 := fr_ext F9 hx9); (have N8 := news_ext N9 hx9); clear F9 N9 hx9; (try dsimp only); (try k_fold)))))) | ((with_reducible show wpAny _ _ (call (Value.builtin "len") _ _) _ _ _); (first | (k_dflt (refine name_len (by omega) ?_)) | (k_dflt (refine len_lit (n := 1) (by decide) (by rfl) ?_)) | (k_dflt (refine len_lit (n := 2) (by decide) (by rfl) ?_)) | (k_dflt (refine len_lit (n := 3) (by decide) (by rfl) ?_)) | (k_dflt (refine len_lit (n := 4) (by decide) (by rfl) ?_)) | (k_dflt (refine len_lit (n := 5) (by decide) (by rfl) ?_)) | (k_dflt (refine len_lit (n := 6) (by decide) (by rfl) ?_))))) | ((with_reducible show wpAny _ _ (PySem.truthy (Value.str _ _)) _ _ _); (k_dflt (first | refine truthy_T (n := 2) rfl (by decide) ?_ | refine truthy_T (n := 0) rfl (by decide) ?_))) | ((with_reducible show wpAny _ _ (getMethod (Value.ref _) _ _) _ _ _); (k_dflt (refine getm_sub (by ((first | assumption | exact Frag.In.keeps (by assumption) (Fr.keep (by assumption))))) ?_))) | ((with_reducible show wpAny _ _ (execs [] _) _ _ _); ((with_reducible refine wpAny_execs_nil ?_))) | ((with_reducible show wpAny _ _ (execs (_ :: _) _) _ _ _); (((rename Newer _ _ => z9); (with_reducible refine execs_n z9 ?le ?_); (case le => (k_dflt (first | exact Nat.le_refl _ | exact le_s1 | exact le_s2 | exact le_s3 | exact le_s4 | exact le_s5 | exact le_s6 | exact le_s7 | exact le_s8))); clear z9; intro qk tk9 z9))) | ((with_reducible show wpAny _ _ (eval (PySem.Expr.Name _ _) _) _ _ _); ((k_dflt ((refine' nameX_L ?F ?v ?_ ?a ?b); (case F => k_asm); (case b => rfl); (case a => rfl); (case v => rfl))))) | ((with_reducible show wpAny _ _ (eval (PySem.Expr.GeneratorExp _ _ _ _) _) _ _ _); ((k_dflt (refine gen_leaf (by k_asm) (by k_asm) (by k_asm) (by rfl) (by rfl) (by rfl) (by rfl) (by with_unfolding_all rfl) (by decide) (by rfl) (by rfl) (by rfl) ?hroom ?_ (by intro _; with_unfolding_all rfl)); (case hroom => ((simp +zetaDelta only [depth_deeper, units_deeper]; omega)))))) | ((with_reducible show wpAny _ _ (pyIter (Value.ref _)) _ _ _); (((with_reducible show wpAny _ _ (pyIter (Value.ref _)) (fun it s₂ => LoopAtV _ _ _ _ _ _ _ _ _ it s₂) _ _); krs_unr))) | ((with_reducible show wpAny _ _ (callWith _ (Value.ref _) _ _ _) _ _ _); (first | (k_dflt (refine' callWith_app ?k1 ?k2 ?_; (case k1 => k_asm); (case k2 => k_mem))))) | ((with_reducible show wpAny _ _ (getAttr (Value.ref _) _ _) _ _ _); ((k_dflt (refine' app_N ?k1 ?k2 ?k3 ?_; (case k1 => k_asm); (case k2 => k_asm); (case k3 => k_mem)); intro x9 h9 F9 N9 l9; (try k_lt l9); (try k_sweep)))) | ((with_reducible show wpAny _ _ (joinParts _ _) _ _ _); (first | ((k_dflt (refine joinParts_lit (rg_fmt (by assumption)) (rg_len (by assumption)) ?_))) | ((k_dflt (first | (refine joinParts_lit (r := Str.ofString "[A-Z]") (by decide +kernel) (by decide +kernel) ?_) | (refine joinParts_lit (r := Str.ofString "[a-z]") (by decide +kernel) (by decide +kernel) ?_) | (refine joinParts_lit (r := Str.ofString "[0-9]") (by decide +kernel) (by decide +kernel) ?_) | (refine joinParts_lit (r := Str.ofString "[+/]") (by decide +kernel) (by decide +kernel) ?_) | (refine joinParts_lit (r := Str.ofString "[^=]") (by decide +kernel) (by decide +kernel) ?_)))) | (((rename Newer _ _ => z9); (with_reducible refine joinParts_newer z9 ?le ?_); (case le => k_dflt (first | exact Nat.le_refl _ | exact le_s1 | exact le_s2 | exact le_s3 | exact le_s4 | exact le_s5 | exact le_s6 | exact le_s7 | exact le_s8)))))) | ((with_reducible show _ ∧ _); (((with_reducible show AppAt _ _ _ ∧ _); k_dflt (refine ⟨app_at (by k_asm) (by k_mem), ?_⟩)))) | ((with_reducible show wpAny _ _ (storeName _ _ _) _ _ _); ((k_dflt (refine' store_f ?F ?N ?b ?a ?_; (case F => k_asm); (case N => k_asm); (case b => rfl); (case a => rfl); k_whole; intro m' h' F' N'; (try k_sweep))))) | (k_end; wrow_close) | walk1 | dsimp only | (leave1; try dsimp only)))
    (rename Fr _ _ _ _ => F9)
    (rename News _ _ _ _ => N9)
    (rename Newer _ _ => z9)
    simp only [List.push_toArray, List.nil_append, List.cons_append] at N9
    exact trEnd_of hrest (TrSt.intro (vs := [.str (Str.ofString "many") ts]) F9 N9 rfl rfl rfl rfl rfl rfl rfl (by first | rfl | omega) rfl (by k_mem) (by k_mem) (by k_mem) ⟨z9.1, by have := z9.2; omega⟩ hG (.cons _ _ .nil) (old_many) hT (by exact Nat.succ_le_succ (Nat.zero_le _)))
  case star1 =>
    intro x9 D tn n i fl ps' x t0 hlt hc hx hO hv hrest hT
    intro h1 g1 d1 k1 m ti nn F N zN hG lx1 lx2 lx3
    refine turn_of ?_
    (repeat' (first | ((try k_unmd); k_unfold; first | ((with_reducible (first | refine afterN_nil ?_ | refine afterN_next ?_ | refine afterN_ret ?_ | refine afterN_brk ?_)); intro z9) | (try dsimp only [List.cons_append, List.nil_append])) | ((with_reducible show wpAny _ _ (subscriptTail _ _ _ _) _ _ _); first | ((with_reducible show wpAny _ _ (subscriptTail (PySem.Expr.Name _ _) (PySem.Expr.Slice _ _ _ _) (Value.str _ _) (Value.ref _)) _ _ _); (((rename Fr _ _ _ _ => F9); (rename News _ _ _ _ => N9); k_dflt (refine' slice_to (s := ⟨_, _, _, _, _⟩) F9 N9 ?r ?_ ?hs ?ht ?hz; (case r => first | exact slice_abc | exact slice_a | exact slice_z); (case hs => with_unfolding_all rfl); (case ht => intro _; with_unfolding_all rfl); (case hz => size_fits)); intro h8 t8 k8 F8 N8; clear F9 N9; (try dsimp only)))) | ((with_reducible show wpAny _ _ (subscriptTail (PySem.Expr.Name _ _) (PySem.Expr.Name _ _) (Value.ref _) (Value.int _ _)) _ _ _); (k_dflt ((refine' item_news ?k1 ?k2 ?k3 ?k4 ?k5 ?_ ?k6); (case k1 => k_asm); (case k2 => k_mem); (case k3 => decide); (case k4 => decide); (case k5 => exact rfl); (case k6 => with_unfolding_all rfl)))) | ((with_reducible show wpAny _ _ (subscriptTail (PySem.Expr.Name _ _) (PySem.Expr.BinOp _ _ _ _) (Value.ref _) (Value.int _ _)) _ _ _); (k_dflt ((refine' item_news ?k1 ?k2 ?k3 ?k4 ?k5 ?_ ?k6); (case k1 => k_asm); (case k2 => k_mem); (case k3 => decide); (case k4 => decide); (case k5 => exact rfl); (case k6 => with_unfolding_all rfl)))) | ((with_reducible show wpAny _ _ (subscriptTail (PySem.Expr.Name _ _) (PySem.Expr.Name _ _) (Value.str _ _) (Value.int _ _)) _ _ _); (k_dflt ((refine' item_lit ?i0 ?i1 ?i2 ?hc ?_ ?is ?it); (case hc => first | assumption | exact Eq.refl 42 | exact Eq.refl 65 | exact Eq.refl 61 | exact Eq.refl 63 | exact Eq.refl 91 | exact Eq.refl 93 | exact Eq.refl 45 | exact Eq.refl 90 | exact Eq.refl 97 | exact Eq.refl 122 | exact Eq.refl 48 | exact Eq.refl 57 | exact Eq.refl 43 | exact Eq.refl 47 | exact Eq.refl 33 | ((rename SymA _ => y9); exact Eq.trans (by rfl) (SymA.rfl y9)) | ((rename SymZ _ => y9); exact Eq.trans (by rfl) (SymZ.rfl y9))); (case i0 => first | decide | omega); (case i1 => first | decide | omega); (case i2 => first | decide | omega); (case is => with_unfolding_all rfl); (case it => intro _; with_unfolding_all rfl))))) | ((with_reducible show wpAny _ _ (exec _ _) _ _ _); first | ((with_reducible show wpAny _ _ (exec (Stmt.While (PySem.Expr.BoolOp _ _ _) _ [] _) _) _ _ _); ((k_dflt (refine whl_leaf ?_)))) | ((with_reducible show wpAny _ _ (exec (Stmt.While (PySem.Expr.Compare _ _ _ _) _ [] _) _) _ _ _); ((k_dflt (refine whl_leaf ?_)))) | ((with_reducible show wpAny _ _ (exec (Stmt.If _ _ _ _) _) _ _ _); (first | (((rename Newer _ _ => z9); (with_reducible refine if_newer z9 ?le ?_); (case le => k_dflt (first | exact Nat.le_refl _ | exact le_s1 | exact le_s2 | exact le_s3 | exact le_s4 | exact le_s5 | exact le_s6 | exact le_s7 | exact le_s8)))) | (refine wpAny_If ?_)))) | ((with_reducible show wpAny _ _ (compareOp _ _ _) _ _ _); first | ((with_reducible show wpAny _ _ (compareOp CmpOp.NotIn (Value.str _ _) (Value.str _ _)) _ _ _); (first | ((k_dflt (refine notin_lit (b := false) (rg_dash (by assumption)) ?_))) | (first | (k_dflt (refine notin_lit (b := true) (by decide +kernel) ?_)) | (k_dflt (refine notin_lit (b := false) (by decide +kernel) ?_))))) | ((with_reducible show wpAny _ _ (compareOp CmpOp.Gt (Value.str _ _) (Value.str _ _)) _ _ _); (k_dflt (refine gt_strF (rg_gt (by assumption)) ?_))) | ((with_reducible show wpAny _ _ (compareOp CmpOp.IsNot (Value.str _ _) (Value.str _ _)) _ _ _); ((k_dflt (refine isnot_old (by first | assumption | rfl | decide +kernel) ?ho ?_); (case ho => first | assumption | (simp only [Newer] at *; (try dsimp only at *); exact ⟨by omega, by omega⟩))))) | ((with_reducible show wpAny _ _ (compareOp CmpOp.NotEq (Value.str _ _) (Value.str _ _)) _ _ _); (refine ne_strT (by assumption) ?_)) | ((with_reducible show wpAny _ _ (compareOp CmpOp.Eq (Value.str _ _) (Value.str _ _)) _ _ _); (refine eq_strF (by assumption) ?_))) | ((with_reducible show wpAny _ _ (call _ _ _) _ _ _); first | ((with_reducible show wpAny _ _ (call (Value.builtin "str.find") _ _) _ _ _); (first | (first | (k_dflt (refine find_lit (r := 2) (rg_find1 (by assumption)) ?_)) | (k_dflt (refine find_lit (r := -1) (rg_find2 (by assumption)) ?_))) | (first | (k_dflt (refine find_lit (r := 2) (by decide +kernel) ?_)) | (k_dflt (refine find_lit (r := -1) (by decide +kernel) ?_))))) | ((with_reducible show wpAny _ _ (call (Value.builtin "re.Pattern.sub") _ _) _ _ _); (first | ((k_dflt (refine sub_rng (by assumption) (by ((first | assumption | exact Frag.In.keeps (by assumption) (Fr.keep (by assumption))))) _ _ _ _ (by (((rename News _ _ _ _ => N9); exact (N9 _ (by k_mem)).1))) (fun h9 t9 tk9 hx9 => ?_)); (((rename Fr _ _ _ _ => F9); (rename News _ _ _ _ => N9); (rename Ext _ _ => hx9); (have F8 := fr_ext F9 hx9); (have N8 := news_ext N9 hx9); clear F9 N9 hx9; (try dsimp only); (try k_fold))))) | ((k_dflt (first | (refine sub_up (by ((first | assumption | exact Frag.In.keeps (by assumption) (Fr.keep (by assumption))))) _ _ _ _ (by (((rename News _ _ _ _ => N9); exact (N9 _ (by k_mem)).1))) (fun h9 t9 tk9 hx9 => ?_)) | (refine sub_lo (by ((first | assumption | exact Frag.In.keeps (by assumption) (Fr.keep (by assumption))))) _ _ _ _ (by (((rename News _ _ _ _ => N9); exact (N9 _ (by k_mem)).1))) (fun h9 t9 tk9 hx9 => ?_)) | (refine sub_fig (by ((first | assumption | exact Frag.In.keeps (by assumption) (Fr.keep (by assumption))))) _ _ _ _ (by (((rename News _ _ _ _ => N9); exact (N9 _ (by k_mem)).1))) (fun h9 t9 tk9 hx9 => ?_)) | (refine sub_ps (by ((first | assumption | exact Frag.In.keeps (by assumption) (Fr.keep (by assumption))))) _ _ _ _ (by (((rename News _ _ _ _ => N9); exact (N9 _ (by k_mem)).1))) (fun h9 t9 tk9 hx9 => ?_)) | (refine sub_ne (by ((first | assumption | exact Frag.In.keeps (by assumption) (Fr.keep (by assumption))))) _ _ _ _ (by (((rename News _ _ _ _ => N9); exact (N9 _ (by k_mem)).1))) (fun h9 t9 tk9 hx9 => ?_))); (((rename Fr _ _ _ _ => F9); (rename News _ _ _ _ => N9); (rename Ext _ _ => hx9); (have F8 := fr_ext F9 hx9); (have N8 := news_ext N9 hx9); clear F9 N9 hx9; (try dsimp only); (try k_fold))))))) | ((with_reducible show wpAny _ _ (call (Value.builtin "str.join") _ _) _ _ _); (first | ((k_dflt (refine join_leaf (by k_asm) (by k_asm) (by assumption) (by assumption) (by assumption) (by assumption) (rg_jok (by assumption)) (rg_join (by assumption)) (Nat.le_of_ble_eq_true rfl) (fun s9 t9 F9 N9 G9 o9 => ?_)); obtain ⟨h9, g9, d9, tk9, os9⟩ := s9; dsimp only at F9 N9 G9 o9; subst o9; (try dsimp only))) | ((k_dflt (first | (refine join_leaf (r := Str.ofString "A-Z") (by k_asm) (by k_asm) (by assumption) (by assumption) (by assumption) (by assumption) (by decide +kernel) (by decide +kernel) (by decide) (fun s9 t9 F9 N9 G9 o9 => ?_)) | (refine join_leaf (r := Str.ofString "a-z") (by k_asm) (by k_asm) (by assumption) (by assumption) (by assumption) (by assumption) (by decide +kernel) (by decide +kernel) (by decide) (fun s9 t9 F9 N9 G9 o9 => ?_)) | (refine join_leaf (r := Str.ofString "0-9") (by k_asm) (by k_asm) (by assumption) (by assumption) (by assumption) (by assumption) (by decide +kernel) (by decide +kernel) (by decide) (fun s9 t9 F9 N9 G9 o9 => ?_))); obtain ⟨h9, g9, d9, tk9, os9⟩ := s9; dsimp only at F9 N9 G9 o9; subst o9; (try dsimp only))))) | ((with_reducible show wpAny _ _ (call (Value.builtin "list.append") _ _) _ _ _); ((k_dflt (refine' append_K ?k1 ?k2 ?k3 ?_ ?z; (case k1 => k_asm); (case k2 => k_asm); (case k3 => k_upd); (case z => size_fits)); intro h' F' N'; (try k_sweep)))) | ((with_reducible show wpAny _ _ (call (Value.builtin "str.replace") _ _) _ _ _); ((k_dflt (refine rep_none (by decide +kernel) ?_)))) | ((with_reducible show wpAny _ _ (call (Value.ref _) _ _) _ _ _); (first | (k_dflt (refine' append_B ?k1 ?k2 ?k3 ?k4 ?_ ?z; (case k1 => k_asm); (case k2 => k_asm); (case k3 => k_mem); (case k4 => k_upd); (case z => size_fits)); intro h9 F9 N9; (try k_sweep)) | (refine' c_escape ?cx ?ct ?ch ?cr ?cu _ _ ?cc ?_; (case cx => ((first | assumption | exact Frag.In.keeps (by assumption) (Fr.keep (by assumption))))); (case ct => ((first | assumption | exact Top.keeps (by assumption) (Fr.keep (by assumption))))); (case ch => with_unfolding_all rfl); (case cr => ((simp +zetaDelta only [depth_deeper, units_deeper]; omega))); (case cu => ((simp +zetaDelta only [depth_deeper, units_deeper]; omega))); (case cc => first | assumption | decide); intro h9 t9 tk9 hx9 hle9 hlt9; (try dsimp only at hle9); (((rename Fr _ _ _ _ => F9); (rename News _ _ _ _ => N9); (rename Ext _ _ => hx9); (have F8 := fr_ext F9 hx9); (have N8 := news_ext N9 hx9); clear F9 N9 hx9; (try dsimp only); (try k_fold)))))) | ((with_reducible show wpAny _ _ (call (Value.builtin "len") _ _) _ _ _); (first | (k_dflt (refine name_len (by omega) ?_)) | (k_dflt (refine len_lit (n := 1) (by decide) (by rfl) ?_)) | (k_dflt (refine len_lit (n := 2) (by decide) (by rfl) ?_)) | (k_dflt (refine len_lit (n := 3) (by decide) (by rfl) ?_)) | (k_dflt (refine len_lit (n := 4) (by decide) (by rfl) ?_)) | (k_dflt (refine len_lit (n := 5) (by decide) (by rfl) ?_)) | (k_dflt (refine len_lit (n := 6) (by decide) (by rfl) ?_))))) | ((with_reducible show wpAny _ _ (PySem.truthy (Value.str _ _)) _ _ _); (k_dflt (first | refine truthy_T (n := 2) rfl (by decide) ?_ | refine truthy_T (n := 0) rfl (by decide) ?_))) | ((with_reducible show wpAny _ _ (getMethod (Value.ref _) _ _) _ _ _); (k_dflt (refine getm_sub (by ((first | assumption | exact Frag.In.keeps (by assumption) (Fr.keep (by assumption))))) ?_))) | ((with_reducible show wpAny _ _ (execs [] _) _ _ _); ((with_reducible refine wpAny_execs_nil ?_))) | ((with_reducible show wpAny _ _ (execs (_ :: _) _) _ _ _); (((rename Newer _ _ => z9); (with_reducible refine execs_n z9 ?le ?_); (case le => (k_dflt (first | exact Nat.le_refl _ | exact le_s1 | exact le_s2 | exact le_s3 | exact le_s4 | exact le_s5 | exact le_s6 | exact le_s7 | exact le_s8))); clear z9; intro qk tk9 z9))) | ((with_reducible show wpAny _ _ (eval (PySem.Expr.Name _ _) _) _ _ _); ((k_dflt ((refine' nameX_L ?F ?v ?_ ?a ?b); (case F => k_asm); (case b => rfl); (case a => rfl); (case v => rfl))))) | ((with_reducible show wpAny _ _ (eval (PySem.Expr.GeneratorExp _ _ _ _) _) _ _ _); ((k_dflt (refine gen_leaf (by k_asm) (by k_asm) (by k_asm) (by rfl) (by rfl) (by rfl) (by rfl) (by with_unfolding_all rfl) (by decide) (by rfl) (by rfl) (by rfl) ?hroom ?_ (by intro _; with_unfolding_all rfl)); (case hroom => ((simp +zetaDelta only [depth_deeper, units_deeper]; omega)))))) | ((with_reducible show wpAny _ _ (pyIter (Value.ref _)) _ _ _); (((with_reducible show wpAny _ _ (pyIter (Value.ref _)) (fun it s₂ => LoopAtV _ _ _ _ _ _ _ _ _ it s₂) _ _); krs_unr))) | ((with_reducible show wpAny _ _ (callWith _ (Value.ref _) _ _ _) _ _ _); (first | (k_dflt (refine' callWith_app ?k1 ?k2 ?_; (case k1 => k_asm); (case k2 => k_mem))))) | ((with_reducible show wpAny _ _ (getAttr (Value.ref _) _ _) _ _ _); ((k_dflt (refine' app_N ?k1 ?k2 ?k3 ?_; (case k1 => k_asm); (case k2 => k_asm); (case k3 => k_mem)); intro x9 h9 F9 N9 l9; (try k_lt l9); (try k_sweep)))) | ((with_reducible show wpAny _ _ (joinParts _ _) _ _ _); (first | ((k_dflt (refine joinParts_lit (rg_fmt (by assumption)) (rg_len (by assumption)) ?_))) | ((k_dflt (first | (refine joinParts_lit (r := Str.ofString "[A-Z]") (by decide +kernel) (by decide +kernel) ?_) | (refine joinParts_lit (r := Str.ofString "[a-z]") (by decide +kernel) (by decide +kernel) ?_) | (refine joinParts_lit (r := Str.ofString "[0-9]") (by decide +kernel) (by decide +kernel) ?_) | (refine joinParts_lit (r := Str.ofString "[+/]") (by decide +kernel) (by decide +kernel) ?_) | (refine joinParts_lit (r := Str.ofString "[^=]") (by decide +kernel) (by decide +kernel) ?_)))) | (((rename Newer _ _ => z9); (with_reducible refine joinParts_newer z9 ?le ?_); (case le => k_dflt (first | exact Nat.le_refl _ | exact le_s1 | exact le_s2 | exact le_s3 | exact le_s4 | exact le_s5 | exact le_s6 | exact le_s7 | exact le_s8)))))) | ((with_reducible show _ ∧ _); (((with_reducible show AppAt _ _ _ ∧ _); k_dflt (refine ⟨app_at (by k_asm) (by k_mem), ?_⟩)))) | ((with_reducible show wpAny _ _ (storeName _ _ _) _ _ _); ((k_dflt (refine' store_f ?F ?N ?b ?a ?_; (case F => k_asm); (case N => k_asm); (case b => rfl); (case a => rfl); k_whole; intro m' h' F' N'; (try k_sweep))))) | (k_end; wrow_close) | walk1 | dsimp only | (leave1; try dsimp only)))
    (rename Fr _ _ _ _ => F9)
    (rename News _ _ _ _ => N9)
    (rename Newer _ _ => z9)
    simp only [List.push_toArray, List.nil_append, List.cons_append] at N9
    exact trEnd_of hrest (TrSt.intro (vs := [.str x t0] ++ [.str (Str.ofString "many") ts]) F9 N9 rfl rfl rfl rfl rfl rfl rfl (by first | rfl | omega) rfl (by k_mem) (by k_mem) (by k_mem) ⟨z9.1, by have := z9.2; omega⟩ hG (.cons _ _ (.cons _ _ .nil)) (old_push) hT (by exact Nat.succ_le_succ hv))
  case star2 =>
    intro x9 D tn n i fl ps' y u0 x t0 hlt hc hx hO hv hrest hT
    intro h1 g1 d1 k1 m ti nn F N zN hG lx1 lx2 lx3
    refine turn_of ?_
    (repeat' (first | ((try k_unmd); k_unfold; first | ((with_reducible (first | refine afterN_nil ?_ | refine afterN_next ?_ | refine afterN_ret ?_ | refine afterN_brk ?_)); intro z9) | (try dsimp only [List.cons_append, List.nil_append])) | ((with_reducible show wpAny _ _ (subscriptTail _ _ _ _) _ _ _); first | ((with_reducible show wpAny _ _ (subscriptTail (PySem.Expr.Name _ _) (PySem.Expr.Slice _ _ _ _) (Value.str _ _) (Value.ref _)) _ _ _); (((rename Fr _ _ _ _ => F9); (rename News _ _ _ _ => N9); k_dflt (refine' slice_to (s := ⟨_, _, _, _, _⟩) F9 N9 ?r ?_ ?hs ?ht ?hz; (case r => first | exact slice_abc | exact slice_a | exact slice_z); (case hs => with_unfolding_all rfl); (case ht => intro _; with_unfolding_all rfl); (case hz => size_fits)); intro h8 t8 k8 F8 N8; clear F9 N9; (try dsimp only)))) | ((with_reducible show wpAny _ _ (subscriptTail (PySem.Expr.Name _ _) (PySem.Expr.Name _ _) (Value.ref _) (Value.int _ _)) _ _ _); (k_dflt ((refine' item_news ?k1 ?k2 ?k3 ?k4 ?k5 ?_ ?k6); (case k1 => k_asm); (case k2 => k_mem); (case k3 => decide); (case k4 => decide); (case k5 => exact rfl); (case k6 => with_unfolding_all rfl)))) | ((with_reducible show wpAny _ _ (subscriptTail (PySem.Expr.Name _ _) (PySem.Expr.BinOp _ _ _ _) (Value.ref _) (Value.int _ _)) _ _ _); (k_dflt ((refine' item_news ?k1 ?k2 ?k3 ?k4 ?k5 ?_ ?k6); (case k1 => k_asm); (case k2 => k_mem); (case k3 => decide); (case k4 => decide); (case k5 => exact rfl); (case k6 => with_unfolding_all rfl)))) | ((with_reducible show wpAny _ _ (subscriptTail (PySem.Expr.Name _ _) (PySem.Expr.Name _ _) (Value.str _ _) (Value.int _ _)) _ _ _); (k_dflt ((refine' item_lit ?i0 ?i1 ?i2 ?hc ?_ ?is ?it); (case hc => first | assumption | exact Eq.refl 42 | exact Eq.refl 65 | exact Eq.refl 61 | exact Eq.refl 63 | exact Eq.refl 91 | exact Eq.refl 93 | exact Eq.refl 45 | exact Eq.refl 90 | exact Eq.refl 97 | exact Eq.refl 122 | exact Eq.refl 48 | exact Eq.refl 57 | exact Eq.refl 43 | exact Eq.refl 47 | exact Eq.refl 33 | ((rename SymA _ => y9); exact Eq.trans (by rfl) (SymA.rfl y9)) | ((rename SymZ _ => y9); exact Eq.trans (by rfl) (SymZ.rfl y9))); (case i0 => first | decide | omega); (case i1 => first | decide | omega); (case i2 => first | decide | omega); (case is => with_unfolding_all rfl); (case it => intro _; with_unfolding_all rfl))))) | ((with_reducible show wpAny _ _ (exec _ _) _ _ _); first | ((with_reducible show wpAny _ _ (exec (Stmt.While (PySem.Expr.BoolOp _ _ _) _ [] _) _) _ _ _); ((k_dflt (refine whl_leaf ?_)))) | ((with_reducible show wpAny _ _ (exec (Stmt.While (PySem.Expr.Compare _ _ _ _) _ [] _) _) _ _ _); ((k_dflt (refine whl_leaf ?_)))) | ((with_reducible show wpAny _ _ (exec (Stmt.If _ _ _ _) _) _ _ _); (first | (((rename Newer _ _ => z9); (with_reducible refine if_newer z9 ?le ?_); (case le => k_dflt (first | exact Nat.le_refl _ | exact le_s1 | exact le_s2 | exact le_s3 | exact le_s4 | exact le_s5 | exact le_s6 | exact le_s7 | exact le_s8)))) | (refine wpAny_If ?_)))) | ((with_reducible show wpAny _ _ (compareOp _ _ _) _ _ _); first | ((with_reducible show wpAny _ _ (compareOp CmpOp.NotIn (Value.str _ _) (Value.str _ _)) _ _ _); (first | ((k_dflt (refine notin_lit (b := false) (rg_dash (by assumption)) ?_))) | (first | (k_dflt (refine notin_lit (b := true) (by decide +kernel) ?_)) | (k_dflt (refine notin_lit (b := false) (by decide +kernel) ?_))))) | ((with_reducible show wpAny _ _ (compareOp CmpOp.Gt (Value.str _ _) (Value.str _ _)) _ _ _); (k_dflt (refine gt_strF (rg_gt (by assumption)) ?_))) | ((with_reducible show wpAny _ _ (compareOp CmpOp.IsNot (Value.str _ _) (Value.str _ _)) _ _ _); ((k_dflt (refine isnot_old (by first | assumption | rfl | decide +kernel) ?ho ?_); (case ho => first | assumption | (simp only [Newer] at *; (try dsimp only at *); exact ⟨by omega, by omega⟩))))) | ((with_reducible show wpAny _ _ (compareOp CmpOp.NotEq (Value.str _ _) (Value.str _ _)) _ _ _); (refine ne_strT (by assumption) ?_)) | ((with_reducible show wpAny _ _ (compareOp CmpOp.Eq (Value.str _ _) (Value.str _ _)) _ _ _); (refine eq_strF (by assumption) ?_))) | ((with_reducible show wpAny _ _ (call _ _ _) _ _ _); first | ((with_reducible show wpAny _ _ (call (Value.builtin "str.find") _ _) _ _ _); (first | (first | (k_dflt (refine find_lit (r := 2) (rg_find1 (by assumption)) ?_)) | (k_dflt (refine find_lit (r := -1) (rg_find2 (by assumption)) ?_))) | (first | (k_dflt (refine find_lit (r := 2) (by decide +kernel) ?_)) | (k_dflt (refine find_lit (r := -1) (by decide +kernel) ?_))))) | ((with_reducible show wpAny _ _ (call (Value.builtin "re.Pattern.sub") _ _) _ _ _); (first | ((k_dflt (refine sub_rng (by assumption) (by ((first | assumption | exact Frag.In.keeps (by assumption) (Fr.keep (by assumption))))) _ _ _ _ (by (((rename News _ _ _ _ => N9); exact (N9 _ (by k_mem)).1))) (fun h9 t9 tk9 hx9 => ?_)); (((rename Fr _ _ _ _ => F9); (rename News _ _ _ _ => N9); (rename Ext _ _ => hx9); (have F8 := fr_ext F9 hx9); (have N8 := news_ext N9 hx9); clear F9 N9 hx9; (try dsimp only); (try k_fold))))) | ((k_dflt (first | (refine sub_up (by ((first | assumption | exact Frag.In.keeps (by assumption) (Fr.keep (by assumption))))) _ _ _ _ (by (((rename News _ _ _ _ => N9); exact (N9 _ (by k_mem)).1))) (fun h9 t9 tk9 hx9 => ?_)) | (refine sub_lo (by ((first | assumption | exact Frag.In.keeps (by assumption) (Fr.keep (by assumption))))) _ _ _ _ (by (((rename News _ _ _ _ => N9); exact (N9 _ (by k_mem)).1))) (fun h9 t9 tk9 hx9 => ?_)) | (refine sub_fig (by ((first | assumption | exact Frag.In.keeps (by assumption) (Fr.keep (by assumption))))) _ _ _ _ (by (((rename News _ _ _ _ => N9); exact (N9 _ (by k_mem)).1))) (fun h9 t9 tk9 hx9 => ?_)) | (refine sub_ps (by ((first | assumption | exact Frag.In.keeps (by assumption) (Fr.keep (by assumption))))) _ _ _ _ (by (((rename News _ _ _ _ => N9); exact (N9 _ (by k_mem)).1))) (fun h9 t9 tk9 hx9 => ?_)) | (refine sub_ne (by ((first | assumption | exact Frag.In.keeps (by assumption) (Fr.keep (by assumption))))) _ _ _ _ (by (((rename News _ _ _ _ => N9); exact (N9 _ (by k_mem)).1))) (fun h9 t9 tk9 hx9 => ?_))); (((rename Fr _ _ _ _ => F9); (rename News _ _ _ _ => N9); (rename Ext _ _ => hx9); (have F8 := fr_ext F9 hx9); (have N8 := news_ext N9 hx9); clear F9 N9 hx9; (try dsimp only); (try k_fold))))))) | ((with_reducible show wpAny _ _ (call (Value.builtin "str.join") _ _) _ _ _); (first | ((k_dflt (refine join_leaf (by k_asm) (by k_asm) (by assumption) (by assumption) (by assumption) (by assumption) (rg_jok (by assumption)) (rg_join (by assumption)) (Nat.le_of_ble_eq_true rfl) (fun s9 t9 F9 N9 G9 o9 => ?_)); obtain ⟨h9, g9, d9, tk9, os9⟩ := s9; dsimp only at F9 N9 G9 o9; subst o9; (try dsimp only))) | ((k_dflt (first | (refine join_leaf (r := Str.ofString "A-Z") (by k_asm) (by k_asm) (by assumption) (by assumption) (by assumption) (by assumption) (by decide +kernel) (by decide +kernel) (by decide) (fun s9 t9 F9 N9 G9 o9 => ?_)) | (refine join_leaf (r := Str.ofString "a-z") (by k_asm) (by k_asm) (by assumption) (by assumption) (by assumption) (by assumption) (by decide +kernel) (by decide +kernel) (by decide) (fun s9 t9 F9 N9 G9 o9 => ?_)) | (refine join_leaf (r := Str.ofString "0-9") (by k_asm) (by k_asm) (by assumption) (by assumption) (by assumption) (by assumption) (by decide +kernel) (by decide +kernel) (by decide) (fun s9 t9 F9 N9 G9 o9 => ?_))); obtain ⟨h9, g9, d9, tk9, os9⟩ := s9; dsimp only at F9 N9 G9 o9; subst o9; (try dsimp only))))) | ((with_reducible show wpAny _ _ (call (Value.builtin "list.append") _ _) _ _ _); ((k_dflt (refine' append_K ?k1 ?k2 ?k3 ?_ ?z; (case k1 => k_asm); (case k2 => k_asm); (case k3 => k_upd); (case z => size_fits)); intro h' F' N'; (try k_sweep)))) | ((with_reducible show wpAny _ _ (call (Value.builtin "str.replace") _ _) _ _ _); ((k_dflt (refine rep_none (by decide +kernel) ?_)))) | ((with_reducible show wpAny _ _ (call (Value.ref _) _ _) _ _ _); (first | (k_dflt (refine' append_B ?k1 ?k2 ?k3 ?k4 ?_ ?z; (case k1 => k_asm); (case k2 => k_asm); (case k3 => k_mem); (case k4 => k_upd); (case z => size_fits)); intro h9 F9 N9; (try k_sweep)) | (refine' c_escape ?cx ?ct ?ch ?cr ?cu _ _ ?cc ?_; (case cx => ((first | assumption | exact Frag.In.keeps (by assumption) (Fr.keep (by assumption))))); (case ct => ((first | assumption | exact Top.keeps (by assumption) (Fr.keep (by assumption))))); (case ch => with_unfolding_all rfl); (case cr => ((simp +zetaDelta only [depth_deeper, units_deeper]; omega))); (case cu => ((simp +zetaDelta only [depth_deeper, units_deeper]; omega))); (case cc => first | assumption | decide); intro h9 t9 tk9 hx9 hle9 hlt9; (try dsimp only at hle9); (((rename Fr _ _ _ _ => F9); (rename News _ _ _ _ => N9); (rename Ext _ _ => hx9); (have F8 := fr_ext F9 hx9); (have N8 := news_ext N9 hx9); clear F9 N9 hx9; (try dsimp only); (try k_fold)))))) | ((with_reducible show wpAny _ _ (call (Value.builtin "len") _ _) _ _ _); (first | (k_dflt (refine name_len (by omega) ?_)) | (k_dflt (refine len_lit (n := 1) (by decide) (by rfl) ?_)) | (k_dflt (refine len_lit (n := 2) (by decide) (by rfl) ?_)) | (k_dflt (refine len_lit (n := 3) (by decide) (by rfl) ?_)) | (k_dflt (refine len_lit (n := 4) (by decide) (by rfl) ?_)) | (k_dflt (refine len_lit (n := 5) (by decide) (by rfl) ?_)) | (k_dflt (refine len_lit (n := 6) (by decide) (by rfl) ?_))))) | ((with_reducible show wpAny _ _ (PySem.truthy (Value.str _ _)) _ _ _); (k_dflt (first | refine truthy_T (n := 2) rfl (by decide) ?_ | refine truthy_T (n := 0) rfl (by decide) ?_))) | ((with_reducible show wpAny _ _ (getMethod (Value.ref _) _ _) _ _ _); (k_dflt (refine getm_sub (by ((first | assumption | exact Frag.In.keeps (by assumption) (Fr.keep (by assumption))))) ?_))) | ((with_reducible show wpAny _ _ (execs [] _) _ _ _); ((with_reducible refine wpAny_execs_nil ?_))) | ((with_reducible show wpAny _ _ (execs (_ :: _) _) _ _ _); (((rename Newer _ _ => z9); (with_reducible refine execs_n z9 ?le ?_); (case le => (k_dflt (first | exact Nat.le_refl _ | exact le_s1 | exact le_s2 | exact le_s3 | exact le_s4 | exact le_s5 | exact le_s6 | exact le_s7 | exact le_s8))); clear z9; intro qk tk9 z9))) | ((with_reducible show wpAny _ _ (eval (PySem.Expr.Name _ _) _) _ _ _); ((k_dflt ((refine' nameX_L ?F ?v ?_ ?a ?b); (case F => k_asm); (case b => rfl); (case a => rfl); (case v => rfl))))) | ((with_reducible show wpAny _ _ (eval (PySem.Expr.GeneratorExp _ _ _ _) _) _ _ _); ((k_dflt (refine gen_leaf (by k_asm) (by k_asm) (by k_asm) (by rfl) (by rfl) (by rfl) (by rfl) (by with_unfolding_all rfl) (by decide) (by rfl) (by rfl) (by rfl) ?hroom ?_ (by intro _; with_unfolding_all rfl)); (case hroom => ((simp +zetaDelta only [depth_deeper, units_deeper]; omega)))))) | ((with_reducible show wpAny _ _ (pyIter (Value.ref _)) _ _ _); (((with_reducible show wpAny _ _ (pyIter (Value.ref _)) (fun it s₂ => LoopAtV _ _ _ _ _ _ _ _ _ it s₂) _ _); krs_unr))) | ((with_reducible show wpAny _ _ (callWith _ (Value.ref _) _ _ _) _ _ _); (first | (k_dflt (refine' callWith_app ?k1 ?k2 ?_; (case k1 => k_asm); (case k2 => k_mem))))) | ((with_reducible show wpAny _ _ (getAttr (Value.ref _) _ _) _ _ _); ((k_dflt (refine' app_N ?k1 ?k2 ?k3 ?_; (case k1 => k_asm); (case k2 => k_asm); (case k3 => k_mem)); intro x9 h9 F9 N9 l9; (try k_lt l9); (try k_sweep)))) | ((with_reducible show wpAny _ _ (joinParts _ _) _ _ _); (first | ((k_dflt (refine joinParts_lit (rg_fmt (by assumption)) (rg_len (by assumption)) ?_))) | ((k_dflt (first | (refine joinParts_lit (r := Str.ofString "[A-Z]") (by decide +kernel) (by decide +kernel) ?_) | (refine joinParts_lit (r := Str.ofString "[a-z]") (by decide +kernel) (by decide +kernel) ?_) | (refine joinParts_lit (r := Str.ofString "[0-9]") (by decide +kernel) (by decide +kernel) ?_) | (refine joinParts_lit (r := Str.ofString "[+/]") (by decide +kernel) (by decide +kernel) ?_) | (refine joinParts_lit (r := Str.ofString "[^=]") (by decide +kernel) (by decide +kernel) ?_)))) | (((rename Newer _ _ => z9); (with_reducible refine joinParts_newer z9 ?le ?_); (case le => k_dflt (first | exact Nat.le_refl _ | exact le_s1 | exact le_s2 | exact le_s3 | exact le_s4 | exact le_s5 | exact le_s6 | exact le_s7 | exact le_s8)))))) | ((with_reducible show _ ∧ _); (((with_reducible show AppAt _ _ _ ∧ _); k_dflt (refine ⟨app_at (by k_asm) (by k_mem), ?_⟩)))) | ((with_reducible show wpAny _ _ (storeName _ _ _) _ _ _); ((k_dflt (refine' store_f ?F ?N ?b ?a ?_; (case F => k_asm); (case N => k_asm); (case b => rfl); (case a => rfl); k_whole; intro m' h' F' N'; (try k_sweep))))) | (k_end; wrow_close) | walk1 | dsimp only | (leave1; try dsimp only)))
    (rename Fr _ _ _ _ => F9)
    (rename News _ _ _ _ => N9)
    (rename Newer _ _ => z9)
    simp only [List.push_toArray, List.nil_append, List.cons_append] at N9
    exact trEnd_of hrest (TrSt.intro (vs := [.str y u0, .str x t0] ++ [.str (Str.ofString "many") ts]) F9 N9 rfl rfl rfl rfl rfl rfl rfl (by first | rfl | omega) rfl (by k_mem) (by k_mem) (by k_mem) ⟨z9.1, by have := z9.2; omega⟩ hG (.cons _ _ (.cons _ _ (.cons _ _ .nil))) (old_push) hT (by exact Nat.succ_le_succ hv))
  case esc =>
    rintro c (rfl | rfl)
    · intro x9 D tn n i fl l vs ps' hlt hc hrest hSt hT hv hv10
      intro h1 g1 d1 k1 m ti nn F N zN hG lx1 lx2 lx3
      refine turn_of ?_
      (repeat' (first | ((try k_unmd); k_unfold; first | ((with_reducible (first | refine afterN_nil ?_ | refine afterN_next ?_ | refine afterN_ret ?_ | refine afterN_brk ?_)); intro z9) | (try dsimp only [List.cons_append, List.nil_append])) | ((with_reducible show wpAny _ _ (subscriptTail _ _ _ _) _ _ _); first | ((with_reducible show wpAny _ _ (subscriptTail (PySem.Expr.Name _ _) (PySem.Expr.Slice _ _ _ _) (Value.str _ _) (Value.ref _)) _ _ _); (((rename Fr _ _ _ _ => F9); (rename News _ _ _ _ => N9); k_dflt (refine' slice_to (s := ⟨_, _, _, _, _⟩) F9 N9 ?r ?_ ?hs ?ht ?hz; (case r => first | exact slice_abc | exact slice_a | exact slice_z); (case hs => with_unfolding_all rfl); (case ht => intro _; with_unfolding_all rfl); (case hz => size_fits)); intro h8 t8 k8 F8 N8; clear F9 N9; (try dsimp only)))) | ((with_reducible show wpAny _ _ (subscriptTail (PySem.Expr.Name _ _) (PySem.Expr.Name _ _) (Value.ref _) (Value.int _ _)) _ _ _); (k_dflt ((refine' item_news ?k1 ?k2 ?k3 ?k4 ?k5 ?_ ?k6); (case k1 => k_asm); (case k2 => k_mem); (case k3 => decide); (case k4 => decide); (case k5 => exact rfl); (case k6 => with_unfolding_all rfl)))) | ((with_reducible show wpAny _ _ (subscriptTail (PySem.Expr.Name _ _) (PySem.Expr.BinOp _ _ _ _) (Value.ref _) (Value.int _ _)) _ _ _); (k_dflt ((refine' item_news ?k1 ?k2 ?k3 ?k4 ?k5 ?_ ?k6); (case k1 => k_asm); (case k2 => k_mem); (case k3 => decide); (case k4 => decide); (case k5 => exact rfl); (case k6 => with_unfolding_all rfl)))) | ((with_reducible show wpAny _ _ (subscriptTail (PySem.Expr.Name _ _) (PySem.Expr.Name _ _) (Value.str _ _) (Value.int _ _)) _ _ _); (k_dflt ((refine' item_lit ?i0 ?i1 ?i2 ?hc ?_ ?is ?it); (case hc => first | assumption | exact Eq.refl 42 | exact Eq.refl 65 | exact Eq.refl 61 | exact Eq.refl 63 | exact Eq.refl 91 | exact Eq.refl 93 | exact Eq.refl 45 | exact Eq.refl 90 | exact Eq.refl 97 | exact Eq.refl 122 | exact Eq.refl 48 | exact Eq.refl 57 | exact Eq.refl 43 | exact Eq.refl 47 | exact Eq.refl 33 | ((rename SymA _ => y9); exact Eq.trans (by rfl) (SymA.rfl y9)) | ((rename SymZ _ => y9); exact Eq.trans (by rfl) (SymZ.rfl y9))); (case i0 => first | decide | omega); (case i1 => first | decide | omega); (case i2 => first | decide | omega); (case is => with_unfolding_all rfl); (case it => intro _; with_unfolding_all rfl))))) | ((with_reducible show wpAny _ _ (exec _ _) _ _ _); first | ((with_reducible show wpAny _ _ (exec (Stmt.While (PySem.Expr.BoolOp _ _ _) _ [] _) _) _ _ _); ((k_dflt (refine whl_leaf ?_)))) | ((with_reducible show wpAny _ _ (exec (Stmt.While (PySem.Expr.Compare _ _ _ _) _ [] _) _) _ _ _); ((k_dflt (refine whl_leaf ?_)))) | ((with_reducible show wpAny _ _ (exec (Stmt.If _ _ _ _) _) _ _ _); (first | (((rename Newer _ _ => z9); (with_reducible refine if_newer z9 ?le ?_); (case le => k_dflt (first | exact Nat.le_refl _ | exact le_s1 | exact le_s2 | exact le_s3 | exact le_s4 | exact le_s5 | exact le_s6 | exact le_s7 | exact le_s8)))) | (refine wpAny_If ?_)))) | ((with_reducible show wpAny _ _ (compareOp _ _ _) _ _ _); first | ((with_reducible show wpAny _ _ (compareOp CmpOp.NotIn (Value.str _ _) (Value.str _ _)) _ _ _); (first | ((k_dflt (refine notin_lit (b := false) (rg_dash (by assumption)) ?_))) | (first | (k_dflt (refine notin_lit (b := true) (by decide +kernel) ?_)) | (k_dflt (refine notin_lit (b := false) (by decide +kernel) ?_))))) | ((with_reducible show wpAny _ _ (compareOp CmpOp.Gt (Value.str _ _) (Value.str _ _)) _ _ _); (k_dflt (refine gt_strF (rg_gt (by assumption)) ?_))) | ((with_reducible show wpAny _ _ (compareOp CmpOp.IsNot (Value.str _ _) (Value.str _ _)) _ _ _); ((k_dflt (refine isnot_old (by first | assumption | rfl | decide +kernel) ?ho ?_); (case ho => first | assumption | (simp only [Newer] at *; (try dsimp only at *); exact ⟨by omega, by omega⟩))))) | ((with_reducible show wpAny _ _ (compareOp CmpOp.NotEq (Value.str _ _) (Value.str _ _)) _ _ _); (refine ne_strT (by assumption) ?_)) | ((with_reducible show wpAny _ _ (compareOp CmpOp.Eq (Value.str _ _) (Value.str _ _)) _ _ _); (refine eq_strF (by assumption) ?_))) | ((with_reducible show wpAny _ _ (call _ _ _) _ _ _); first | ((with_reducible show wpAny _ _ (call (Value.builtin "str.find") _ _) _ _ _); (first | (first | (k_dflt (refine find_lit (r := 2) (rg_find1 (by assumption)) ?_)) | (k_dflt (refine find_lit (r := -1) (rg_find2 (by assumption)) ?_))) | (first | (k_dflt (refine find_lit (r := 2) (by decide +kernel) ?_)) | (k_dflt (refine find_lit (r := -1) (by decide +kernel) ?_))))) | ((with_reducible show wpAny _ _ (call (Value.builtin "re.Pattern.sub") _ _) _ _ _); (first | ((k_dflt (refine sub_rng (by assumption) (by ((first | assumption | exact Frag.In.keeps (by assumption) (Fr.keep (by assumption))))) _ _ _ _ (by (((rename News _ _ _ _ => N9); exact (N9 _ (by k_mem)).1))) (fun h9 t9 tk9 hx9 => ?_)); (((rename Fr _ _ _ _ => F9); (rename News _ _ _ _ => N9); (rename Ext _ _ => hx9); (have F8 := fr_ext F9 hx9); (have N8 := news_ext N9 hx9); clear F9 N9 hx9; (try dsimp only); (try k_fold))))) | ((k_dflt (first | (refine sub_up (by ((first | assumption | exact Frag.In.keeps (by assumption) (Fr.keep (by assumption))))) _ _ _ _ (by (((rename News _ _ _ _ => N9); exact (N9 _ (by k_mem)).1))) (fun h9 t9 tk9 hx9 => ?_)) | (refine sub_lo (by ((first | assumption | exact Frag.In.keeps (by assumption) (Fr.keep (by assumption))))) _ _ _ _ (by (((rename News _ _ _ _ => N9); exact (N9 _ (by k_mem)).1))) (fun h9 t9 tk9 hx9 => ?_)) | (refine sub_fig (by ((first | assumption | exact Frag.In.keeps (by assumption) (Fr.keep (by assumption))))) _ _ _ _ (by (((rename News _ _ _ _ => N9); exact (N9 _ (by k_mem)).1))) (fun h9 t9 tk9 hx9 => ?_)) | (refine sub_ps (by ((first | assumption | exact Frag.In.keeps (by assumption) (Fr.keep (by assumption))))) _ _ _ _ (by (((rename News _ _ _ _ => N9); exact (N9 _ (by k_mem)).1))) (fun h9 t9 tk9 hx9 => ?_)) | (refine sub_ne (by ((first | assumption | exact Frag.In.keeps (by assumption) (Fr.keep (by assumption))))) _ _ _ _ (by (((rename News _ _ _ _ => N9); exact (N9 _ (by k_mem)).1))) (fun h9 t9 tk9 hx9 => ?_))); (((rename Fr _ _ _ _ => F9); (rename News _ _ _ _ => N9); (rename Ext _ _ => hx9); (have F8 := fr_ext F9 hx9); (have N8 := news_ext N9 hx9); clear F9 N9 hx9; (try dsimp only); (try k_fold))))))) | ((with_reducible show wpAny _ _ (call (Value.builtin "str.join") _ _) _ _ _); (first | ((k_dflt (refine join_leaf (by k_asm) (by k_asm) (by assumption) (by assumption) (by assumption) (by assumption) (rg_jok (by assumption)) (rg_join (by assumption)) (Nat.le_of_ble_eq_true rfl) (fun s9 t9 F9 N9 G9 o9 => ?_)); obtain ⟨h9, g9, d9, tk9, os9⟩ := s9; dsimp only at F9 N9 G9 o9; subst o9; (try dsimp only))) | ((k_dflt (first | (refine join_leaf (r := Str.ofString "A-Z") (by k_asm) (by k_asm) (by assumption) (by assumption) (by assumption) (by assumption) (by decide +kernel) (by decide +kernel) (by decide) (fun s9 t9 F9 N9 G9 o9 => ?_)) | (refine join_leaf (r := Str.ofString "a-z") (by k_asm) (by k_asm) (by assumption) (by assumption) (by assumption) (by assumption) (by decide +kernel) (by decide +kernel) (by decide) (fun s9 t9 F9 N9 G9 o9 => ?_)) | (refine join_leaf (r := Str.ofString "0-9") (by k_asm) (by k_asm) (by assumption) (by assumption) (by assumption) (by assumption) (by decide +kernel) (by decide +kernel) (by decide) (fun s9 t9 F9 N9 G9 o9 => ?_))); obtain ⟨h9, g9, d9, tk9, os9⟩ := s9; dsimp only at F9 N9 G9 o9; subst o9; (try dsimp only))))) | ((with_reducible show wpAny _ _ (call (Value.builtin "list.append") _ _) _ _ _); ((k_dflt (refine' append_K ?k1 ?k2 ?k3 ?_ ?z; (case k1 => k_asm); (case k2 => k_asm); (case k3 => k_upd); (case z => size_fits)); intro h' F' N'; (try k_sweep)))) | ((with_reducible show wpAny _ _ (call (Value.builtin "str.replace") _ _) _ _ _); ((k_dflt (refine rep_none (by decide +kernel) ?_)))) | ((with_reducible show wpAny _ _ (call (Value.ref _) _ _) _ _ _); (first | (k_dflt (refine' append_B ?k1 ?k2 ?k3 ?k4 ?_ ?z; (case k1 => k_asm); (case k2 => k_asm); (case k3 => k_mem); (case k4 => k_upd); (case z => size_fits)); intro h9 F9 N9; (try k_sweep)) | (refine' c_escape ?cx ?ct ?ch ?cr ?cu _ _ ?cc ?_; (case cx => ((first | assumption | exact Frag.In.keeps (by assumption) (Fr.keep (by assumption))))); (case ct => ((first | assumption | exact Top.keeps (by assumption) (Fr.keep (by assumption))))); (case ch => with_unfolding_all rfl); (case cr => ((simp +zetaDelta only [depth_deeper, units_deeper]; omega))); (case cu => ((simp +zetaDelta only [depth_deeper, units_deeper]; omega))); (case cc => first | assumption | decide); intro h9 t9 tk9 hx9 hle9 hlt9; (try dsimp only at hle9); (((rename Fr _ _ _ _ => F9); (rename News _ _ _ _ => N9); (rename Ext _ _ => hx9); (have F8 := fr_ext F9 hx9); (have N8 := news_ext N9 hx9); clear F9 N9 hx9; (try dsimp only); (try k_fold)))))) | ((with_reducible show wpAny _ _ (call (Value.builtin "len") _ _) _ _ _); (first | (k_dflt (refine name_len (by omega) ?_)) | (k_dflt (refine len_lit (n := 1) (by decide) (by rfl) ?_)) | (k_dflt (refine len_lit (n := 2) (by decide) (by rfl) ?_)) | (k_dflt (refine len_lit (n := 3) (by decide) (by rfl) ?_)) | (k_dflt (refine len_lit (n := 4) (by decide) (by rfl) ?_)) | (k_dflt (refine len_lit (n := 5) (by decide) (by rfl) ?_)) | (k_dflt (refine len_lit (n := 6) (by decide) (by rfl) ?_))))) | ((with_reducible show wpAny _ _ (PySem.truthy (Value.str _ _)) _ _ _); (k_dflt (first | refine truthy_T (n := 2) rfl (by decide) ?_ | refine truthy_T (n := 0) rfl (by decide) ?_))) | ((with_reducible show wpAny _ _ (getMethod (Value.ref _) _ _) _ _ _); (k_dflt (refine getm_sub (by ((first | assumption | exact Frag.In.keeps (by assumption) (Fr.keep (by assumption))))) ?_))) | ((with_reducible show wpAny _ _ (execs [] _) _ _ _); ((with_reducible refine wpAny_execs_nil ?_))) | ((with_reducible show wpAny _ _ (execs (_ :: _) _) _ _ _); (((rename Newer _ _ => z9); (with_reducible refine execs_n z9 ?le ?_); (case le => (k_dflt (first | exact Nat.le_refl _ | exact le_s1 | exact le_s2 | exact le_s3 | exact le_s4 | exact le_s5 | exact le_s6 | exact le_s7 | exact le_s8))); clear z9; intro qk tk9 z9))) | ((with_reducible show wpAny _ _ (eval (PySem.Expr.Name _ _) _) _ _ _); ((k_dflt ((refine' nameX_L ?F ?v ?_ ?a ?b); (case F => k_asm); (case b => rfl); (case a => rfl); (case v => rfl))))) | ((with_reducible show wpAny _ _ (eval (PySem.Expr.GeneratorExp _ _ _ _) _) _ _ _); ((k_dflt (refine gen_leaf (by k_asm) (by k_asm) (by k_asm) (by rfl) (by rfl) (by rfl) (by rfl) (by with_unfolding_all rfl) (by decide) (by rfl) (by rfl) (by rfl) ?hroom ?_ (by intro _; with_unfolding_all rfl)); (case hroom => ((simp +zetaDelta only [depth_deeper, units_deeper]; omega)))))) | ((with_reducible show wpAny _ _ (pyIter (Value.ref _)) _ _ _); (((with_reducible show wpAny _ _ (pyIter (Value.ref _)) (fun it s₂ => LoopAtV _ _ _ _ _ _ _ _ _ it s₂) _ _); krs_unr))) | ((with_reducible show wpAny _ _ (callWith _ (Value.ref _) _ _ _) _ _ _); (first | (k_dflt (refine' callWith_app ?k1 ?k2 ?_; (case k1 => k_asm); (case k2 => k_mem))))) | ((with_reducible show wpAny _ _ (getAttr (Value.ref _) _ _) _ _ _); ((k_dflt (refine' app_N ?k1 ?k2 ?k3 ?_; (case k1 => k_asm); (case k2 => k_asm); (case k3 => k_mem)); intro x9 h9 F9 N9 l9; (try k_lt l9); (try k_sweep)))) | ((with_reducible show wpAny _ _ (joinParts _ _) _ _ _); (first | ((k_dflt (refine joinParts_lit (rg_fmt (by assumption)) (rg_len (by assumption)) ?_))) | ((k_dflt (first | (refine joinParts_lit (r := Str.ofString "[A-Z]") (by decide +kernel) (by decide +kernel) ?_) | (refine joinParts_lit (r := Str.ofString "[a-z]") (by decide +kernel) (by decide +kernel) ?_) | (refine joinParts_lit (r := Str.ofString "[0-9]") (by decide +kernel) (by decide +kernel) ?_) | (refine joinParts_lit (r := Str.ofString "[+/]") (by decide +kernel) (by decide +kernel) ?_) | (refine joinParts_lit (r := Str.ofString "[^=]") (by decide +kernel) (by decide +kernel) ?_)))) | (((rename Newer _ _ => z9); (with_reducible refine joinParts_newer z9 ?le ?_); (case le => k_dflt (first | exact Nat.le_refl _ | exact le_s1 | exact le_s2 | exact le_s3 | exact le_s4 | exact le_s5 | exact le_s6 | exact le_s7 | exact le_s8)))))) | ((with_reducible show _ ∧ _); (((with_reducible show AppAt _ _ _ ∧ _); k_dflt (refine ⟨app_at (by k_asm) (by k_mem), ?_⟩)))) | ((with_reducible show wpAny _ _ (storeName _ _ _) _ _ _); ((k_dflt (refine' store_f ?F ?N ?b ?a ?_; (case F => k_asm); (case N => k_asm); (case b => rfl); (case a => rfl); k_whole; intro m' h' F' N'; (try k_sweep))))) | (k_end; wrow_close) | walk1 | dsimp only | (leave1; try dsimp only)))
      (rename Fr _ _ _ _ => F9)
      (rename News _ _ _ _ => N9)
      (rename Newer _ _ => z9)
      simp only [List.push_toArray, List.nil_append, List.cons_append] at N9
      exact trEnd_of hrest (TrSt.intro (vs := vs ++ [.str ⟨#[65]⟩ _]) F9 N9 rfl rfl rfl rfl rfl rfl rfl (by first | rfl | omega) rfl (by k_mem) (by k_mem) (by k_mem) ⟨z9.1, by have := z9.2; omega⟩ hG (strs_snoc hSt) (lastOld_snoc (fun _ => (by (simp only [Newer, Old] at *; (try dsimp only at *); exact ⟨by omega, by omega⟩)))) hT (by rw [List.length_append]; exact Nat.succ_le_succ hv))
    · intro x9 D tn n i fl l vs ps' hlt hc hrest hSt hT hv hv10
      intro h1 g1 d1 k1 m ti nn F N zN hG lx1 lx2 lx3
      refine turn_of ?_
      (repeat' (first | ((try k_unmd); k_unfold; first | ((with_reducible (first | refine afterN_nil ?_ | refine afterN_next ?_ | refine afterN_ret ?_ | refine afterN_brk ?_)); intro z9) | (try dsimp only [List.cons_append, List.nil_append])) | ((with_reducible show wpAny _ _ (subscriptTail _ _ _ _) _ _ _); first | ((with_reducible show wpAny _ _ (subscriptTail (PySem.Expr.Name _ _) (PySem.Expr.Slice _ _ _ _) (Value.str _ _) (Value.ref _)) _ _ _); (((rename Fr _ _ _ _ => F9); (rename News _ _ _ _ => N9); k_dflt (refine' slice_to (s := ⟨_, _, _, _, _⟩) F9 N9 ?r ?_ ?hs ?ht ?hz; (case r => first | exact slice_abc | exact slice_a | exact slice_z); (case hs => with_unfolding_all rfl); (case ht => intro _; with_unfolding_all rfl); (case hz => size_fits)); intro h8 t8 k8 F8 N8; clear F9 N9; (try dsimp only)))) | ((with_reducible show wpAny _ _ (subscriptTail (PySem.Expr.Name _ _) (PySem.Expr.Name _ _) (Value.ref _) (Value.int _ _)) _ _ _); (k_dflt ((refine' item_news ?k1 ?k2 ?k3 ?k4 ?k5 ?_ ?k6); (case k1 => k_asm); (case k2 => k_mem); (case k3 => decide); (case k4 => decide); (case k5 => exact rfl); (case k6 => with_unfolding_all rfl)))) | ((with_reducible show wpAny _ _ (subscriptTail (PySem.Expr.Name _ _) (PySem.Expr.BinOp _ _ _ _) (Value.ref _) (Value.int _ _)) _ _ _); (k_dflt ((refine' item_news ?k1 ?k2 ?k3 ?k4 ?k5 ?_ ?k6); (case k1 => k_asm); (case k2 => k_mem); (case k3 => decide); (case k4 => decide); (case k5 => exact rfl); (case k6 => with_unfolding_all rfl)))) | ((with_reducible show wpAny _ _ (subscriptTail (PySem.Expr.Name _ _) (PySem.Expr.Name _ _) (Value.str _ _) (Value.int _ _)) _ _ _); (k_dflt ((refine' item_lit ?i0 ?i1 ?i2 ?hc ?_ ?is ?it); (case hc => first | assumption | exact Eq.refl 42 | exact Eq.refl 65 | exact Eq.refl 61 | exact Eq.refl 63 | exact Eq.refl 91 | exact Eq.refl 93 | exact Eq.refl 45 | exact Eq.refl 90 | exact Eq.refl 97 | exact Eq.refl 122 | exact Eq.refl 48 | exact Eq.refl 57 | exact Eq.refl 43 | exact Eq.refl 47 | exact Eq.refl 33 | ((rename SymA _ => y9); exact Eq.trans (by rfl) (SymA.rfl y9)) | ((rename SymZ _ => y9); exact Eq.trans (by rfl) (SymZ.rfl y9))); (case i0 => first | decide | omega); (case i1 => first | decide | omega); (case i2 => first | decide | omega); (case is => with_unfolding_all rfl); (case it => intro _; with_unfolding_all rfl))))) | ((with_reducible show wpAny _ _ (exec _ _) _ _ _); first | ((with_reducible show wpAny _ _ (exec (Stmt.While (PySem.Expr.BoolOp _ _ _) _ [] _) _) _ _ _); ((k_dflt (refine whl_leaf ?_)))) | ((with_reducible show wpAny _ _ (exec (Stmt.While (PySem.Expr.Compare _ _ _ _) _ [] _) _) _ _ _); ((k_dflt (refine whl_leaf ?_)))) | ((with_reducible show wpAny _ _ (exec (Stmt.If _ _ _ _) _) _ _ _); (first | (((rename Newer _ _ => z9); (with_reducible refine if_newer z9 ?le ?_); (case le => k_dflt (first | exact Nat.le_refl _ | exact le_s1 | exact le_s2 | exact le_s3 | exact le_s4 | exact le_s5 | exact le_s6 | exact le_s7 | exact le_s8)))) | (refine wpAny_If ?_)))) | ((with_reducible show wpAny _ _ (compareOp _ _ _) _ _ _); first | ((with_reducible show wpAny _ _ (compareOp CmpOp.NotIn (Value.str _ _) (Value.str _ _)) _ _ _); (first | ((k_dflt (refine notin_lit (b := false) (rg_dash (by assumption)) ?_))) | (first | (k_dflt (refine notin_lit (b := true) (by decide +kernel) ?_)) | (k_dflt (refine notin_lit (b := false) (by decide +kernel) ?_))))) | ((with_reducible show wpAny _ _ (compareOp CmpOp.Gt (Value.str _ _) (Value.str _ _)) _ _ _); (k_dflt (refine gt_strF (rg_gt (by assumption)) ?_))) | ((with_reducible show wpAny _ _ (compareOp CmpOp.IsNot (Value.str _ _) (Value.str _ _)) _ _ _); ((k_dflt (refine isnot_old (by first | assumption | rfl | decide +kernel) ?ho ?_); (case ho => first | assumption | (simp only [Newer] at *; (try dsimp only at *); exact ⟨by omega, by omega⟩))))) | ((with_reducible show wpAny _ _ (compareOp CmpOp.NotEq (Value.str _ _) (Value.str _ _)) _ _ _); (refine ne_strT (by assumption) ?_)) | ((with_reducible show wpAny _ _ (compareOp CmpOp.Eq (Value.str _ _) (Value.str _ _)) _ _ _); (refine eq_strF (by assumption) ?_))) | ((with_reducible show wpAny _ _ (call _ _ _) _ _ _); first | ((with_reducible show wpAny _ _ (call (Value.builtin "str.find") _ _) _ _ _); (first | (first | (k_dflt (refine find_lit (r := 2) (rg_find1 (by assumption)) ?_)) | (k_dflt (refine find_lit (r := -1) (rg_find2 (by assumption)) ?_))) | (first | (k_dflt (refine find_lit (r := 2) (by decide +kernel) ?_)) | (k_dflt (refine find_lit (r := -1) (by decide +kernel) ?_))))) | ((with_reducible show wpAny _ _ (call (Value.builtin "re.Pattern.sub") _ _) _ _ _); (first | ((k_dflt (refine sub_rng (by assumption) (by ((first | assumption | exact Frag.In.keeps (by assumption) (Fr.keep (by assumption))))) _ _ _ _ (by (((rename News _ _ _ _ => N9); exact (N9 _ (by k_mem)).1))) (fun h9 t9 tk9 hx9 => ?_)); (((rename Fr _ _ _ _ => F9); (rename News _ _ _ _ => N9); (rename Ext _ _ => hx9); (have F8 := fr_ext F9 hx9); (have N8 := news_ext N9 hx9); clear F9 N9 hx9; (try dsimp only); (try k_fold))))) | ((k_dflt (first | (refine sub_up (by ((first | assumption | exact Frag.In.keeps (by assumption) (Fr.keep (by assumption))))) _ _ _ _ (by (((rename News _ _ _ _ => N9); exact (N9 _ (by k_mem)).1))) (fun h9 t9 tk9 hx9 => ?_)) | (refine sub_lo (by ((first | assumption | exact Frag.In.keeps (by assumption) (Fr.keep (by assumption))))) _ _ _ _ (by (((rename News _ _ _ _ => N9); exact (N9 _ (by k_mem)).1))) (fun h9 t9 tk9 hx9 => ?_)) | (refine sub_fig (by ((first | assumption | exact Frag.In.keeps (by assumption) (Fr.keep (by assumption))))) _ _ _ _ (by (((rename News _ _ _ _ => N9); exact (N9 _ (by k_mem)).1))) (fun h9 t9 tk9 hx9 => ?_)) | (refine sub_ps (by ((first | assumption | exact Frag.In.keeps (by assumption) (Fr.keep (by assumption))))) _ _ _ _ (by (((rename News _ _ _ _ => N9); exact (N9 _ (by k_mem)).1))) (fun h9 t9 tk9 hx9 => ?_)) | (refine sub_ne (by ((first | assumption | exact Frag.In.keeps (by assumption) (Fr.keep (by assumption))))) _ _ _ _ (by (((rename News _ _ _ _ => N9); exact (N9 _ (by k_mem)).1))) (fun h9 t9 tk9 hx9 => ?_))); (((rename Fr _ _ _ _ => F9); (rename News _ _ _ _ => N9); (rename Ext _ _ => hx9); (have F8 := fr_ext F9 hx9); (have N8 := news_ext N9 hx9); clear F9 N9 hx9; (try dsimp only); (try k_fold))))))) | ((with_reducible show wpAny _ _ (call (Value.builtin "str.join") _ _) _ _ _); (first | ((k_dflt (refine join_leaf (by k_asm) (by k_asm) (by assumption) (by assumption) (by assumption) (by assumption) (rg_jok (by assumption)) (rg_join (by assumption)) (Nat.le_of_ble_eq_true rfl) (fun s9 t9 F9 N9 G9 o9 => ?_)); obtain ⟨h9, g9, d9, tk9, os9⟩ := s9; dsimp only at F9 N9 G9 o9; subst o9; (try dsimp only))) | ((k_dflt (first | (refine join_leaf (r := Str.ofString "A-Z") (by k_asm) (by k_asm) (by assumption) (by assumption) (by assumption) (by assumption) (by decide +kernel) (by decide +kernel) (by decide) (fun s9 t9 F9 N9 G9 o9 => ?_)) | (refine join_leaf (r := Str.ofString "a-z") (by k_asm) (by k_asm) (by assumption) (by assumption) (by assumption) (by assumption) (by decide +kernel) (by decide +kernel) (by decide) (fun s9 t9 F9 N9 G9 o9 => ?_)) | (refine join_leaf (r := Str.ofString "0-9") (by k_asm) (by k_asm) (by assumption) (by assumption) (by assumption) (by assumption) (by decide +kernel) (by decide +kernel) (by decide) (fun s9 t9 F9 N9 G9 o9 => ?_))); obtain ⟨h9, g9, d9, tk9, os9⟩ := s9; dsimp only at F9 N9 G9 o9; subst o9; (try dsimp only))))) | ((with_reducible show wpAny _ _ (call (Value.builtin "list.append") _ _) _ _ _); ((k_dflt (refine' append_K ?k1 ?k2 ?k3 ?_ ?z; (case k1 => k_asm); (case k2 => k_asm); (case k3 => k_upd); (case z => size_fits)); intro h' F' N'; (try k_sweep)))) | ((with_reducible show wpAny _ _ (call (Value.builtin "str.replace") _ _) _ _ _); ((k_dflt (refine rep_none (by decide +kernel) ?_)))) | ((with_reducible show wpAny _ _ (call (Value.ref _) _ _) _ _ _); (first | (k_dflt (refine' append_B ?k1 ?k2 ?k3 ?k4 ?_ ?z; (case k1 => k_asm); (case k2 => k_asm); (case k3 => k_mem); (case k4 => k_upd); (case z => size_fits)); intro h9 F9 N9; (try k_sweep)) | (refine' c_escape ?cx ?ct ?ch ?cr ?cu _ _ ?cc ?_; (case cx => ((first | assumption | exact Frag.In.keeps (by assumption) (Fr.keep (by assumption))))); (case ct => ((first | assumption | exact Top.keeps (by assumption) (Fr.keep (by assumption))))); (case ch => with_unfolding_all rfl); (case cr => ((simp +zetaDelta only [depth_deeper, units_deeper]; omega))); (case cu => ((simp +zetaDelta only [depth_deeper, units_deeper]; omega))); (case cc => first | assumption | decide); intro h9 t9 tk9 hx9 hle9 hlt9; (try dsimp only at hle9); (((rename Fr _ _ _ _ => F9); (rename News _ _ _ _ => N9); (rename Ext _ _ => hx9); (have F8 := fr_ext F9 hx9); (have N8 := news_ext N9 hx9); clear F9 N9 hx9; (try dsimp only); (try k_fold)))))) | ((with_reducible show wpAny _ _ (call (Value.builtin "len") _ _) _ _ _); (first | (k_dflt (refine name_len (by omega) ?_)) | (k_dflt (refine len_lit (n := 1) (by decide) (by rfl) ?_)) | (k_dflt (refine len_lit (n := 2) (by decide) (by rfl) ?_)) | (k_dflt (refine len_lit (n := 3) (by decide) (by rfl) ?_)) | (k_dflt (refine len_lit (n := 4) (by decide) (by rfl) ?_)) | (k_dflt (refine len_lit (n := 5) (by decide) (by rfl) ?_)) | (k_dflt (refine len_lit (n := 6) (by decide) (by rfl) ?_))))) | ((with_reducible show wpAny _ _ (PySem.truthy (Value.str _ _)) _ _ _); (k_dflt (first | refine truthy_T (n := 2) rfl (by decide) ?_ | refine truthy_T (n := 0) rfl (by decide) ?_))) | ((with_reducible show wpAny _ _ (getMethod (Value.ref _) _ _) _ _ _); (k_dflt (refine getm_sub (by ((first | assumption | exact Frag.In.keeps (by assumption) (Fr.keep (by assumption))))) ?_))) | ((with_reducible show wpAny _ _ (execs [] _) _ _ _); ((with_reducible refine wpAny_execs_nil ?_))) | ((with_reducible show wpAny _ _ (execs (_ :: _) _) _ _ _); (((rename Newer _ _ => z9); (with_reducible refine execs_n z9 ?le ?_); (case le => (k_dflt (first | exact Nat.le_refl _ | exact le_s1 | exact le_s2 | exact le_s3 | exact le_s4 | exact le_s5 | exact le_s6 | exact le_s7 | exact le_s8))); clear z9; intro qk tk9 z9))) | ((with_reducible show wpAny _ _ (eval (PySem.Expr.Name _ _) _) _ _ _); ((k_dflt ((refine' nameX_L ?F ?v ?_ ?a ?b); (case F => k_asm); (case b => rfl); (case a => rfl); (case v => rfl))))) | ((with_reducible show wpAny _ _ (eval (PySem.Expr.GeneratorExp _ _ _ _) _) _ _ _); ((k_dflt (refine gen_leaf (by k_asm) (by k_asm) (by k_asm) (by rfl) (by rfl) (by rfl) (by rfl) (by with_unfolding_all rfl) (by decide) (by rfl) (by rfl) (by rfl) ?hroom ?_ (by intro _; with_unfolding_all rfl)); (case hroom => ((simp +zetaDelta only [depth_deeper, units_deeper]; omega)))))) | ((with_reducible show wpAny _ _ (pyIter (Value.ref _)) _ _ _); (((with_reducible show wpAny _ _ (pyIter (Value.ref _)) (fun it s₂ => LoopAtV _ _ _ _ _ _ _ _ _ it s₂) _ _); krs_unr))) | ((with_reducible show wpAny _ _ (callWith _ (Value.ref _) _ _ _) _ _ _); (first | (k_dflt (refine' callWith_app ?k1 ?k2 ?_; (case k1 => k_asm); (case k2 => k_mem))))) | ((with_reducible show wpAny _ _ (getAttr (Value.ref _) _ _) _ _ _); ((k_dflt (refine' app_N ?k1 ?k2 ?k3 ?_; (case k1 => k_asm); (case k2 => k_asm); (case k3 => k_mem)); intro x9 h9 F9 N9 l9; (try k_lt l9); (try k_sweep)))) | ((with_reducible show wpAny _ _ (joinParts _ _) _ _ _); (first | ((k_dflt (refine joinParts_lit (rg_fmt (by assumption)) (rg_len (by assumption)) ?_))) | ((k_dflt (first | (refine joinParts_lit (r := Str.ofString "[A-Z]") (by decide +kernel) (by decide +kernel) ?_) | (refine joinParts_lit (r := Str.ofString "[a-z]") (by decide +kernel) (by decide +kernel) ?_) | (refine joinParts_lit (r := Str.ofString "[0-9]") (by decide +kernel) (by decide +kernel) ?_) | (refine joinParts_lit (r := Str.ofString "[+/]") (by decide +kernel) (by decide +kernel) ?_) | (refine joinParts_lit (r := Str.ofString "[^=]") (by decide +kernel) (by decide +kernel) ?_)))) | (((rename Newer _ _ => z9); (with_reducible refine joinParts_newer z9 ?le ?_); (case le => k_dflt (first | exact Nat.le_refl _ | exact le_s1 | exact le_s2 | exact le_s3 | exact le_s4 | exact le_s5 | exact le_s6 | exact le_s7 | exact le_s8)))))) | ((with_reducible show _ ∧ _); (((with_reducible show AppAt _ _ _ ∧ _); k_dflt (refine ⟨app_at (by k_asm) (by k_mem), ?_⟩)))) | ((with_reducible show wpAny _ _ (storeName _ _ _) _ _ _); ((k_dflt (refine' store_f ?F ?N ?b ?a ?_; (case F => k_asm); (case N => k_asm); (case b => rfl); (case a => rfl); k_whole; intro m' h' F' N'; (try k_sweep))))) | (k_end; wrow_close) | walk1 | dsimp only | (leave1; try dsimp only)))
      (rename Fr _ _ _ _ => F9)
      (rename News _ _ _ _ => N9)
      (rename Newer _ _ => z9)
      simp only [List.push_toArray, List.nil_append, List.cons_append] at N9
      exact trEnd_of hrest (TrSt.intro (vs := vs ++ [.str ⟨#[61]⟩ _]) F9 N9 rfl rfl rfl rfl rfl rfl rfl (by first | rfl | omega) rfl (by k_mem) (by k_mem) (by k_mem) ⟨z9.1, by have := z9.2; omega⟩ hG (strs_snoc hSt) (lastOld_snoc (fun _ => (by (simp only [Newer, Old] at *; (try dsimp only at *); exact ⟨by omega, by omega⟩)))) hT (by rw [List.length_append]; exact Nat.succ_le_succ hv))
  case qm =>
    intro x9 D tn n i fl l vs ps' hlt hc hrest hSt hT hv hv10
    intro h1 g1 d1 k1 m ti nn F N zN hG lx1 lx2 lx3
    refine turn_of ?_
    (repeat' (first | ((try k_unmd); k_unfold; first | ((with_reducible (first | refine afterN_nil ?_ | refine afterN_next ?_ | refine afterN_ret ?_ | refine afterN_brk ?_)); intro z9) | (try dsimp only [List.cons_append, List.nil_append])) | ((with_reducible show wpAny _ _ (subscriptTail _ _ _ _) _ _ _); first | ((with_reducible show wpAny _ _ (subscriptTail (PySem.Expr.Name _ _) (PySem.Expr.Slice _ _ _ _) (Value.str _ _) (Value.ref _)) _ _ _); (((rename Fr _ _ _ _ => F9); (rename News _ _ _ _ => N9); k_dflt (refine' slice_to (s := ⟨_, _, _, _, _⟩) F9 N9 ?r ?_ ?hs ?ht ?hz; (case r => first | exact slice_abc | exact slice_a | exact slice_z); (case hs => with_unfolding_all rfl); (case ht => intro _; with_unfolding_all rfl); (case hz => size_fits)); intro h8 t8 k8 F8 N8; clear F9 N9; (try dsimp only)))) | ((with_reducible show wpAny _ _ (subscriptTail (PySem.Expr.Name _ _) (PySem.Expr.Name _ _) (Value.ref _) (Value.int _ _)) _ _ _); (k_dflt ((refine' item_news ?k1 ?k2 ?k3 ?k4 ?k5 ?_ ?k6); (case k1 => k_asm); (case k2 => k_mem); (case k3 => decide); (case k4 => decide); (case k5 => exact rfl); (case k6 => with_unfolding_all rfl)))) | ((with_reducible show wpAny _ _ (subscriptTail (PySem.Expr.Name _ _) (PySem.Expr.BinOp _ _ _ _) (Value.ref _) (Value.int _ _)) _ _ _); (k_dflt ((refine' item_news ?k1 ?k2 ?k3 ?k4 ?k5 ?_ ?k6); (case k1 => k_asm); (case k2 => k_mem); (case k3 => decide); (case k4 => decide); (case k5 => exact rfl); (case k6 => with_unfolding_all rfl)))) | ((with_reducible show wpAny _ _ (subscriptTail (PySem.Expr.Name _ _) (PySem.Expr.Name _ _) (Value.str _ _) (Value.int _ _)) _ _ _); (k_dflt ((refine' item_lit ?i0 ?i1 ?i2 ?hc ?_ ?is ?it); (case hc => first | assumption | exact Eq.refl 42 | exact Eq.refl 65 | exact Eq.refl 61 | exact Eq.refl 63 | exact Eq.refl 91 | exact Eq.refl 93 | exact Eq.refl 45 | exact Eq.refl 90 | exact Eq.refl 97 | exact Eq.refl 122 | exact Eq.refl 48 | exact Eq.refl 57 | exact Eq.refl 43 | exact Eq.refl 47 | exact Eq.refl 33 | ((rename SymA _ => y9); exact Eq.trans (by rfl) (SymA.rfl y9)) | ((rename SymZ _ => y9); exact Eq.trans (by rfl) (SymZ.rfl y9))); (case i0 => first | decide | omega); (case i1 => first | decide | omega); (case i2 => first | decide | omega); (case is => with_unfolding_all rfl); (case it => intro _; with_unfolding_all rfl))))) | ((with_reducible show wpAny _ _ (exec _ _) _ _ _); first | ((with_reducible show wpAny _ _ (exec (Stmt.While (PySem.Expr.BoolOp _ _ _) _ [] _) _) _ _ _); ((k_dflt (refine whl_leaf ?_)))) | ((with_reducible show wpAny _ _ (exec (Stmt.While (PySem.Expr.Compare _ _ _ _) _ [] _) _) _ _ _); ((k_dflt (refine whl_leaf ?_)))) | ((with_reducible show wpAny _ _ (exec (Stmt.If _ _ _ _) _) _ _ _); (first | (((rename Newer _ _ => z9); (with_reducible refine if_newer z9 ?le ?_); (case le => k_dflt (first | exact Nat.le_refl _ | exact le_s1 | exact le_s2 | exact le_s3 | exact le_s4 | exact le_s5 | exact le_s6 | exact le_s7 | exact le_s8)))) | (refine wpAny_If ?_)))) | ((with_reducible show wpAny _ _ (compareOp _ _ _) _ _ _); first | ((with_reducible show wpAny _ _ (compareOp CmpOp.NotIn (Value.str _ _) (Value.str _ _)) _ _ _); (first | ((k_dflt (refine notin_lit (b := false) (rg_dash (by assumption)) ?_))) | (first | (k_dflt (refine notin_lit (b := true) (by decide +kernel) ?_)) | (k_dflt (refine notin_lit (b := false) (by decide +kernel) ?_))))) | ((with_reducible show wpAny _ _ (compareOp CmpOp.Gt (Value.str _ _) (Value.str _ _)) _ _ _); (k_dflt (refine gt_strF (rg_gt (by assumption)) ?_))) | ((with_reducible show wpAny _ _ (compareOp CmpOp.IsNot (Value.str _ _) (Value.str _ _)) _ _ _); ((k_dflt (refine isnot_old (by first | assumption | rfl | decide +kernel) ?ho ?_); (case ho => first | assumption | (simp only [Newer] at *; (try dsimp only at *); exact ⟨by omega, by omega⟩))))) | ((with_reducible show wpAny _ _ (compareOp CmpOp.NotEq (Value.str _ _) (Value.str _ _)) _ _ _); (refine ne_strT (by assumption) ?_)) | ((with_reducible show wpAny _ _ (compareOp CmpOp.Eq (Value.str _ _) (Value.str _ _)) _ _ _); (refine eq_strF (by assumption) ?_))) | ((with_reducible show wpAny _ _ (call _ _ _) _ _ _); first | ((with_reducible show wpAny _ _ (call (Value.builtin "str.find") _ _) _ _ _); (first | (first | (k_dflt (refine find_lit (r := 2) (rg_find1 (by assumption)) ?_)) | (k_dflt (refine find_lit (r := -1) (rg_find2 (by assumption)) ?_))) | (first | (k_dflt (refine find_lit (r := 2) (by decide +kernel) ?_)) | (k_dflt (refine find_lit (r := -1) (by decide +kernel) ?_))))) | ((with_reducible show wpAny _ _ (call (Value.builtin "re.Pattern.sub") _ _) _ _ _); (first | ((k_dflt (refine sub_rng (by assumption) (by ((first | assumption | exact Frag.In.keeps (by assumption) (Fr.keep (by assumption))))) _ _ _ _ (by (((rename News _ _ _ _ => N9); exact (N9 _ (by k_mem)).1))) (fun h9 t9 tk9 hx9 => ?_)); (((rename Fr _ _ _ _ => F9); (rename News _ _ _ _ => N9); (rename Ext _ _ => hx9); (have F8 := fr_ext F9 hx9); (have N8 := news_ext N9 hx9); clear F9 N9 hx9; (try dsimp only); (try k_fold))))) | ((k_dflt (first | (refine sub_up (by ((first | assumption | exact Frag.In.keeps (by assumption) (Fr.keep (by assumption))))) _ _ _ _ (by (((rename News _ _ _ _ => N9); exact (N9 _ (by k_mem)).1))) (fun h9 t9 tk9 hx9 => ?_)) | (refine sub_lo (by ((first | assumption | exact Frag.In.keeps (by assumption) (Fr.keep (by assumption))))) _ _ _ _ (by (((rename News _ _ _ _ => N9); exact (N9 _ (by k_mem)).1))) (fun h9 t9 tk9 hx9 => ?_)) | (refine sub_fig (by ((first | assumption | exact Frag.In.keeps (by assumption) (Fr.keep (by assumption))))) _ _ _ _ (by (((rename News _ _ _ _ => N9); exact (N9 _ (by k_mem)).1))) (fun h9 t9 tk9 hx9 => ?_)) | (refine sub_ps (by ((first | assumption | exact Frag.In.keeps (by assumption) (Fr.keep (by assumption))))) _ _ _ _ (by (((rename News _ _ _ _ => N9); exact (N9 _ (by k_mem)).1))) (fun h9 t9 tk9 hx9 => ?_)) | (refine sub_ne (by ((first | assumption | exact Frag.In.keeps (by assumption) (Fr.keep (by assumption))))) _ _ _ _ (by (((rename News _ _ _ _ => N9); exact (N9 _ (by k_mem)).1))) (fun h9 t9 tk9 hx9 => ?_))); (((rename Fr _ _ _ _ => F9); (rename News _ _ _ _ => N9); (rename Ext _ _ => hx9); (have F8 := fr_ext F9 hx9); (have N8 := news_ext N9 hx9); clear F9 N9 hx9; (try dsimp only); (try k_fold))))))) | ((with_reducible show wpAny _ _ (call (Value.builtin "str.join") _ _) _ _ _); (first | ((k_dflt (refine join_leaf (by k_asm) (by k_asm) (by assumption) (by assumption) (by assumption) (by assumption) (rg_jok (by assumption)) (rg_join (by assumption)) (Nat.le_of_ble_eq_true rfl) (fun s9 t9 F9 N9 G9 o9 => ?_)); obtain ⟨h9, g9, d9, tk9, os9⟩ := s9; dsimp only at F9 N9 G9 o9; subst o9; (try dsimp only))) | ((k_dflt (first | (refine join_leaf (r := Str.ofString "A-Z") (by k_asm) (by k_asm) (by assumption) (by assumption) (by assumption) (by assumption) (by decide +kernel) (by decide +kernel) (by decide) (fun s9 t9 F9 N9 G9 o9 => ?_)) | (refine join_leaf (r := Str.ofString "a-z") (by k_asm) (by k_asm) (by assumption) (by assumption) (by assumption) (by assumption) (by decide +kernel) (by decide +kernel) (by decide) (fun s9 t9 F9 N9 G9 o9 => ?_)) | (refine join_leaf (r := Str.ofString "0-9") (by k_asm) (by k_asm) (by assumption) (by assumption) (by assumption) (by assumption) (by decide +kernel) (by decide +kernel) (by decide) (fun s9 t9 F9 N9 G9 o9 => ?_))); obtain ⟨h9, g9, d9, tk9, os9⟩ := s9; dsimp only at F9 N9 G9 o9; subst o9; (try dsimp only))))) | ((with_reducible show wpAny _ _ (call (Value.builtin "list.append") _ _) _ _ _); ((k_dflt (refine' append_K ?k1 ?k2 ?k3 ?_ ?z; (case k1 => k_asm); (case k2 => k_asm); (case k3 => k_upd); (case z => size_fits)); intro h' F' N'; (try k_sweep)))) | ((with_reducible show wpAny _ _ (call (Value.builtin "str.replace") _ _) _ _ _); ((k_dflt (refine rep_none (by decide +kernel) ?_)))) | ((with_reducible show wpAny _ _ (call (Value.ref _) _ _) _ _ _); (first | (k_dflt (refine' append_B ?k1 ?k2 ?k3 ?k4 ?_ ?z; (case k1 => k_asm); (case k2 => k_asm); (case k3 => k_mem); (case k4 => k_upd); (case z => size_fits)); intro h9 F9 N9; (try k_sweep)) | (refine' c_escape ?cx ?ct ?ch ?cr ?cu _ _ ?cc ?_; (case cx => ((first | assumption | exact Frag.In.keeps (by assumption) (Fr.keep (by assumption))))); (case ct => ((first | assumption | exact Top.keeps (by assumption) (Fr.keep (by assumption))))); (case ch => with_unfolding_all rfl); (case cr => ((simp +zetaDelta only [depth_deeper, units_deeper]; omega))); (case cu => ((simp +zetaDelta only [depth_deeper, units_deeper]; omega))); (case cc => first | assumption | decide); intro h9 t9 tk9 hx9 hle9 hlt9; (try dsimp only at hle9); (((rename Fr _ _ _ _ => F9); (rename News _ _ _ _ => N9); (rename Ext _ _ => hx9); (have F8 := fr_ext F9 hx9); (have N8 := news_ext N9 hx9); clear F9 N9 hx9; (try dsimp only); (try k_fold)))))) | ((with_reducible show wpAny _ _ (call (Value.builtin "len") _ _) _ _ _); (first | (k_dflt (refine name_len (by omega) ?_)) | (k_dflt (refine len_lit (n := 1) (by decide) (by rfl) ?_)) | (k_dflt (refine len_lit (n := 2) (by decide) (by rfl) ?_)) | (k_dflt (refine len_lit (n := 3) (by decide) (by rfl) ?_)) | (k_dflt (refine len_lit (n := 4) (by decide) (by rfl) ?_)) | (k_dflt (refine len_lit (n := 5) (by decide) (by rfl) ?_)) | (k_dflt (refine len_lit (n := 6) (by decide) (by rfl) ?_))))) | ((with_reducible show wpAny _ _ (PySem.truthy (Value.str _ _)) _ _ _); (k_dflt (first | refine truthy_T (n := 2) rfl (by decide) ?_ | refine truthy_T (n := 0) rfl (by decide) ?_))) | ((with_reducible show wpAny _ _ (getMethod (Value.ref _) _ _) _ _ _); (k_dflt (refine getm_sub (by ((first | assumption | exact Frag.In.keeps (by assumption) (Fr.keep (by assumption))))) ?_))) | ((with_reducible show wpAny _ _ (execs [] _) _ _ _); ((with_reducible refine wpAny_execs_nil ?_))) | ((with_reducible show wpAny _ _ (execs (_ :: _) _) _ _ _); (((rename Newer _ _ => z9); (with_reducible refine execs_n z9 ?le ?_); (case le => (k_dflt (first | exact Nat.le_refl _ | exact le_s1 | exact le_s2 | exact le_s3 | exact le_s4 | exact le_s5 | exact le_s6 | exact le_s7 | exact le_s8))); clear z9; intro qk tk9 z9))) | ((with_reducible show wpAny _ _ (eval (PySem.Expr.Name _ _) _) _ _ _); ((k_dflt ((refine' nameX_L ?F ?v ?_ ?a ?b); (case F => k_asm); (case b => rfl); (case a => rfl); (case v => rfl))))) | ((with_reducible show wpAny _ _ (eval (PySem.Expr.GeneratorExp _ _ _ _) _) _ _ _); ((k_dflt (refine gen_leaf (by k_asm) (by k_asm) (by k_asm) (by rfl) (by rfl) (by rfl) (by rfl) (by with_unfolding_all rfl) (by decide) (by rfl) (by rfl) (by rfl) ?hroom ?_ (by intro _; with_unfolding_all rfl)); (case hroom => ((simp +zetaDelta only [depth_deeper, units_deeper]; omega)))))) | ((with_reducible show wpAny _ _ (pyIter (Value.ref _)) _ _ _); (((with_reducible show wpAny _ _ (pyIter (Value.ref _)) (fun it s₂ => LoopAtV _ _ _ _ _ _ _ _ _ it s₂) _ _); krs_unr))) | ((with_reducible show wpAny _ _ (callWith _ (Value.ref _) _ _ _) _ _ _); (first | (k_dflt (refine' callWith_app ?k1 ?k2 ?_; (case k1 => k_asm); (case k2 => k_mem))))) | ((with_reducible show wpAny _ _ (getAttr (Value.ref _) _ _) _ _ _); ((k_dflt (refine' app_N ?k1 ?k2 ?k3 ?_; (case k1 => k_asm); (case k2 => k_asm); (case k3 => k_mem)); intro x9 h9 F9 N9 l9; (try k_lt l9); (try k_sweep)))) | ((with_reducible show wpAny _ _ (joinParts _ _) _ _ _); (first | ((k_dflt (refine joinParts_lit (rg_fmt (by assumption)) (rg_len (by assumption)) ?_))) | ((k_dflt (first | (refine joinParts_lit (r := Str.ofString "[A-Z]") (by decide +kernel) (by decide +kernel) ?_) | (refine joinParts_lit (r := Str.ofString "[a-z]") (by decide +kernel) (by decide +kernel) ?_) | (refine joinParts_lit (r := Str.ofString "[0-9]") (by decide +kernel) (by decide +kernel) ?_) | (refine joinParts_lit (r := Str.ofString "[+/]") (by decide +kernel) (by decide +kernel) ?_) | (refine joinParts_lit (r := Str.ofString "[^=]") (by decide +kernel) (by decide +kernel) ?_)))) | (((rename Newer _ _ => z9); (with_reducible refine joinParts_newer z9 ?le ?_); (case le => k_dflt (first | exact Nat.le_refl _ | exact le_s1 | exact le_s2 | exact le_s3 | exact le_s4 | exact le_s5 | exact le_s6 | exact le_s7 | exact le_s8)))))) | ((with_reducible show _ ∧ _); (((with_reducible show AppAt _ _ _ ∧ _); k_dflt (refine ⟨app_at (by k_asm) (by k_mem), ?_⟩)))) | ((with_reducible show wpAny _ _ (storeName _ _ _) _ _ _); ((k_dflt (refine' store_f ?F ?N ?b ?a ?_; (case F => k_asm); (case N => k_asm); (case b => rfl); (case a => rfl); k_whole; intro m' h' F' N'; (try k_sweep))))) | (k_end; wrow_close) | walk1 | dsimp only | (leave1; try dsimp only)))
    (rename Fr _ _ _ _ => F9)
    (rename News _ _ _ _ => N9)
    (rename Newer _ _ => z9)
    simp only [List.push_toArray, List.nil_append, List.cons_append] at N9
    exact trEnd_of hrest (TrSt.intro (vs := vs ++ [.str anyS ta]) F9 N9 rfl rfl rfl rfl rfl rfl rfl (by first | rfl | omega) rfl (by k_mem) (by k_mem) (by k_mem) ⟨z9.1, by have := z9.2; omega⟩ hG (strs_snoc hSt) (lastOld_snoc (fun _ => hta)) hT (by rw [List.length_append]; exact Nat.succ_le_succ hv))
  case rg =>
    intro a z r hR hcs
    subst hcs
    intro x9 D tn n fl ps' hrest hT
    intro h1 g1 d1 k1 m ti nn F N zN hG lx1 lx2 lx3
    refine turn_of ?_
    obtain ⟨e1, f1⟩ := rg_ne hR (Str.ofString "!") (by decide +kernel)
    obtain ⟨e2, f2⟩ := rg_ne hR (Str.ofString "]") (by decide +kernel)
    obtain ⟨e3, f3⟩ := rg_ne hR (Str.ofString "^") (by decide +kernel)
    obtain ⟨e4, f4⟩ := rg_ne hR (Str.ofString "[") (by decide +kernel)
    have j1 := rg_i hR _ e1
    have j3 := rg_i hR _ e3
    have j4 := rg_i hR _ e4
    have j5 := rg_not hR
    have j6 := rg_in hR
    have hln : ((List.length [91, a, 45, z, 93, 42] : Nat) : Int) = 6 := rfl
    have ya := SymA.mk (n := a)
    have yz := SymZ.mk (n := z)
    (repeat' (first | ((try k_unmd); k_unfold; first | ((with_reducible (first | refine afterN_nil ?_ | refine afterN_next ?_ | refine afterN_ret ?_ | refine afterN_brk ?_)); intro z9) | (try dsimp only [List.cons_append, List.nil_append])) | ((with_reducible show wpAny _ _ (subscriptTail _ _ _ _) _ _ _); first | ((with_reducible show wpAny _ _ (subscriptTail (PySem.Expr.Name _ _) (PySem.Expr.Slice _ _ _ _) (Value.str _ _) (Value.ref _)) _ _ _); (((rename Fr _ _ _ _ => F9); (rename News _ _ _ _ => N9); k_dflt (refine' slice_to (s := ⟨_, _, _, _, _⟩) F9 N9 ?r ?_ ?hs ?ht ?hz; (case r => first | exact slice_abc | exact slice_a | exact slice_z); (case hs => with_unfolding_all rfl); (case ht => intro _; with_unfolding_all rfl); (case hz => size_fits)); intro h8 t8 k8 F8 N8; clear F9 N9; (try dsimp only)))) | ((with_reducible show wpAny _ _ (subscriptTail (PySem.Expr.Name _ _) (PySem.Expr.Name _ _) (Value.ref _) (Value.int _ _)) _ _ _); (k_dflt ((refine' item_news ?k1 ?k2 ?k3 ?k4 ?k5 ?_ ?k6); (case k1 => k_asm); (case k2 => k_mem); (case k3 => decide); (case k4 => decide); (case k5 => exact rfl); (case k6 => with_unfolding_all rfl)))) | ((with_reducible show wpAny _ _ (subscriptTail (PySem.Expr.Name _ _) (PySem.Expr.BinOp _ _ _ _) (Value.ref _) (Value.int _ _)) _ _ _); (k_dflt ((refine' item_news ?k1 ?k2 ?k3 ?k4 ?k5 ?_ ?k6); (case k1 => k_asm); (case k2 => k_mem); (case k3 => decide); (case k4 => decide); (case k5 => exact rfl); (case k6 => with_unfolding_all rfl)))) | ((with_reducible show wpAny _ _ (subscriptTail (PySem.Expr.Name _ _) (PySem.Expr.Name _ _) (Value.str _ _) (Value.int _ _)) _ _ _); (k_dflt ((refine' item_lit ?i0 ?i1 ?i2 ?hc ?_ ?is ?it); (case hc => first | assumption | exact Eq.refl 42 | exact Eq.refl 65 | exact Eq.refl 61 | exact Eq.refl 63 | exact Eq.refl 91 | exact Eq.refl 93 | exact Eq.refl 45 | exact Eq.refl 90 | exact Eq.refl 97 | exact Eq.refl 122 | exact Eq.refl 48 | exact Eq.refl 57 | exact Eq.refl 43 | exact Eq.refl 47 | exact Eq.refl 33 | ((rename SymA _ => y9); exact Eq.trans (by rfl) (SymA.rfl y9)) | ((rename SymZ _ => y9); exact Eq.trans (by rfl) (SymZ.rfl y9))); (case i0 => first | decide | omega); (case i1 => first | decide | omega); (case i2 => first | decide | omega); (case is => with_unfolding_all rfl); (case it => intro _; with_unfolding_all rfl))))) | ((with_reducible show wpAny _ _ (exec _ _) _ _ _); first | ((with_reducible show wpAny _ _ (exec (Stmt.While (PySem.Expr.BoolOp _ _ _) _ [] _) _) _ _ _); ((k_dflt (refine whl_leaf ?_)))) | ((with_reducible show wpAny _ _ (exec (Stmt.While (PySem.Expr.Compare _ _ _ _) _ [] _) _) _ _ _); ((k_dflt (refine whl_leaf ?_)))) | ((with_reducible show wpAny _ _ (exec (Stmt.If _ _ _ _) _) _ _ _); (first | (((rename Newer _ _ => z9); (with_reducible refine if_newer z9 ?le ?_); (case le => k_dflt (first | exact Nat.le_refl _ | exact le_s1 | exact le_s2 | exact le_s3 | exact le_s4 | exact le_s5 | exact le_s6 | exact le_s7 | exact le_s8)))) | (refine wpAny_If ?_)))) | ((with_reducible show wpAny _ _ (compareOp _ _ _) _ _ _); first | ((with_reducible show wpAny _ _ (compareOp CmpOp.NotIn (Value.str _ _) (Value.str _ _)) _ _ _); (first | ((k_dflt (refine notin_lit (b := false) (rg_dash (by assumption)) ?_))) | (first | (k_dflt (refine notin_lit (b := true) (by decide +kernel) ?_)) | (k_dflt (refine notin_lit (b := false) (by decide +kernel) ?_))))) | ((with_reducible show wpAny _ _ (compareOp CmpOp.Gt (Value.str _ _) (Value.str _ _)) _ _ _); (k_dflt (refine gt_strF (rg_gt (by assumption)) ?_))) | ((with_reducible show wpAny _ _ (compareOp CmpOp.IsNot (Value.str _ _) (Value.str _ _)) _ _ _); ((k_dflt (refine isnot_old (by first | assumption | rfl | decide +kernel) ?ho ?_); (case ho => first | assumption | (simp only [Newer] at *; (try dsimp only at *); exact ⟨by omega, by omega⟩))))) | ((with_reducible show wpAny _ _ (compareOp CmpOp.NotEq (Value.str _ _) (Value.str _ _)) _ _ _); (refine ne_strT (by assumption) ?_)) | ((with_reducible show wpAny _ _ (compareOp CmpOp.Eq (Value.str _ _) (Value.str _ _)) _ _ _); (refine eq_strF (by assumption) ?_))) | ((with_reducible show wpAny _ _ (call _ _ _) _ _ _); first | ((with_reducible show wpAny _ _ (call (Value.builtin "str.find") _ _) _ _ _); (first | (first | (k_dflt (refine find_lit (r := 2) (rg_find1 (by assumption)) ?_)) | (k_dflt (refine find_lit (r := -1) (rg_find2 (by assumption)) ?_))) | (first | (k_dflt (refine find_lit (r := 2) (by decide +kernel) ?_)) | (k_dflt (refine find_lit (r := -1) (by decide +kernel) ?_))))) | ((with_reducible show wpAny _ _ (call (Value.builtin "re.Pattern.sub") _ _) _ _ _); (first | ((k_dflt (refine sub_rng (by assumption) (by ((first | assumption | exact Frag.In.keeps (by assumption) (Fr.keep (by assumption))))) _ _ _ _ (by (((rename News _ _ _ _ => N9); exact (N9 _ (by k_mem)).1))) (fun h9 t9 tk9 hx9 => ?_)); (((rename Fr _ _ _ _ => F9); (rename News _ _ _ _ => N9); (rename Ext _ _ => hx9); (have F8 := fr_ext F9 hx9); (have N8 := news_ext N9 hx9); clear F9 N9 hx9; (try dsimp only); (try k_fold))))) | ((k_dflt (first | (refine sub_up (by ((first | assumption | exact Frag.In.keeps (by assumption) (Fr.keep (by assumption))))) _ _ _ _ (by (((rename News _ _ _ _ => N9); exact (N9 _ (by k_mem)).1))) (fun h9 t9 tk9 hx9 => ?_)) | (refine sub_lo (by ((first | assumption | exact Frag.In.keeps (by assumption) (Fr.keep (by assumption))))) _ _ _ _ (by (((rename News _ _ _ _ => N9); exact (N9 _ (by k_mem)).1))) (fun h9 t9 tk9 hx9 => ?_)) | (refine sub_fig (by ((first | assumption | exact Frag.In.keeps (by assumption) (Fr.keep (by assumption))))) _ _ _ _ (by (((rename News _ _ _ _ => N9); exact (N9 _ (by k_mem)).1))) (fun h9 t9 tk9 hx9 => ?_)) | (refine sub_ps (by ((first | assumption | exact Frag.In.keeps (by assumption) (Fr.keep (by assumption))))) _ _ _ _ (by (((rename News _ _ _ _ => N9); exact (N9 _ (by k_mem)).1))) (fun h9 t9 tk9 hx9 => ?_)) | (refine sub_ne (by ((first | assumption | exact Frag.In.keeps (by assumption) (Fr.keep (by assumption))))) _ _ _ _ (by (((rename News _ _ _ _ => N9); exact (N9 _ (by k_mem)).1))) (fun h9 t9 tk9 hx9 => ?_))); (((rename Fr _ _ _ _ => F9); (rename News _ _ _ _ => N9); (rename Ext _ _ => hx9); (have F8 := fr_ext F9 hx9); (have N8 := news_ext N9 hx9); clear F9 N9 hx9; (try dsimp only); (try k_fold))))))) | ((with_reducible show wpAny _ _ (call (Value.builtin "str.join") _ _) _ _ _); (first | ((k_dflt (refine join_leaf (by k_asm) (by k_asm) (by assumption) (by assumption) (by assumption) (by assumption) (rg_jok (by assumption)) (rg_join (by assumption)) (Nat.le_of_ble_eq_true rfl) (fun s9 t9 F9 N9 G9 o9 => ?_)); obtain ⟨h9, g9, d9, tk9, os9⟩ := s9; dsimp only at F9 N9 G9 o9; subst o9; (try dsimp only))) | ((k_dflt (first | (refine join_leaf (r := Str.ofString "A-Z") (by k_asm) (by k_asm) (by assumption) (by assumption) (by assumption) (by assumption) (by decide +kernel) (by decide +kernel) (by decide) (fun s9 t9 F9 N9 G9 o9 => ?_)) | (refine join_leaf (r := Str.ofString "a-z") (by k_asm) (by k_asm) (by assumption) (by assumption) (by assumption) (by assumption) (by decide +kernel) (by decide +kernel) (by decide) (fun s9 t9 F9 N9 G9 o9 => ?_)) | (refine join_leaf (r := Str.ofString "0-9") (by k_asm) (by k_asm) (by assumption) (by assumption) (by assumption) (by assumption) (by decide +kernel) (by decide +kernel) (by decide) (fun s9 t9 F9 N9 G9 o9 => ?_))); obtain ⟨h9, g9, d9, tk9, os9⟩ := s9; dsimp only at F9 N9 G9 o9; subst o9; (try dsimp only))))) | ((with_reducible show wpAny _ _ (call (Value.builtin "list.append") _ _) _ _ _); ((k_dflt (refine' append_K ?k1 ?k2 ?k3 ?_ ?z; (case k1 => k_asm); (case k2 => k_asm); (case k3 => k_upd); (case z => size_fits)); intro h' F' N'; (try k_sweep)))) | ((with_reducible show wpAny _ _ (call (Value.builtin "str.replace") _ _) _ _ _); ((k_dflt (refine rep_none (by decide +kernel) ?_)))) | ((with_reducible show wpAny _ _ (call (Value.ref _) _ _) _ _ _); (first | (k_dflt (refine' append_B ?k1 ?k2 ?k3 ?k4 ?_ ?z; (case k1 => k_asm); (case k2 => k_asm); (case k3 => k_mem); (case k4 => k_upd); (case z => size_fits)); intro h9 F9 N9; (try k_sweep)) | (refine' c_escape ?cx ?ct ?ch ?cr ?cu _ _ ?cc ?_; (case cx => ((first | assumption | exact Frag.In.keeps (by assumption) (Fr.keep (by assumption))))); (case ct => ((first | assumption | exact Top.keeps (by assumption) (Fr.keep (by assumption))))); (case ch => with_unfolding_all rfl); (case cr => ((simp +zetaDelta only [depth_deeper, units_deeper]; omega))); (case cu => ((simp +zetaDelta only [depth_deeper, units_deeper]; omega))); (case cc => first | assumption | decide); intro h9 t9 tk9 hx9 hle9 hlt9; (try dsimp only at hle9); (((rename Fr _ _ _ _ => F9); (rename News _ _ _ _ => N9); (rename Ext _ _ => hx9); (have F8 := fr_ext F9 hx9); (have N8 := news_ext N9 hx9); clear F9 N9 hx9; (try dsimp only); (try k_fold)))))) | ((with_reducible show wpAny _ _ (call (Value.builtin "len") _ _) _ _ _); (first | (k_dflt (refine name_len (by omega) ?_)) | (k_dflt (refine len_lit (n := 1) (by decide) (by rfl) ?_)) | (k_dflt (refine len_lit (n := 2) (by decide) (by rfl) ?_)) | (k_dflt (refine len_lit (n := 3) (by decide) (by rfl) ?_)) | (k_dflt (refine len_lit (n := 4) (by decide) (by rfl) ?_)) | (k_dflt (refine len_lit (n := 5) (by decide) (by rfl) ?_)) | (k_dflt (refine len_lit (n := 6) (by decide) (by rfl) ?_))))) | ((with_reducible show wpAny _ _ (PySem.truthy (Value.str _ _)) _ _ _); (k_dflt (first | refine truthy_T (n := 2) rfl (by decide) ?_ | refine truthy_T (n := 0) rfl (by decide) ?_))) | ((with_reducible show wpAny _ _ (getMethod (Value.ref _) _ _) _ _ _); (k_dflt (refine getm_sub (by ((first | assumption | exact Frag.In.keeps (by assumption) (Fr.keep (by assumption))))) ?_))) | ((with_reducible show wpAny _ _ (execs [] _) _ _ _); ((with_reducible refine wpAny_execs_nil ?_))) | ((with_reducible show wpAny _ _ (execs (_ :: _) _) _ _ _); (((rename Newer _ _ => z9); (with_reducible refine execs_n z9 ?le ?_); (case le => (k_dflt (first | exact Nat.le_refl _ | exact le_s1 | exact le_s2 | exact le_s3 | exact le_s4 | exact le_s5 | exact le_s6 | exact le_s7 | exact le_s8))); clear z9; intro qk tk9 z9))) | ((with_reducible show wpAny _ _ (eval (PySem.Expr.Name _ _) _) _ _ _); ((k_dflt ((refine' nameX_L ?F ?v ?_ ?a ?b); (case F => k_asm); (case b => rfl); (case a => rfl); (case v => rfl))))) | ((with_reducible show wpAny _ _ (eval (PySem.Expr.GeneratorExp _ _ _ _) _) _ _ _); ((k_dflt (refine gen_leaf (by k_asm) (by k_asm) (by k_asm) (by rfl) (by rfl) (by rfl) (by rfl) (by with_unfolding_all rfl) (by decide) (by rfl) (by rfl) (by rfl) ?hroom ?_ (by intro _; with_unfolding_all rfl)); (case hroom => ((simp +zetaDelta only [depth_deeper, units_deeper]; omega)))))) | ((with_reducible show wpAny _ _ (pyIter (Value.ref _)) _ _ _); (((with_reducible show wpAny _ _ (pyIter (Value.ref _)) (fun it s₂ => LoopAtV _ _ _ _ _ _ _ _ _ it s₂) _ _); krs_unr))) | ((with_reducible show wpAny _ _ (callWith _ (Value.ref _) _ _ _) _ _ _); (first | (k_dflt (refine' callWith_app ?k1 ?k2 ?_; (case k1 => k_asm); (case k2 => k_mem))))) | ((with_reducible show wpAny _ _ (getAttr (Value.ref _) _ _) _ _ _); ((k_dflt (refine' app_N ?k1 ?k2 ?k3 ?_; (case k1 => k_asm); (case k2 => k_asm); (case k3 => k_mem)); intro x9 h9 F9 N9 l9; (try k_lt l9); (try k_sweep)))) | ((with_reducible show wpAny _ _ (joinParts _ _) _ _ _); (first | ((k_dflt (refine joinParts_lit (rg_fmt (by assumption)) (rg_len (by assumption)) ?_))) | ((k_dflt (first | (refine joinParts_lit (r := Str.ofString "[A-Z]") (by decide +kernel) (by decide +kernel) ?_) | (refine joinParts_lit (r := Str.ofString "[a-z]") (by decide +kernel) (by decide +kernel) ?_) | (refine joinParts_lit (r := Str.ofString "[0-9]") (by decide +kernel) (by decide +kernel) ?_) | (refine joinParts_lit (r := Str.ofString "[+/]") (by decide +kernel) (by decide +kernel) ?_) | (refine joinParts_lit (r := Str.ofString "[^=]") (by decide +kernel) (by decide +kernel) ?_)))) | (((rename Newer _ _ => z9); (with_reducible refine joinParts_newer z9 ?le ?_); (case le => k_dflt (first | exact Nat.le_refl _ | exact le_s1 | exact le_s2 | exact le_s3 | exact le_s4 | exact le_s5 | exact le_s6 | exact le_s7 | exact le_s8)))))) | ((with_reducible show _ ∧ _); (((with_reducible show AppAt _ _ _ ∧ _); k_dflt (refine ⟨app_at (by k_asm) (by k_mem), ?_⟩)))) | ((with_reducible show wpAny _ _ (storeName _ _ _) _ _ _); ((k_dflt (refine' store_f ?F ?N ?b ?a ?_; (case F => k_asm); (case N => k_asm); (case b => rfl); (case a => rfl); k_whole; intro m' h' F' N'; (try k_sweep))))) | (k_end; wrow_close) | walk1 | dsimp only | (leave1; try dsimp only)))
    (rename Fr _ _ _ _ => F9)
    (rename News _ _ _ _ => N9)
    (rename Newer _ _ => z9)
    refine whl_j 4 3 F9 N9 z9 rfl (by first | rfl | omega) ?_ ?_
    · clear F9 N9 z9
      intro h8 t8 tk8 F9 N9 z9
      have hc9 : List.getD [91, a, 45, z, 93, 42] (Int.toNat (((4 : Nat) : Int) - (0 : Nat))) 0 = 93 := rfl
      (repeat' (first | ((try k_unmd); k_unfold; first | ((with_reducible (first | refine afterN_nil ?_ | refine afterN_next ?_ | refine afterN_ret ?_ | refine afterN_brk ?_)); intro z9) | (try dsimp only [List.cons_append, List.nil_append])) | ((with_reducible show wpAny _ _ (subscriptTail _ _ _ _) _ _ _); first | ((with_reducible show wpAny _ _ (subscriptTail (PySem.Expr.Name _ _) (PySem.Expr.Slice _ _ _ _) (Value.str _ _) (Value.ref _)) _ _ _); (((rename Fr _ _ _ _ => F9); (rename News _ _ _ _ => N9); k_dflt (refine' slice_to (s := ⟨_, _, _, _, _⟩) F9 N9 ?r ?_ ?hs ?ht ?hz; (case r => first | exact slice_abc | exact slice_a | exact slice_z); (case hs => with_unfolding_all rfl); (case ht => intro _; with_unfolding_all rfl); (case hz => size_fits)); intro h8 t8 k8 F8 N8; clear F9 N9; (try dsimp only)))) | ((with_reducible show wpAny _ _ (subscriptTail (PySem.Expr.Name _ _) (PySem.Expr.Name _ _) (Value.ref _) (Value.int _ _)) _ _ _); (k_dflt ((refine' item_news ?k1 ?k2 ?k3 ?k4 ?k5 ?_ ?k6); (case k1 => k_asm); (case k2 => k_mem); (case k3 => decide); (case k4 => decide); (case k5 => exact rfl); (case k6 => with_unfolding_all rfl)))) | ((with_reducible show wpAny _ _ (subscriptTail (PySem.Expr.Name _ _) (PySem.Expr.BinOp _ _ _ _) (Value.ref _) (Value.int _ _)) _ _ _); (k_dflt ((refine' item_news ?k1 ?k2 ?k3 ?k4 ?k5 ?_ ?k6); (case k1 => k_asm); (case k2 => k_mem); (case k3 => decide); (case k4 => decide); (case k5 => exact rfl); (case k6 => with_unfolding_all rfl)))) | ((with_reducible show wpAny _ _ (subscriptTail (PySem.Expr.Name _ _) (PySem.Expr.Name _ _) (Value.str _ _) (Value.int _ _)) _ _ _); (k_dflt ((refine' item_lit ?i0 ?i1 ?i2 ?hc ?_ ?is ?it); (case hc => first | assumption | exact Eq.refl 42 | exact Eq.refl 65 | exact Eq.refl 61 | exact Eq.refl 63 | exact Eq.refl 91 | exact Eq.refl 93 | exact Eq.refl 45 | exact Eq.refl 90 | exact Eq.refl 97 | exact Eq.refl 122 | exact Eq.refl 48 | exact Eq.refl 57 | exact Eq.refl 43 | exact Eq.refl 47 | exact Eq.refl 33 | ((rename SymA _ => y9); exact Eq.trans (by rfl) (SymA.rfl y9)) | ((rename SymZ _ => y9); exact Eq.trans (by rfl) (SymZ.rfl y9))); (case i0 => first | decide | omega); (case i1 => first | decide | omega); (case i2 => first | decide | omega); (case is => with_unfolding_all rfl); (case it => intro _; with_unfolding_all rfl))))) | ((with_reducible show wpAny _ _ (exec _ _) _ _ _); first | ((with_reducible show wpAny _ _ (exec (Stmt.While (PySem.Expr.BoolOp _ _ _) _ [] _) _) _ _ _); ((k_dflt (refine whl_leaf ?_)))) | ((with_reducible show wpAny _ _ (exec (Stmt.While (PySem.Expr.Compare _ _ _ _) _ [] _) _) _ _ _); ((k_dflt (refine whl_leaf ?_)))) | ((with_reducible show wpAny _ _ (exec (Stmt.If _ _ _ _) _) _ _ _); (first | (((rename Newer _ _ => z9); (with_reducible refine if_newer z9 ?le ?_); (case le => k_dflt (first | exact Nat.le_refl _ | exact le_s1 | exact le_s2 | exact le_s3 | exact le_s4 | exact le_s5 | exact le_s6 | exact le_s7 | exact le_s8)))) | (refine wpAny_If ?_)))) | ((with_reducible show wpAny _ _ (compareOp _ _ _) _ _ _); first | ((with_reducible show wpAny _ _ (compareOp CmpOp.NotIn (Value.str _ _) (Value.str _ _)) _ _ _); (first | ((k_dflt (refine notin_lit (b := false) (rg_dash (by assumption)) ?_))) | (first | (k_dflt (refine notin_lit (b := true) (by decide +kernel) ?_)) | (k_dflt (refine notin_lit (b := false) (by decide +kernel) ?_))))) | ((with_reducible show wpAny _ _ (compareOp CmpOp.Gt (Value.str _ _) (Value.str _ _)) _ _ _); (k_dflt (refine gt_strF (rg_gt (by assumption)) ?_))) | ((with_reducible show wpAny _ _ (compareOp CmpOp.IsNot (Value.str _ _) (Value.str _ _)) _ _ _); ((k_dflt (refine isnot_old (by first | assumption | rfl | decide +kernel) ?ho ?_); (case ho => first | assumption | (simp only [Newer] at *; (try dsimp only at *); exact ⟨by omega, by omega⟩))))) | ((with_reducible show wpAny _ _ (compareOp CmpOp.NotEq (Value.str _ _) (Value.str _ _)) _ _ _); (refine ne_strT (by assumption) ?_)) | ((with_reducible show wpAny _ _ (compareOp CmpOp.Eq (Value.str _ _) (Value.str _ _)) _ _ _); (refine eq_strF (by assumption) ?_))) | ((with_reducible show wpAny _ _ (call _ _ _) _ _ _); first | ((with_reducible show wpAny _ _ (call (Value.builtin "str.find") _ _) _ _ _); (first | (first | (k_dflt (refine find_lit (r := 2) (rg_find1 (by assumption)) ?_)) | (k_dflt (refine find_lit (r := -1) (rg_find2 (by assumption)) ?_))) | (first | (k_dflt (refine find_lit (r := 2) (by decide +kernel) ?_)) | (k_dflt (refine find_lit (r := -1) (by decide +kernel) ?_))))) | ((with_reducible show wpAny _ _ (call (Value.builtin "re.Pattern.sub") _ _) _ _ _); (first | ((k_dflt (refine sub_rng (by assumption) (by ((first | assumption | exact Frag.In.keeps (by assumption) (Fr.keep (by assumption))))) _ _ _ _ (by (((rename News _ _ _ _ => N9); exact (N9 _ (by k_mem)).1))) (fun h9 t9 tk9 hx9 => ?_)); (((rename Fr _ _ _ _ => F9); (rename News _ _ _ _ => N9); (rename Ext _ _ => hx9); (have F8 := fr_ext F9 hx9); (have N8 := news_ext N9 hx9); clear F9 N9 hx9; (try dsimp only); (try k_fold))))) | ((k_dflt (first | (refine sub_up (by ((first | assumption | exact Frag.In.keeps (by assumption) (Fr.keep (by assumption))))) _ _ _ _ (by (((rename News _ _ _ _ => N9); exact (N9 _ (by k_mem)).1))) (fun h9 t9 tk9 hx9 => ?_)) | (refine sub_lo (by ((first | assumption | exact Frag.In.keeps (by assumption) (Fr.keep (by assumption))))) _ _ _ _ (by (((rename News _ _ _ _ => N9); exact (N9 _ (by k_mem)).1))) (fun h9 t9 tk9 hx9 => ?_)) | (refine sub_fig (by ((first | assumption | exact Frag.In.keeps (by assumption) (Fr.keep (by assumption))))) _ _ _ _ (by (((rename News _ _ _ _ => N9); exact (N9 _ (by k_mem)).1))) (fun h9 t9 tk9 hx9 => ?_)) | (refine sub_ps (by ((first | assumption | exact Frag.In.keeps (by assumption) (Fr.keep (by assumption))))) _ _ _ _ (by (((rename News _ _ _ _ => N9); exact (N9 _ (by k_mem)).1))) (fun h9 t9 tk9 hx9 => ?_)) | (refine sub_ne (by ((first | assumption | exact Frag.In.keeps (by assumption) (Fr.keep (by assumption))))) _ _ _ _ (by (((rename News _ _ _ _ => N9); exact (N9 _ (by k_mem)).1))) (fun h9 t9 tk9 hx9 => ?_))); (((rename Fr _ _ _ _ => F9); (rename News _ _ _ _ => N9); (rename Ext _ _ => hx9); (have F8 := fr_ext F9 hx9); (have N8 := news_ext N9 hx9); clear F9 N9 hx9; (try dsimp only); (try k_fold))))))) | ((with_reducible show wpAny _ _ (call (Value.builtin "str.join") _ _) _ _ _); (first | ((k_dflt (refine join_leaf (by k_asm) (by k_asm) (by assumption) (by assumption) (by assumption) (by assumption) (rg_jok (by assumption)) (rg_join (by assumption)) (Nat.le_of_ble_eq_true rfl) (fun s9 t9 F9 N9 G9 o9 => ?_)); obtain ⟨h9, g9, d9, tk9, os9⟩ := s9; dsimp only at F9 N9 G9 o9; subst o9; (try dsimp only))) | ((k_dflt (first | (refine join_leaf (r := Str.ofString "A-Z") (by k_asm) (by k_asm) (by assumption) (by assumption) (by assumption) (by assumption) (by decide +kernel) (by decide +kernel) (by decide) (fun s9 t9 F9 N9 G9 o9 => ?_)) | (refine join_leaf (r := Str.ofString "a-z") (by k_asm) (by k_asm) (by assumption) (by assumption) (by assumption) (by assumption) (by decide +kernel) (by decide +kernel) (by decide) (fun s9 t9 F9 N9 G9 o9 => ?_)) | (refine join_leaf (r := Str.ofString "0-9") (by k_asm) (by k_asm) (by assumption) (by assumption) (by assumption) (by assumption) (by decide +kernel) (by decide +kernel) (by decide) (fun s9 t9 F9 N9 G9 o9 => ?_))); obtain ⟨h9, g9, d9, tk9, os9⟩ := s9; dsimp only at F9 N9 G9 o9; subst o9; (try dsimp only))))) | ((with_reducible show wpAny _ _ (call (Value.builtin "list.append") _ _) _ _ _); ((k_dflt (refine' append_K ?k1 ?k2 ?k3 ?_ ?z; (case k1 => k_asm); (case k2 => k_asm); (case k3 => k_upd); (case z => size_fits)); intro h' F' N'; (try k_sweep)))) | ((with_reducible show wpAny _ _ (call (Value.builtin "str.replace") _ _) _ _ _); ((k_dflt (refine rep_none (by decide +kernel) ?_)))) | ((with_reducible show wpAny _ _ (call (Value.ref _) _ _) _ _ _); (first | (k_dflt (refine' append_B ?k1 ?k2 ?k3 ?k4 ?_ ?z; (case k1 => k_asm); (case k2 => k_asm); (case k3 => k_mem); (case k4 => k_upd); (case z => size_fits)); intro h9 F9 N9; (try k_sweep)) | (refine' c_escape ?cx ?ct ?ch ?cr ?cu _ _ ?cc ?_; (case cx => ((first | assumption | exact Frag.In.keeps (by assumption) (Fr.keep (by assumption))))); (case ct => ((first | assumption | exact Top.keeps (by assumption) (Fr.keep (by assumption))))); (case ch => with_unfolding_all rfl); (case cr => ((simp +zetaDelta only [depth_deeper, units_deeper]; omega))); (case cu => ((simp +zetaDelta only [depth_deeper, units_deeper]; omega))); (case cc => first | assumption | decide); intro h9 t9 tk9 hx9 hle9 hlt9; (try dsimp only at hle9); (((rename Fr _ _ _ _ => F9); (rename News _ _ _ _ => N9); (rename Ext _ _ => hx9); (have F8 := fr_ext F9 hx9); (have N8 := news_ext N9 hx9); clear F9 N9 hx9; (try dsimp only); (try k_fold)))))) | ((with_reducible show wpAny _ _ (call (Value.builtin "len") _ _) _ _ _); (first | (k_dflt (refine name_len (by omega) ?_)) | (k_dflt (refine len_lit (n := 1) (by decide) (by rfl) ?_)) | (k_dflt (refine len_lit (n := 2) (by decide) (by rfl) ?_)) | (k_dflt (refine len_lit (n := 3) (by decide) (by rfl) ?_)) | (k_dflt (refine len_lit (n := 4) (by decide) (by rfl) ?_)) | (k_dflt (refine len_lit (n := 5) (by decide) (by rfl) ?_)) | (k_dflt (refine len_lit (n := 6) (by decide) (by rfl) ?_))))) | ((with_reducible show wpAny _ _ (PySem.truthy (Value.str _ _)) _ _ _); (k_dflt (first | refine truthy_T (n := 2) rfl (by decide) ?_ | refine truthy_T (n := 0) rfl (by decide) ?_))) | ((with_reducible show wpAny _ _ (getMethod (Value.ref _) _ _) _ _ _); (k_dflt (refine getm_sub (by ((first | assumption | exact Frag.In.keeps (by assumption) (Fr.keep (by assumption))))) ?_))) | ((with_reducible show wpAny _ _ (execs [] _) _ _ _); ((with_reducible refine wpAny_execs_nil ?_))) | ((with_reducible show wpAny _ _ (execs (_ :: _) _) _ _ _); (((rename Newer _ _ => z9); (with_reducible refine execs_n z9 ?le ?_); (case le => (k_dflt (first | exact Nat.le_refl _ | exact le_s1 | exact le_s2 | exact le_s3 | exact le_s4 | exact le_s5 | exact le_s6 | exact le_s7 | exact le_s8))); clear z9; intro qk tk9 z9))) | ((with_reducible show wpAny _ _ (eval (PySem.Expr.Name _ _) _) _ _ _); ((k_dflt ((refine' nameX_L ?F ?v ?_ ?a ?b); (case F => k_asm); (case b => rfl); (case a => rfl); (case v => rfl))))) | ((with_reducible show wpAny _ _ (eval (PySem.Expr.GeneratorExp _ _ _ _) _) _ _ _); ((k_dflt (refine gen_leaf (by k_asm) (by k_asm) (by k_asm) (by rfl) (by rfl) (by rfl) (by rfl) (by with_unfolding_all rfl) (by decide) (by rfl) (by rfl) (by rfl) ?hroom ?_ (by intro _; with_unfolding_all rfl)); (case hroom => ((simp +zetaDelta only [depth_deeper, units_deeper]; omega)))))) | ((with_reducible show wpAny _ _ (pyIter (Value.ref _)) _ _ _); (((with_reducible show wpAny _ _ (pyIter (Value.ref _)) (fun it s₂ => LoopAtV _ _ _ _ _ _ _ _ _ it s₂) _ _); krs_unr))) | ((with_reducible show wpAny _ _ (callWith _ (Value.ref _) _ _ _) _ _ _); (first | (k_dflt (refine' callWith_app ?k1 ?k2 ?_; (case k1 => k_asm); (case k2 => k_mem))))) | ((with_reducible show wpAny _ _ (getAttr (Value.ref _) _ _) _ _ _); ((k_dflt (refine' app_N ?k1 ?k2 ?k3 ?_; (case k1 => k_asm); (case k2 => k_asm); (case k3 => k_mem)); intro x9 h9 F9 N9 l9; (try k_lt l9); (try k_sweep)))) | ((with_reducible show wpAny _ _ (joinParts _ _) _ _ _); (first | ((k_dflt (refine joinParts_lit (rg_fmt (by assumption)) (rg_len (by assumption)) ?_))) | ((k_dflt (first | (refine joinParts_lit (r := Str.ofString "[A-Z]") (by decide +kernel) (by decide +kernel) ?_) | (refine joinParts_lit (r := Str.ofString "[a-z]") (by decide +kernel) (by decide +kernel) ?_) | (refine joinParts_lit (r := Str.ofString "[0-9]") (by decide +kernel) (by decide +kernel) ?_) | (refine joinParts_lit (r := Str.ofString "[+/]") (by decide +kernel) (by decide +kernel) ?_) | (refine joinParts_lit (r := Str.ofString "[^=]") (by decide +kernel) (by decide +kernel) ?_)))) | (((rename Newer _ _ => z9); (with_reducible refine joinParts_newer z9 ?le ?_); (case le => k_dflt (first | exact Nat.le_refl _ | exact le_s1 | exact le_s2 | exact le_s3 | exact le_s4 | exact le_s5 | exact le_s6 | exact le_s7 | exact le_s8)))))) | ((with_reducible show _ ∧ _); (((with_reducible show AppAt _ _ _ ∧ _); k_dflt (refine ⟨app_at (by k_asm) (by k_mem), ?_⟩)))) | ((with_reducible show wpAny _ _ (storeName _ _ _) _ _ _); ((k_dflt (refine' store_f ?F ?N ?b ?a ?_; (case F => k_asm); (case N => k_asm); (case b => rfl); (case a => rfl); k_whole; intro m' h' F' N'; (try k_sweep))))) | (k_end; wrow_close) | walk1 | dsimp only | (leave1; try dsimp only)))
      (rename Fr _ _ _ _ => F9)
      (rename News _ _ _ _ => N9)
      have r1 := rg_rep hR (Str.ofString "\\") (by decide +kernel)
      have r2 := rg_rep hR (Str.ofString "-") (by decide +kernel)
      rcases tab_or hT with rfl | ⟨gA, lA, rfl⟩
      · refine' ⟨_, [.str (one a) _, .str (one z) _], [one a, one z], (fun y => y), #[], _, rfl, F9, N9, News.isList N9 (List.Mem.head _), .cons _ _ (.cons _ _ .nil), hG, ?ht1, ?hE1, .inl ⟨rfl, ?g1, ?hU1, ?hC1⟩⟩
        case ht1 => kn_triples
        case hU1 => k_updF
        case hE1 =>
          intro C1 code1 A1 E1 y1 u1 t1 m1 hA1 hD1 hU1 hy1 hn1 hm1
          obtain ⟨h1, g1, d1, tk1, os1⟩ := t1
          dsimp only at hn1
          simp only [List.mem_cons, List.not_mem_nil, or_false] at hy1
          rcases hy1 with rfl | rfl
          all_goals (clear F9 N9; refine MethodCall_ ?_; refine MethodCall_ ?_; refine ldG hn1 hm1 ?_ rfl rfl rfl)
          · exact elt_tail r1.1 r2.1
          · exact elt_tail r1.2 r2.2
        clear hG
        intro c1 a1 K1 s1 F1 N1 G1 o1 hL1 hK1 X1
        obtain ⟨h1, g1, d1, tk1, os1⟩ := s1
        dsimp only at F1 N1 G1 o1
        subst o1
        clear F9 N9
        (repeat' (first | ((try k_unmd); k_unfold; first | ((with_reducible (first | refine afterN_nil ?_ | refine afterN_next ?_ | refine afterN_ret ?_ | refine afterN_brk ?_)); intro z9) | (try dsimp only [List.cons_append, List.nil_append])) | ((with_reducible show wpAny _ _ (subscriptTail _ _ _ _) _ _ _); first | ((with_reducible show wpAny _ _ (subscriptTail (PySem.Expr.Name _ _) (PySem.Expr.Slice _ _ _ _) (Value.str _ _) (Value.ref _)) _ _ _); (((rename Fr _ _ _ _ => F9); (rename News _ _ _ _ => N9); k_dflt (refine' slice_to (s := ⟨_, _, _, _, _⟩) F9 N9 ?r ?_ ?hs ?ht ?hz; (case r => first | exact slice_abc | exact slice_a | exact slice_z); (case hs => with_unfolding_all rfl); (case ht => intro _; with_unfolding_all rfl); (case hz => size_fits)); intro h8 t8 k8 F8 N8; clear F9 N9; (try dsimp only)))) | ((with_reducible show wpAny _ _ (subscriptTail (PySem.Expr.Name _ _) (PySem.Expr.Name _ _) (Value.ref _) (Value.int _ _)) _ _ _); (k_dflt ((refine' item_news ?k1 ?k2 ?k3 ?k4 ?k5 ?_ ?k6); (case k1 => k_asm); (case k2 => k_mem); (case k3 => decide); (case k4 => decide); (case k5 => exact rfl); (case k6 => with_unfolding_all rfl)))) | ((with_reducible show wpAny _ _ (subscriptTail (PySem.Expr.Name _ _) (PySem.Expr.BinOp _ _ _ _) (Value.ref _) (Value.int _ _)) _ _ _); (k_dflt ((refine' item_news ?k1 ?k2 ?k3 ?k4 ?k5 ?_ ?k6); (case k1 => k_asm); (case k2 => k_mem); (case k3 => decide); (case k4 => decide); (case k5 => exact rfl); (case k6 => with_unfolding_all rfl)))) | ((with_reducible show wpAny _ _ (subscriptTail (PySem.Expr.Name _ _) (PySem.Expr.Name _ _) (Value.str _ _) (Value.int _ _)) _ _ _); (k_dflt ((refine' item_lit ?i0 ?i1 ?i2 ?hc ?_ ?is ?it); (case hc => first | assumption | exact Eq.refl 42 | exact Eq.refl 65 | exact Eq.refl 61 | exact Eq.refl 63 | exact Eq.refl 91 | exact Eq.refl 93 | exact Eq.refl 45 | exact Eq.refl 90 | exact Eq.refl 97 | exact Eq.refl 122 | exact Eq.refl 48 | exact Eq.refl 57 | exact Eq.refl 43 | exact Eq.refl 47 | exact Eq.refl 33 | ((rename SymA _ => y9); exact Eq.trans (by rfl) (SymA.rfl y9)) | ((rename SymZ _ => y9); exact Eq.trans (by rfl) (SymZ.rfl y9))); (case i0 => first | decide | omega); (case i1 => first | decide | omega); (case i2 => first | decide | omega); (case is => with_unfolding_all rfl); (case it => intro _; with_unfolding_all rfl))))) | ((with_reducible show wpAny _ _ (exec _ _) _ _ _); first | ((with_reducible show wpAny _ _ (exec (Stmt.While (PySem.Expr.BoolOp _ _ _) _ [] _) _) _ _ _); ((k_dflt (refine whl_leaf ?_)))) | ((with_reducible show wpAny _ _ (exec (Stmt.While (PySem.Expr.Compare _ _ _ _) _ [] _) _) _ _ _); ((k_dflt (refine whl_leaf ?_)))) | ((with_reducible show wpAny _ _ (exec (Stmt.If _ _ _ _) _) _ _ _); (first | (((rename Newer _ _ => z9); (with_reducible refine if_newer z9 ?le ?_); (case le => k_dflt (first | exact Nat.le_refl _ | exact le_s1 | exact le_s2 | exact le_s3 | exact le_s4 | exact le_s5 | exact le_s6 | exact le_s7 | exact le_s8)))) | (refine wpAny_If ?_)))) | ((with_reducible show wpAny _ _ (compareOp _ _ _) _ _ _); first | ((with_reducible show wpAny _ _ (compareOp CmpOp.NotIn (Value.str _ _) (Value.str _ _)) _ _ _); (first | ((k_dflt (refine notin_lit (b := false) (rg_dash (by assumption)) ?_))) | (first | (k_dflt (refine notin_lit (b := true) (by decide +kernel) ?_)) | (k_dflt (refine notin_lit (b := false) (by decide +kernel) ?_))))) | ((with_reducible show wpAny _ _ (compareOp CmpOp.Gt (Value.str _ _) (Value.str _ _)) _ _ _); (k_dflt (refine gt_strF (rg_gt (by assumption)) ?_))) | ((with_reducible show wpAny _ _ (compareOp CmpOp.IsNot (Value.str _ _) (Value.str _ _)) _ _ _); ((k_dflt (refine isnot_old (by first | assumption | rfl | decide +kernel) ?ho ?_); (case ho => first | assumption | (simp only [Newer] at *; (try dsimp only at *); exact ⟨by omega, by omega⟩))))) | ((with_reducible show wpAny _ _ (compareOp CmpOp.NotEq (Value.str _ _) (Value.str _ _)) _ _ _); (refine ne_strT (by assumption) ?_)) | ((with_reducible show wpAny _ _ (compareOp CmpOp.Eq (Value.str _ _) (Value.str _ _)) _ _ _); (refine eq_strF (by assumption) ?_))) | ((with_reducible show wpAny _ _ (call _ _ _) _ _ _); first | ((with_reducible show wpAny _ _ (call (Value.builtin "str.find") _ _) _ _ _); (first | (first | (k_dflt (refine find_lit (r := 2) (rg_find1 (by assumption)) ?_)) | (k_dflt (refine find_lit (r := -1) (rg_find2 (by assumption)) ?_))) | (first | (k_dflt (refine find_lit (r := 2) (by decide +kernel) ?_)) | (k_dflt (refine find_lit (r := -1) (by decide +kernel) ?_))))) | ((with_reducible show wpAny _ _ (call (Value.builtin "re.Pattern.sub") _ _) _ _ _); (first | ((k_dflt (refine sub_rng (by assumption) (by ((first | assumption | exact Frag.In.keeps (by assumption) (Fr.keep (by assumption))))) _ _ _ _ (by (((rename News _ _ _ _ => N9); exact (N9 _ (by k_mem)).1))) (fun h9 t9 tk9 hx9 => ?_)); (((rename Fr _ _ _ _ => F9); (rename News _ _ _ _ => N9); (rename Ext _ _ => hx9); (have F8 := fr_ext F9 hx9); (have N8 := news_ext N9 hx9); clear F9 N9 hx9; (try dsimp only); (try k_fold))))) | ((k_dflt (first | (refine sub_up (by ((first | assumption | exact Frag.In.keeps (by assumption) (Fr.keep (by assumption))))) _ _ _ _ (by (((rename News _ _ _ _ => N9); exact (N9 _ (by k_mem)).1))) (fun h9 t9 tk9 hx9 => ?_)) | (refine sub_lo (by ((first | assumption | exact Frag.In.keeps (by assumption) (Fr.keep (by assumption))))) _ _ _ _ (by (((rename News _ _ _ _ => N9); exact (N9 _ (by k_mem)).1))) (fun h9 t9 tk9 hx9 => ?_)) | (refine sub_fig (by ((first | assumption | exact Frag.In.keeps (by assumption) (Fr.keep (by assumption))))) _ _ _ _ (by (((rename News _ _ _ _ => N9); exact (N9 _ (by k_mem)).1))) (fun h9 t9 tk9 hx9 => ?_)) | (refine sub_ps (by ((first | assumption | exact Frag.In.keeps (by assumption) (Fr.keep (by assumption))))) _ _ _ _ (by (((rename News _ _ _ _ => N9); exact (N9 _ (by k_mem)).1))) (fun h9 t9 tk9 hx9 => ?_)) | (refine sub_ne (by ((first | assumption | exact Frag.In.keeps (by assumption) (Fr.keep (by assumption))))) _ _ _ _ (by (((rename News _ _ _ _ => N9); exact (N9 _ (by k_mem)).1))) (fun h9 t9 tk9 hx9 => ?_))); (((rename Fr _ _ _ _ => F9); (rename News _ _ _ _ => N9); (rename Ext _ _ => hx9); (have F8 := fr_ext F9 hx9); (have N8 := news_ext N9 hx9); clear F9 N9 hx9; (try dsimp only); (try k_fold))))))) | ((with_reducible show wpAny _ _ (call (Value.builtin "str.join") _ _) _ _ _); (first | ((k_dflt (refine join_leaf (by k_asm) (by k_asm) (by assumption) (by assumption) (by assumption) (by assumption) (rg_jok (by assumption)) (rg_join (by assumption)) (Nat.le_of_ble_eq_true rfl) (fun s9 t9 F9 N9 G9 o9 => ?_)); obtain ⟨h9, g9, d9, tk9, os9⟩ := s9; dsimp only at F9 N9 G9 o9; subst o9; (try dsimp only))) | ((k_dflt (first | (refine join_leaf (r := Str.ofString "A-Z") (by k_asm) (by k_asm) (by assumption) (by assumption) (by assumption) (by assumption) (by decide +kernel) (by decide +kernel) (by decide) (fun s9 t9 F9 N9 G9 o9 => ?_)) | (refine join_leaf (r := Str.ofString "a-z") (by k_asm) (by k_asm) (by assumption) (by assumption) (by assumption) (by assumption) (by decide +kernel) (by decide +kernel) (by decide) (fun s9 t9 F9 N9 G9 o9 => ?_)) | (refine join_leaf (r := Str.ofString "0-9") (by k_asm) (by k_asm) (by assumption) (by assumption) (by assumption) (by assumption) (by decide +kernel) (by decide +kernel) (by decide) (fun s9 t9 F9 N9 G9 o9 => ?_))); obtain ⟨h9, g9, d9, tk9, os9⟩ := s9; dsimp only at F9 N9 G9 o9; subst o9; (try dsimp only))))) | ((with_reducible show wpAny _ _ (call (Value.builtin "list.append") _ _) _ _ _); ((k_dflt (refine' append_K ?k1 ?k2 ?k3 ?_ ?z; (case k1 => k_asm); (case k2 => k_asm); (case k3 => k_upd); (case z => size_fits)); intro h' F' N'; (try k_sweep)))) | ((with_reducible show wpAny _ _ (call (Value.builtin "str.replace") _ _) _ _ _); ((k_dflt (refine rep_none (by decide +kernel) ?_)))) | ((with_reducible show wpAny _ _ (call (Value.ref _) _ _) _ _ _); (first | (k_dflt (refine' append_B ?k1 ?k2 ?k3 ?k4 ?_ ?z; (case k1 => k_asm); (case k2 => k_asm); (case k3 => k_mem); (case k4 => k_upd); (case z => size_fits)); intro h9 F9 N9; (try k_sweep)) | (refine' c_escape ?cx ?ct ?ch ?cr ?cu _ _ ?cc ?_; (case cx => ((first | assumption | exact Frag.In.keeps (by assumption) (Fr.keep (by assumption))))); (case ct => ((first | assumption | exact Top.keeps (by assumption) (Fr.keep (by assumption))))); (case ch => with_unfolding_all rfl); (case cr => ((simp +zetaDelta only [depth_deeper, units_deeper]; omega))); (case cu => ((simp +zetaDelta only [depth_deeper, units_deeper]; omega))); (case cc => first | assumption | decide); intro h9 t9 tk9 hx9 hle9 hlt9; (try dsimp only at hle9); (((rename Fr _ _ _ _ => F9); (rename News _ _ _ _ => N9); (rename Ext _ _ => hx9); (have F8 := fr_ext F9 hx9); (have N8 := news_ext N9 hx9); clear F9 N9 hx9; (try dsimp only); (try k_fold)))))) | ((with_reducible show wpAny _ _ (call (Value.builtin "len") _ _) _ _ _); (first | (k_dflt (refine name_len (by omega) ?_)) | (k_dflt (refine len_lit (n := 1) (by decide) (by rfl) ?_)) | (k_dflt (refine len_lit (n := 2) (by decide) (by rfl) ?_)) | (k_dflt (refine len_lit (n := 3) (by decide) (by rfl) ?_)) | (k_dflt (refine len_lit (n := 4) (by decide) (by rfl) ?_)) | (k_dflt (refine len_lit (n := 5) (by decide) (by rfl) ?_)) | (k_dflt (refine len_lit (n := 6) (by decide) (by rfl) ?_))))) | ((with_reducible show wpAny _ _ (PySem.truthy (Value.str _ _)) _ _ _); (k_dflt (first | refine truthy_T (n := 2) rfl (by decide) ?_ | refine truthy_T (n := 0) rfl (by decide) ?_))) | ((with_reducible show wpAny _ _ (getMethod (Value.ref _) _ _) _ _ _); (k_dflt (refine getm_sub (by ((first | assumption | exact Frag.In.keeps (by assumption) (Fr.keep (by assumption))))) ?_))) | ((with_reducible show wpAny _ _ (execs [] _) _ _ _); ((with_reducible refine wpAny_execs_nil ?_))) | ((with_reducible show wpAny _ _ (execs (_ :: _) _) _ _ _); (((rename Newer _ _ => z9); (with_reducible refine execs_n z9 ?le ?_); (case le => (k_dflt (first | exact Nat.le_refl _ | exact le_s1 | exact le_s2 | exact le_s3 | exact le_s4 | exact le_s5 | exact le_s6 | exact le_s7 | exact le_s8))); clear z9; intro qk tk9 z9))) | ((with_reducible show wpAny _ _ (eval (PySem.Expr.Name _ _) _) _ _ _); ((k_dflt ((refine' nameX_L ?F ?v ?_ ?a ?b); (case F => k_asm); (case b => rfl); (case a => rfl); (case v => rfl))))) | ((with_reducible show wpAny _ _ (eval (PySem.Expr.GeneratorExp _ _ _ _) _) _ _ _); ((k_dflt (refine gen_leaf (by k_asm) (by k_asm) (by k_asm) (by rfl) (by rfl) (by rfl) (by rfl) (by with_unfolding_all rfl) (by decide) (by rfl) (by rfl) (by rfl) ?hroom ?_ (by intro _; with_unfolding_all rfl)); (case hroom => ((simp +zetaDelta only [depth_deeper, units_deeper]; omega)))))) | ((with_reducible show wpAny _ _ (pyIter (Value.ref _)) _ _ _); (((with_reducible show wpAny _ _ (pyIter (Value.ref _)) (fun it s₂ => LoopAtV _ _ _ _ _ _ _ _ _ it s₂) _ _); krs_unr))) | ((with_reducible show wpAny _ _ (callWith _ (Value.ref _) _ _ _) _ _ _); (first | (k_dflt (refine' callWith_app ?k1 ?k2 ?_; (case k1 => k_asm); (case k2 => k_mem))))) | ((with_reducible show wpAny _ _ (getAttr (Value.ref _) _ _) _ _ _); ((k_dflt (refine' app_N ?k1 ?k2 ?k3 ?_; (case k1 => k_asm); (case k2 => k_asm); (case k3 => k_mem)); intro x9 h9 F9 N9 l9; (try k_lt l9); (try k_sweep)))) | ((with_reducible show wpAny _ _ (joinParts _ _) _ _ _); (first | ((k_dflt (refine joinParts_lit (rg_fmt (by assumption)) (rg_len (by assumption)) ?_))) | ((k_dflt (first | (refine joinParts_lit (r := Str.ofString "[A-Z]") (by decide +kernel) (by decide +kernel) ?_) | (refine joinParts_lit (r := Str.ofString "[a-z]") (by decide +kernel) (by decide +kernel) ?_) | (refine joinParts_lit (r := Str.ofString "[0-9]") (by decide +kernel) (by decide +kernel) ?_) | (refine joinParts_lit (r := Str.ofString "[+/]") (by decide +kernel) (by decide +kernel) ?_) | (refine joinParts_lit (r := Str.ofString "[^=]") (by decide +kernel) (by decide +kernel) ?_)))) | (((rename Newer _ _ => z9); (with_reducible refine joinParts_newer z9 ?le ?_); (case le => k_dflt (first | exact Nat.le_refl _ | exact le_s1 | exact le_s2 | exact le_s3 | exact le_s4 | exact le_s5 | exact le_s6 | exact le_s7 | exact le_s8)))))) | ((with_reducible show _ ∧ _); (((with_reducible show AppAt _ _ _ ∧ _); k_dflt (refine ⟨app_at (by k_asm) (by k_mem), ?_⟩)))) | ((with_reducible show wpAny _ _ (storeName _ _ _) _ _ _); ((k_dflt (refine' store_f ?F ?N ?b ?a ?_; (case F => k_asm); (case N => k_asm); (case b => rfl); (case a => rfl); k_whole; intro m' h' F' N'; (try k_sweep))))) | (k_end; wrow_close) | walk1 | dsimp only | (leave1; try dsimp only)))
        (rename Fr _ _ _ _ => F9)
        (rename News _ _ _ _ => N9)
        (rename Newer _ _ => z9)
        try simp only [List.push_toArray, List.nil_append, List.cons_append] at N9
        exact trEnd_of hrest (TrSt.intro (vs := [.str r _]) F9 N9 rfl rfl rfl rfl rfl rfl rfl (by first | rfl | omega) rfl (by k_mem) (by k_mem) (by k_mem) ⟨z9.1, by have := z9.2; omega⟩ (by assumption) (.cons _ _ .nil) (lastOld_snoc (vs := []) (fun _ => (by (simp only [Newer, Old] at *; (try dsimp only at *); exact ⟨by omega, by omega⟩)))) ⟨_, _, rfl⟩ (Nat.le_of_ble_eq_true rfl))
      · refine' ⟨_, [.str (one a) _, .str (one z) _], [one a, one z], (fun y => y), tabT gA lA, _, rfl, F9, N9, News.isList N9 (List.Mem.head _), .cons _ _ (.cons _ _ .nil), hG, ?ht2, ?hE2, .inr ⟨_, rfl, ?hU2, ?hC2⟩⟩
        case ht2 => kn_triples
        case hU2 => k_mem
        case hE2 =>
          intro C1 code1 A1 E1 y1 u1 t1 m1 hA1 hD1 hU1 hy1 hn1 hm1
          obtain ⟨h1, g1, d1, tk1, os1⟩ := t1
          dsimp only at hn1
          simp only [List.mem_cons, List.not_mem_nil, or_false] at hy1
          rcases hy1 with rfl | rfl
          all_goals (clear F9 N9; refine MethodCall_ ?_; refine MethodCall_ ?_; refine ldG hn1 hm1 ?_ rfl rfl rfl)
          · exact elt_tail r1.1 r2.1
          · exact elt_tail r1.2 r2.2
        clear hG
        intro a1 K1 s1 F1 N1 G1 o1 hL1 hK1 X1
        obtain ⟨h1, g1, d1, tk1, os1⟩ := s1
        dsimp only at F1 N1 G1 o1
        subst o1
        clear F9 N9
        (repeat' (first | ((try k_unmd); k_unfold; first | ((with_reducible (first | refine afterN_nil ?_ | refine afterN_next ?_ | refine afterN_ret ?_ | refine afterN_brk ?_)); intro z9) | (try dsimp only [List.cons_append, List.nil_append])) | ((with_reducible show wpAny _ _ (subscriptTail _ _ _ _) _ _ _); first | ((with_reducible show wpAny _ _ (subscriptTail (PySem.Expr.Name _ _) (PySem.Expr.Slice _ _ _ _) (Value.str _ _) (Value.ref _)) _ _ _); (((rename Fr _ _ _ _ => F9); (rename News _ _ _ _ => N9); k_dflt (refine' slice_to (s := ⟨_, _, _, _, _⟩) F9 N9 ?r ?_ ?hs ?ht ?hz; (case r => first | exact slice_abc | exact slice_a | exact slice_z); (case hs => with_unfolding_all rfl); (case ht => intro _; with_unfolding_all rfl); (case hz => size_fits)); intro h8 t8 k8 F8 N8; clear F9 N9; (try dsimp only)))) | ((with_reducible show wpAny _ _ (subscriptTail (PySem.Expr.Name _ _) (PySem.Expr.Name _ _) (Value.ref _) (Value.int _ _)) _ _ _); (k_dflt ((refine' item_news ?k1 ?k2 ?k3 ?k4 ?k5 ?_ ?k6); (case k1 => k_asm); (case k2 => k_mem); (case k3 => decide); (case k4 => decide); (case k5 => exact rfl); (case k6 => with_unfolding_all rfl)))) | ((with_reducible show wpAny _ _ (subscriptTail (PySem.Expr.Name _ _) (PySem.Expr.BinOp _ _ _ _) (Value.ref _) (Value.int _ _)) _ _ _); (k_dflt ((refine' item_news ?k1 ?k2 ?k3 ?k4 ?k5 ?_ ?k6); (case k1 => k_asm); (case k2 => k_mem); (case k3 => decide); (case k4 => decide); (case k5 => exact rfl); (case k6 => with_unfolding_all rfl)))) | ((with_reducible show wpAny _ _ (subscriptTail (PySem.Expr.Name _ _) (PySem.Expr.Name _ _) (Value.str _ _) (Value.int _ _)) _ _ _); (k_dflt ((refine' item_lit ?i0 ?i1 ?i2 ?hc ?_ ?is ?it); (case hc => first | assumption | exact Eq.refl 42 | exact Eq.refl 65 | exact Eq.refl 61 | exact Eq.refl 63 | exact Eq.refl 91 | exact Eq.refl 93 | exact Eq.refl 45 | exact Eq.refl 90 | exact Eq.refl 97 | exact Eq.refl 122 | exact Eq.refl 48 | exact Eq.refl 57 | exact Eq.refl 43 | exact Eq.refl 47 | exact Eq.refl 33 | ((rename SymA _ => y9); exact Eq.trans (by rfl) (SymA.rfl y9)) | ((rename SymZ _ => y9); exact Eq.trans (by rfl) (SymZ.rfl y9))); (case i0 => first | decide | omega); (case i1 => first | decide | omega); (case i2 => first | decide | omega); (case is => with_unfolding_all rfl); (case it => intro _; with_unfolding_all rfl))))) | ((with_reducible show wpAny _ _ (exec _ _) _ _ _); first | ((with_reducible show wpAny _ _ (exec (Stmt.While (PySem.Expr.BoolOp _ _ _) _ [] _) _) _ _ _); ((k_dflt (refine whl_leaf ?_)))) | ((with_reducible show wpAny _ _ (exec (Stmt.While (PySem.Expr.Compare _ _ _ _) _ [] _) _) _ _ _); ((k_dflt (refine whl_leaf ?_)))) | ((with_reducible show wpAny _ _ (exec (Stmt.If _ _ _ _) _) _ _ _); (first | (((rename Newer _ _ => z9); (with_reducible refine if_newer z9 ?le ?_); (case le => k_dflt (first | exact Nat.le_refl _ | exact le_s1 | exact le_s2 | exact le_s3 | exact le_s4 | exact le_s5 | exact le_s6 | exact le_s7 | exact le_s8)))) | (refine wpAny_If ?_)))) | ((with_reducible show wpAny _ _ (compareOp _ _ _) _ _ _); first | ((with_reducible show wpAny _ _ (compareOp CmpOp.NotIn (Value.str _ _) (Value.str _ _)) _ _ _); (first | ((k_dflt (refine notin_lit (b := false) (rg_dash (by assumption)) ?_))) | (first | (k_dflt (refine notin_lit (b := true) (by decide +kernel) ?_)) | (k_dflt (refine notin_lit (b := false) (by decide +kernel) ?_))))) | ((with_reducible show wpAny _ _ (compareOp CmpOp.Gt (Value.str _ _) (Value.str _ _)) _ _ _); (k_dflt (refine gt_strF (rg_gt (by assumption)) ?_))) | ((with_reducible show wpAny _ _ (compareOp CmpOp.IsNot (Value.str _ _) (Value.str _ _)) _ _ _); ((k_dflt (refine isnot_old (by first | assumption | rfl | decide +kernel) ?ho ?_); (case ho => first | assumption | (simp only [Newer] at *; (try dsimp only at *); exact ⟨by omega, by omega⟩))))) | ((with_reducible show wpAny _ _ (compareOp CmpOp.NotEq (Value.str _ _) (Value.str _ _)) _ _ _); (refine ne_strT (by assumption) ?_)) | ((with_reducible show wpAny _ _ (compareOp CmpOp.Eq (Value.str _ _) (Value.str _ _)) _ _ _); (refine eq_strF (by assumption) ?_))) | ((with_reducible show wpAny _ _ (call _ _ _) _ _ _); first | ((with_reducible show wpAny _ _ (call (Value.builtin "str.find") _ _) _ _ _); (first | (first | (k_dflt (refine find_lit (r := 2) (rg_find1 (by assumption)) ?_)) | (k_dflt (refine find_lit (r := -1) (rg_find2 (by assumption)) ?_))) | (first | (k_dflt (refine find_lit (r := 2) (by decide +kernel) ?_)) | (k_dflt (refine find_lit (r := -1) (by decide +kernel) ?_))))) | ((with_reducible show wpAny _ _ (call (Value.builtin "re.Pattern.sub") _ _) _ _ _); (first | ((k_dflt (refine sub_rng (by assumption) (by ((first | assumption | exact Frag.In.keeps (by assumption) (Fr.keep (by assumption))))) _ _ _ _ (by (((rename News _ _ _ _ => N9); exact (N9 _ (by k_mem)).1))) (fun h9 t9 tk9 hx9 => ?_)); (((rename Fr _ _ _ _ => F9); (rename News _ _ _ _ => N9); (rename Ext _ _ => hx9); (have F8 := fr_ext F9 hx9); (have N8 := news_ext N9 hx9); clear F9 N9 hx9; (try dsimp only); (try k_fold))))) | ((k_dflt (first | (refine sub_up (by ((first | assumption | exact Frag.In.keeps (by assumption) (Fr.keep (by assumption))))) _ _ _ _ (by (((rename News _ _ _ _ => N9); exact (N9 _ (by k_mem)).1))) (fun h9 t9 tk9 hx9 => ?_)) | (refine sub_lo (by ((first | assumption | exact Frag.In.keeps (by assumption) (Fr.keep (by assumption))))) _ _ _ _ (by (((rename News _ _ _ _ => N9); exact (N9 _ (by k_mem)).1))) (fun h9 t9 tk9 hx9 => ?_)) | (refine sub_fig (by ((first | assumption | exact Frag.In.keeps (by assumption) (Fr.keep (by assumption))))) _ _ _ _ (by (((rename News _ _ _ _ => N9); exact (N9 _ (by k_mem)).1))) (fun h9 t9 tk9 hx9 => ?_)) | (refine sub_ps (by ((first | assumption | exact Frag.In.keeps (by assumption) (Fr.keep (by assumption))))) _ _ _ _ (by (((rename News _ _ _ _ => N9); exact (N9 _ (by k_mem)).1))) (fun h9 t9 tk9 hx9 => ?_)) | (refine sub_ne (by ((first | assumption | exact Frag.In.keeps (by assumption) (Fr.keep (by assumption))))) _ _ _ _ (by (((rename News _ _ _ _ => N9); exact (N9 _ (by k_mem)).1))) (fun h9 t9 tk9 hx9 => ?_))); (((rename Fr _ _ _ _ => F9); (rename News _ _ _ _ => N9); (rename Ext _ _ => hx9); (have F8 := fr_ext F9 hx9); (have N8 := news_ext N9 hx9); clear F9 N9 hx9; (try dsimp only); (try k_fold))))))) | ((with_reducible show wpAny _ _ (call (Value.builtin "str.join") _ _) _ _ _); (first | ((k_dflt (refine join_leaf (by k_asm) (by k_asm) (by assumption) (by assumption) (by assumption) (by assumption) (rg_jok (by assumption)) (rg_join (by assumption)) (Nat.le_of_ble_eq_true rfl) (fun s9 t9 F9 N9 G9 o9 => ?_)); obtain ⟨h9, g9, d9, tk9, os9⟩ := s9; dsimp only at F9 N9 G9 o9; subst o9; (try dsimp only))) | ((k_dflt (first | (refine join_leaf (r := Str.ofString "A-Z") (by k_asm) (by k_asm) (by assumption) (by assumption) (by assumption) (by assumption) (by decide +kernel) (by decide +kernel) (by decide) (fun s9 t9 F9 N9 G9 o9 => ?_)) | (refine join_leaf (r := Str.ofString "a-z") (by k_asm) (by k_asm) (by assumption) (by assumption) (by assumption) (by assumption) (by decide +kernel) (by decide +kernel) (by decide) (fun s9 t9 F9 N9 G9 o9 => ?_)) | (refine join_leaf (r := Str.ofString "0-9") (by k_asm) (by k_asm) (by assumption) (by assumption) (by assumption) (by assumption) (by decide +kernel) (by decide +kernel) (by decide) (fun s9 t9 F9 N9 G9 o9 => ?_))); obtain ⟨h9, g9, d9, tk9, os9⟩ := s9; dsimp only at F9 N9 G9 o9; subst o9; (try dsimp only))))) | ((with_reducible show wpAny _ _ (call (Value.builtin "list.append") _ _) _ _ _); ((k_dflt (refine' append_K ?k1 ?k2 ?k3 ?_ ?z; (case k1 => k_asm); (case k2 => k_asm); (case k3 => k_upd); (case z => size_fits)); intro h' F' N'; (try k_sweep)))) | ((with_reducible show wpAny _ _ (call (Value.builtin "str.replace") _ _) _ _ _); ((k_dflt (refine rep_none (by decide +kernel) ?_)))) | ((with_reducible show wpAny _ _ (call (Value.ref _) _ _) _ _ _); (first | (k_dflt (refine' append_B ?k1 ?k2 ?k3 ?k4 ?_ ?z; (case k1 => k_asm); (case k2 => k_asm); (case k3 => k_mem); (case k4 => k_upd); (case z => size_fits)); intro h9 F9 N9; (try k_sweep)) | (refine' c_escape ?cx ?ct ?ch ?cr ?cu _ _ ?cc ?_; (case cx => ((first | assumption | exact Frag.In.keeps (by assumption) (Fr.keep (by assumption))))); (case ct => ((first | assumption | exact Top.keeps (by assumption) (Fr.keep (by assumption))))); (case ch => with_unfolding_all rfl); (case cr => ((simp +zetaDelta only [depth_deeper, units_deeper]; omega))); (case cu => ((simp +zetaDelta only [depth_deeper, units_deeper]; omega))); (case cc => first | assumption | decide); intro h9 t9 tk9 hx9 hle9 hlt9; (try dsimp only at hle9); (((rename Fr _ _ _ _ => F9); (rename News _ _ _ _ => N9); (rename Ext _ _ => hx9); (have F8 := fr_ext F9 hx9); (have N8 := news_ext N9 hx9); clear F9 N9 hx9; (try dsimp only); (try k_fold)))))) | ((with_reducible show wpAny _ _ (call (Value.builtin "len") _ _) _ _ _); (first | (k_dflt (refine name_len (by omega) ?_)) | (k_dflt (refine len_lit (n := 1) (by decide) (by rfl) ?_)) | (k_dflt (refine len_lit (n := 2) (by decide) (by rfl) ?_)) | (k_dflt (refine len_lit (n := 3) (by decide) (by rfl) ?_)) | (k_dflt (refine len_lit (n := 4) (by decide) (by rfl) ?_)) | (k_dflt (refine len_lit (n := 5) (by decide) (by rfl) ?_)) | (k_dflt (refine len_lit (n := 6) (by decide) (by rfl) ?_))))) | ((with_reducible show wpAny _ _ (PySem.truthy (Value.str _ _)) _ _ _); (k_dflt (first | refine truthy_T (n := 2) rfl (by decide) ?_ | refine truthy_T (n := 0) rfl (by decide) ?_))) | ((with_reducible show wpAny _ _ (getMethod (Value.ref _) _ _) _ _ _); (k_dflt (refine getm_sub (by ((first | assumption | exact Frag.In.keeps (by assumption) (Fr.keep (by assumption))))) ?_))) | ((with_reducible show wpAny _ _ (execs [] _) _ _ _); ((with_reducible refine wpAny_execs_nil ?_))) | ((with_reducible show wpAny _ _ (execs (_ :: _) _) _ _ _); (((rename Newer _ _ => z9); (with_reducible refine execs_n z9 ?le ?_); (case le => (k_dflt (first | exact Nat.le_refl _ | exact le_s1 | exact le_s2 | exact le_s3 | exact le_s4 | exact le_s5 | exact le_s6 | exact le_s7 | exact le_s8))); clear z9; intro qk tk9 z9))) | ((with_reducible show wpAny _ _ (eval (PySem.Expr.Name _ _) _) _ _ _); ((k_dflt ((refine' nameX_L ?F ?v ?_ ?a ?b); (case F => k_asm); (case b => rfl); (case a => rfl); (case v => rfl))))) | ((with_reducible show wpAny _ _ (eval (PySem.Expr.GeneratorExp _ _ _ _) _) _ _ _); ((k_dflt (refine gen_leaf (by k_asm) (by k_asm) (by k_asm) (by rfl) (by rfl) (by rfl) (by rfl) (by with_unfolding_all rfl) (by decide) (by rfl) (by rfl) (by rfl) ?hroom ?_ (by intro _; with_unfolding_all rfl)); (case hroom => ((simp +zetaDelta only [depth_deeper, units_deeper]; omega)))))) | ((with_reducible show wpAny _ _ (pyIter (Value.ref _)) _ _ _); (((with_reducible show wpAny _ _ (pyIter (Value.ref _)) (fun it s₂ => LoopAtV _ _ _ _ _ _ _ _ _ it s₂) _ _); krs_unr))) | ((with_reducible show wpAny _ _ (callWith _ (Value.ref _) _ _ _) _ _ _); (first | (k_dflt (refine' callWith_app ?k1 ?k2 ?_; (case k1 => k_asm); (case k2 => k_mem))))) | ((with_reducible show wpAny _ _ (getAttr (Value.ref _) _ _) _ _ _); ((k_dflt (refine' app_N ?k1 ?k2 ?k3 ?_; (case k1 => k_asm); (case k2 => k_asm); (case k3 => k_mem)); intro x9 h9 F9 N9 l9; (try k_lt l9); (try k_sweep)))) | ((with_reducible show wpAny _ _ (joinParts _ _) _ _ _); (first | ((k_dflt (refine joinParts_lit (rg_fmt (by assumption)) (rg_len (by assumption)) ?_))) | ((k_dflt (first | (refine joinParts_lit (r := Str.ofString "[A-Z]") (by decide +kernel) (by decide +kernel) ?_) | (refine joinParts_lit (r := Str.ofString "[a-z]") (by decide +kernel) (by decide +kernel) ?_) | (refine joinParts_lit (r := Str.ofString "[0-9]") (by decide +kernel) (by decide +kernel) ?_) | (refine joinParts_lit (r := Str.ofString "[+/]") (by decide +kernel) (by decide +kernel) ?_) | (refine joinParts_lit (r := Str.ofString "[^=]") (by decide +kernel) (by decide +kernel) ?_)))) | (((rename Newer _ _ => z9); (with_reducible refine joinParts_newer z9 ?le ?_); (case le => k_dflt (first | exact Nat.le_refl _ | exact le_s1 | exact le_s2 | exact le_s3 | exact le_s4 | exact le_s5 | exact le_s6 | exact le_s7 | exact le_s8)))))) | ((with_reducible show _ ∧ _); (((with_reducible show AppAt _ _ _ ∧ _); k_dflt (refine ⟨app_at (by k_asm) (by k_mem), ?_⟩)))) | ((with_reducible show wpAny _ _ (storeName _ _ _) _ _ _); ((k_dflt (refine' store_f ?F ?N ?b ?a ?_; (case F => k_asm); (case N => k_asm); (case b => rfl); (case a => rfl); k_whole; intro m' h' F' N'; (try k_sweep))))) | (k_end; wrow_close) | walk1 | dsimp only | (leave1; try dsimp only)))
        (rename Fr _ _ _ _ => F9)
        (rename News _ _ _ _ => N9)
        (rename Newer _ _ => z9)
        try simp only [List.push_toArray, List.nil_append, List.cons_append] at N9
        exact trEnd_of hrest (TrSt.intro (vs := [.str r _]) F9 N9 rfl rfl rfl rfl rfl rfl rfl (by first | rfl | omega) rfl (by k_mem) (by k_mem) (by k_mem) ⟨z9.1, by have := z9.2; omega⟩ (by assumption) (.cons _ _ .nil) (lastOld_snoc (vs := []) (fun _ => (by (simp only [Newer, Old] at *; (try dsimp only at *); exact ⟨by omega, by omega⟩)))) ⟨_, _, rfl⟩ (Nat.le_of_ble_eq_true rfl))
    · clear F9 N9 z9
      intro k8 h8 t8 tk8 hk8 F9 N9 z9
      obtain ⟨c9, hc9, n9⟩ : ∃ c, List.getD [91, a, 45, z, 93, 42] (Int.toNat (((4 : Nat) : Int) - (k8 + 1 : Nat))) 0 = c ∧ (one c == Str.ofString "]") = false := by
        rcases k8 with _ | _ | _ | k8
        · exact ⟨z, rfl, f2⟩
        · exact ⟨45, rfl, by decide +kernel⟩
        · exact ⟨a, rfl, e2⟩
        · omega
      (repeat' (first | ((try k_unmd); k_unfold; first | ((with_reducible (first | refine afterN_nil ?_ | refine afterN_next ?_ | refine afterN_ret ?_ | refine afterN_brk ?_)); intro z9) | (try dsimp only [List.cons_append, List.nil_append])) | ((with_reducible show wpAny _ _ (subscriptTail _ _ _ _) _ _ _); first | ((with_reducible show wpAny _ _ (subscriptTail (PySem.Expr.Name _ _) (PySem.Expr.Slice _ _ _ _) (Value.str _ _) (Value.ref _)) _ _ _); (((rename Fr _ _ _ _ => F9); (rename News _ _ _ _ => N9); k_dflt (refine' slice_to (s := ⟨_, _, _, _, _⟩) F9 N9 ?r ?_ ?hs ?ht ?hz; (case r => first | exact slice_abc | exact slice_a | exact slice_z); (case hs => with_unfolding_all rfl); (case ht => intro _; with_unfolding_all rfl); (case hz => size_fits)); intro h8 t8 k8 F8 N8; clear F9 N9; (try dsimp only)))) | ((with_reducible show wpAny _ _ (subscriptTail (PySem.Expr.Name _ _) (PySem.Expr.Name _ _) (Value.ref _) (Value.int _ _)) _ _ _); (k_dflt ((refine' item_news ?k1 ?k2 ?k3 ?k4 ?k5 ?_ ?k6); (case k1 => k_asm); (case k2 => k_mem); (case k3 => decide); (case k4 => decide); (case k5 => exact rfl); (case k6 => with_unfolding_all rfl)))) | ((with_reducible show wpAny _ _ (subscriptTail (PySem.Expr.Name _ _) (PySem.Expr.BinOp _ _ _ _) (Value.ref _) (Value.int _ _)) _ _ _); (k_dflt ((refine' item_news ?k1 ?k2 ?k3 ?k4 ?k5 ?_ ?k6); (case k1 => k_asm); (case k2 => k_mem); (case k3 => decide); (case k4 => decide); (case k5 => exact rfl); (case k6 => with_unfolding_all rfl)))) | ((with_reducible show wpAny _ _ (subscriptTail (PySem.Expr.Name _ _) (PySem.Expr.Name _ _) (Value.str _ _) (Value.int _ _)) _ _ _); (k_dflt ((refine' item_lit ?i0 ?i1 ?i2 ?hc ?_ ?is ?it); (case hc => first | assumption | exact Eq.refl 42 | exact Eq.refl 65 | exact Eq.refl 61 | exact Eq.refl 63 | exact Eq.refl 91 | exact Eq.refl 93 | exact Eq.refl 45 | exact Eq.refl 90 | exact Eq.refl 97 | exact Eq.refl 122 | exact Eq.refl 48 | exact Eq.refl 57 | exact Eq.refl 43 | exact Eq.refl 47 | exact Eq.refl 33 | ((rename SymA _ => y9); exact Eq.trans (by rfl) (SymA.rfl y9)) | ((rename SymZ _ => y9); exact Eq.trans (by rfl) (SymZ.rfl y9))); (case i0 => first | decide | omega); (case i1 => first | decide | omega); (case i2 => first | decide | omega); (case is => with_unfolding_all rfl); (case it => intro _; with_unfolding_all rfl))))) | ((with_reducible show wpAny _ _ (exec _ _) _ _ _); first | ((with_reducible show wpAny _ _ (exec (Stmt.While (PySem.Expr.BoolOp _ _ _) _ [] _) _) _ _ _); ((k_dflt (refine whl_leaf ?_)))) | ((with_reducible show wpAny _ _ (exec (Stmt.While (PySem.Expr.Compare _ _ _ _) _ [] _) _) _ _ _); ((k_dflt (refine whl_leaf ?_)))) | ((with_reducible show wpAny _ _ (exec (Stmt.If _ _ _ _) _) _ _ _); (first | (((rename Newer _ _ => z9); (with_reducible refine if_newer z9 ?le ?_); (case le => k_dflt (first | exact Nat.le_refl _ | exact le_s1 | exact le_s2 | exact le_s3 | exact le_s4 | exact le_s5 | exact le_s6 | exact le_s7 | exact le_s8)))) | (refine wpAny_If ?_)))) | ((with_reducible show wpAny _ _ (compareOp _ _ _) _ _ _); first | ((with_reducible show wpAny _ _ (compareOp CmpOp.NotIn (Value.str _ _) (Value.str _ _)) _ _ _); (first | ((k_dflt (refine notin_lit (b := false) (rg_dash (by assumption)) ?_))) | (first | (k_dflt (refine notin_lit (b := true) (by decide +kernel) ?_)) | (k_dflt (refine notin_lit (b := false) (by decide +kernel) ?_))))) | ((with_reducible show wpAny _ _ (compareOp CmpOp.Gt (Value.str _ _) (Value.str _ _)) _ _ _); (k_dflt (refine gt_strF (rg_gt (by assumption)) ?_))) | ((with_reducible show wpAny _ _ (compareOp CmpOp.IsNot (Value.str _ _) (Value.str _ _)) _ _ _); ((k_dflt (refine isnot_old (by first | assumption | rfl | decide +kernel) ?ho ?_); (case ho => first | assumption | (simp only [Newer] at *; (try dsimp only at *); exact ⟨by omega, by omega⟩))))) | ((with_reducible show wpAny _ _ (compareOp CmpOp.NotEq (Value.str _ _) (Value.str _ _)) _ _ _); (refine ne_strT (by assumption) ?_)) | ((with_reducible show wpAny _ _ (compareOp CmpOp.Eq (Value.str _ _) (Value.str _ _)) _ _ _); (refine eq_strF (by assumption) ?_))) | ((with_reducible show wpAny _ _ (call _ _ _) _ _ _); first | ((with_reducible show wpAny _ _ (call (Value.builtin "str.find") _ _) _ _ _); (first | (first | (k_dflt (refine find_lit (r := 2) (rg_find1 (by assumption)) ?_)) | (k_dflt (refine find_lit (r := -1) (rg_find2 (by assumption)) ?_))) | (first | (k_dflt (refine find_lit (r := 2) (by decide +kernel) ?_)) | (k_dflt (refine find_lit (r := -1) (by decide +kernel) ?_))))) | ((with_reducible show wpAny _ _ (call (Value.builtin "re.Pattern.sub") _ _) _ _ _); (first | ((k_dflt (refine sub_rng (by assumption) (by ((first | assumption | exact Frag.In.keeps (by assumption) (Fr.keep (by assumption))))) _ _ _ _ (by (((rename News _ _ _ _ => N9); exact (N9 _ (by k_mem)).1))) (fun h9 t9 tk9 hx9 => ?_)); (((rename Fr _ _ _ _ => F9); (rename News _ _ _ _ => N9); (rename Ext _ _ => hx9); (have F8 := fr_ext F9 hx9); (have N8 := news_ext N9 hx9); clear F9 N9 hx9; (try dsimp only); (try k_fold))))) | ((k_dflt (first | (refine sub_up (by ((first | assumption | exact Frag.In.keeps (by assumption) (Fr.keep (by assumption))))) _ _ _ _ (by (((rename News _ _ _ _ => N9); exact (N9 _ (by k_mem)).1))) (fun h9 t9 tk9 hx9 => ?_)) | (refine sub_lo (by ((first | assumption | exact Frag.In.keeps (by assumption) (Fr.keep (by assumption))))) _ _ _ _ (by (((rename News _ _ _ _ => N9); exact (N9 _ (by k_mem)).1))) (fun h9 t9 tk9 hx9 => ?_)) | (refine sub_fig (by ((first | assumption | exact Frag.In.keeps (by assumption) (Fr.keep (by assumption))))) _ _ _ _ (by (((rename News _ _ _ _ => N9); exact (N9 _ (by k_mem)).1))) (fun h9 t9 tk9 hx9 => ?_)) | (refine sub_ps (by ((first | assumption | exact Frag.In.keeps (by assumption) (Fr.keep (by assumption))))) _ _ _ _ (by (((rename News _ _ _ _ => N9); exact (N9 _ (by k_mem)).1))) (fun h9 t9 tk9 hx9 => ?_)) | (refine sub_ne (by ((first | assumption | exact Frag.In.keeps (by assumption) (Fr.keep (by assumption))))) _ _ _ _ (by (((rename News _ _ _ _ => N9); exact (N9 _ (by k_mem)).1))) (fun h9 t9 tk9 hx9 => ?_))); (((rename Fr _ _ _ _ => F9); (rename News _ _ _ _ => N9); (rename Ext _ _ => hx9); (have F8 := fr_ext F9 hx9); (have N8 := news_ext N9 hx9); clear F9 N9 hx9; (try dsimp only); (try k_fold))))))) | ((with_reducible show wpAny _ _ (call (Value.builtin "str.join") _ _) _ _ _); (first | ((k_dflt (refine join_leaf (by k_asm) (by k_asm) (by assumption) (by assumption) (by assumption) (by assumption) (rg_jok (by assumption)) (rg_join (by assumption)) (Nat.le_of_ble_eq_true rfl) (fun s9 t9 F9 N9 G9 o9 => ?_)); obtain ⟨h9, g9, d9, tk9, os9⟩ := s9; dsimp only at F9 N9 G9 o9; subst o9; (try dsimp only))) | ((k_dflt (first | (refine join_leaf (r := Str.ofString "A-Z") (by k_asm) (by k_asm) (by assumption) (by assumption) (by assumption) (by assumption) (by decide +kernel) (by decide +kernel) (by decide) (fun s9 t9 F9 N9 G9 o9 => ?_)) | (refine join_leaf (r := Str.ofString "a-z") (by k_asm) (by k_asm) (by assumption) (by assumption) (by assumption) (by assumption) (by decide +kernel) (by decide +kernel) (by decide) (fun s9 t9 F9 N9 G9 o9 => ?_)) | (refine join_leaf (r := Str.ofString "0-9") (by k_asm) (by k_asm) (by assumption) (by assumption) (by assumption) (by assumption) (by decide +kernel) (by decide +kernel) (by decide) (fun s9 t9 F9 N9 G9 o9 => ?_))); obtain ⟨h9, g9, d9, tk9, os9⟩ := s9; dsimp only at F9 N9 G9 o9; subst o9; (try dsimp only))))) | ((with_reducible show wpAny _ _ (call (Value.builtin "list.append") _ _) _ _ _); ((k_dflt (refine' append_K ?k1 ?k2 ?k3 ?_ ?z; (case k1 => k_asm); (case k2 => k_asm); (case k3 => k_upd); (case z => size_fits)); intro h' F' N'; (try k_sweep)))) | ((with_reducible show wpAny _ _ (call (Value.builtin "str.replace") _ _) _ _ _); ((k_dflt (refine rep_none (by decide +kernel) ?_)))) | ((with_reducible show wpAny _ _ (call (Value.ref _) _ _) _ _ _); (first | (k_dflt (refine' append_B ?k1 ?k2 ?k3 ?k4 ?_ ?z; (case k1 => k_asm); (case k2 => k_asm); (case k3 => k_mem); (case k4 => k_upd); (case z => size_fits)); intro h9 F9 N9; (try k_sweep)) | (refine' c_escape ?cx ?ct ?ch ?cr ?cu _ _ ?cc ?_; (case cx => ((first | assumption | exact Frag.In.keeps (by assumption) (Fr.keep (by assumption))))); (case ct => ((first | assumption | exact Top.keeps (by assumption) (Fr.keep (by assumption))))); (case ch => with_unfolding_all rfl); (case cr => ((simp +zetaDelta only [depth_deeper, units_deeper]; omega))); (case cu => ((simp +zetaDelta only [depth_deeper, units_deeper]; omega))); (case cc => first | assumption | decide); intro h9 t9 tk9 hx9 hle9 hlt9; (try dsimp only at hle9); (((rename Fr _ _ _ _ => F9); (rename News _ _ _ _ => N9); (rename Ext _ _ => hx9); (have F8 := fr_ext F9 hx9); (have N8 := news_ext N9 hx9); clear F9 N9 hx9; (try dsimp only); (try k_fold)))))) | ((with_reducible show wpAny _ _ (call (Value.builtin "len") _ _) _ _ _); (first | (k_dflt (refine name_len (by omega) ?_)) | (k_dflt (refine len_lit (n := 1) (by decide) (by rfl) ?_)) | (k_dflt (refine len_lit (n := 2) (by decide) (by rfl) ?_)) | (k_dflt (refine len_lit (n := 3) (by decide) (by rfl) ?_)) | (k_dflt (refine len_lit (n := 4) (by decide) (by rfl) ?_)) | (k_dflt (refine len_lit (n := 5) (by decide) (by rfl) ?_)) | (k_dflt (refine len_lit (n := 6) (by decide) (by rfl) ?_))))) | ((with_reducible show wpAny _ _ (PySem.truthy (Value.str _ _)) _ _ _); (k_dflt (first | refine truthy_T (n := 2) rfl (by decide) ?_ | refine truthy_T (n := 0) rfl (by decide) ?_))) | ((with_reducible show wpAny _ _ (getMethod (Value.ref _) _ _) _ _ _); (k_dflt (refine getm_sub (by ((first | assumption | exact Frag.In.keeps (by assumption) (Fr.keep (by assumption))))) ?_))) | ((with_reducible show wpAny _ _ (execs [] _) _ _ _); ((with_reducible refine wpAny_execs_nil ?_))) | ((with_reducible show wpAny _ _ (execs (_ :: _) _) _ _ _); (((rename Newer _ _ => z9); (with_reducible refine execs_n z9 ?le ?_); (case le => (k_dflt (first | exact Nat.le_refl _ | exact le_s1 | exact le_s2 | exact le_s3 | exact le_s4 | exact le_s5 | exact le_s6 | exact le_s7 | exact le_s8))); clear z9; intro qk tk9 z9))) | ((with_reducible show wpAny _ _ (eval (PySem.Expr.Name _ _) _) _ _ _); ((k_dflt ((refine' nameX_L ?F ?v ?_ ?a ?b); (case F => k_asm); (case b => rfl); (case a => rfl); (case v => rfl))))) | ((with_reducible show wpAny _ _ (eval (PySem.Expr.GeneratorExp _ _ _ _) _) _ _ _); ((k_dflt (refine gen_leaf (by k_asm) (by k_asm) (by k_asm) (by rfl) (by rfl) (by rfl) (by rfl) (by with_unfolding_all rfl) (by decide) (by rfl) (by rfl) (by rfl) ?hroom ?_ (by intro _; with_unfolding_all rfl)); (case hroom => ((simp +zetaDelta only [depth_deeper, units_deeper]; omega)))))) | ((with_reducible show wpAny _ _ (pyIter (Value.ref _)) _ _ _); (((with_reducible show wpAny _ _ (pyIter (Value.ref _)) (fun it s₂ => LoopAtV _ _ _ _ _ _ _ _ _ it s₂) _ _); krs_unr))) | ((with_reducible show wpAny _ _ (callWith _ (Value.ref _) _ _ _) _ _ _); (first | (k_dflt (refine' callWith_app ?k1 ?k2 ?_; (case k1 => k_asm); (case k2 => k_mem))))) | ((with_reducible show wpAny _ _ (getAttr (Value.ref _) _ _) _ _ _); ((k_dflt (refine' app_N ?k1 ?k2 ?k3 ?_; (case k1 => k_asm); (case k2 => k_asm); (case k3 => k_mem)); intro x9 h9 F9 N9 l9; (try k_lt l9); (try k_sweep)))) | ((with_reducible show wpAny _ _ (joinParts _ _) _ _ _); (first | ((k_dflt (refine joinParts_lit (rg_fmt (by assumption)) (rg_len (by assumption)) ?_))) | ((k_dflt (first | (refine joinParts_lit (r := Str.ofString "[A-Z]") (by decide +kernel) (by decide +kernel) ?_) | (refine joinParts_lit (r := Str.ofString "[a-z]") (by decide +kernel) (by decide +kernel) ?_) | (refine joinParts_lit (r := Str.ofString "[0-9]") (by decide +kernel) (by decide +kernel) ?_) | (refine joinParts_lit (r := Str.ofString "[+/]") (by decide +kernel) (by decide +kernel) ?_) | (refine joinParts_lit (r := Str.ofString "[^=]") (by decide +kernel) (by decide +kernel) ?_)))) | (((rename Newer _ _ => z9); (with_reducible refine joinParts_newer z9 ?le ?_); (case le => k_dflt (first | exact Nat.le_refl _ | exact le_s1 | exact le_s2 | exact le_s3 | exact le_s4 | exact le_s5 | exact le_s6 | exact le_s7 | exact le_s8)))))) | ((with_reducible show _ ∧ _); (((with_reducible show AppAt _ _ _ ∧ _); k_dflt (refine ⟨app_at (by k_asm) (by k_mem), ?_⟩)))) | ((with_reducible show wpAny _ _ (storeName _ _ _) _ _ _); ((k_dflt (refine' store_f ?F ?N ?b ?a ?_; (case F => k_asm); (case N => k_asm); (case b => rfl); (case a => rfl); k_whole; intro m' h' F' N'; (try k_sweep))))) | (k_end; wrow_close) | walk1 | dsimp only | (leave1; try dsimp only)))
      exact ⟨rfl, _, _, _, rfl, by assumption, by assumption, by (rename Newer _ _ => z9); refine ⟨z9.1, ?_⟩; have := z9.2; (try dsimp only); omega⟩
  case ps =>
    intro hcs
    subst hcs
    intro x9 D tn n gA lA t0 hrest
    intro h1 g1 d1 k1 m ti nn F N zN hG lx1 lx2 lx3
    refine turn_of ?_
    have hln : ((List.length [42, 91, 43, 47, 93, 42] : Nat) : Int) = 6 := rfl
    (repeat' (first | ((try k_unmd); k_unfold; first | ((with_reducible (first | refine afterN_nil ?_ | refine afterN_next ?_ | refine afterN_ret ?_ | refine afterN_brk ?_)); intro z9) | (try dsimp only [List.cons_append, List.nil_append])) | ((with_reducible show wpAny _ _ (subscriptTail _ _ _ _) _ _ _); first | ((with_reducible show wpAny _ _ (subscriptTail (PySem.Expr.Name _ _) (PySem.Expr.Slice _ _ _ _) (Value.str _ _) (Value.ref _)) _ _ _); (((rename Fr _ _ _ _ => F9); (rename News _ _ _ _ => N9); k_dflt (refine' slice_to (s := ⟨_, _, _, _, _⟩) F9 N9 ?r ?_ ?hs ?ht ?hz; (case r => first | exact slice_abc | exact slice_a | exact slice_z); (case hs => with_unfolding_all rfl); (case ht => intro _; with_unfolding_all rfl); (case hz => size_fits)); intro h8 t8 k8 F8 N8; clear F9 N9; (try dsimp only)))) | ((with_reducible show wpAny _ _ (subscriptTail (PySem.Expr.Name _ _) (PySem.Expr.Name _ _) (Value.ref _) (Value.int _ _)) _ _ _); (k_dflt ((refine' item_news ?k1 ?k2 ?k3 ?k4 ?k5 ?_ ?k6); (case k1 => k_asm); (case k2 => k_mem); (case k3 => decide); (case k4 => decide); (case k5 => exact rfl); (case k6 => with_unfolding_all rfl)))) | ((with_reducible show wpAny _ _ (subscriptTail (PySem.Expr.Name _ _) (PySem.Expr.BinOp _ _ _ _) (Value.ref _) (Value.int _ _)) _ _ _); (k_dflt ((refine' item_news ?k1 ?k2 ?k3 ?k4 ?k5 ?_ ?k6); (case k1 => k_asm); (case k2 => k_mem); (case k3 => decide); (case k4 => decide); (case k5 => exact rfl); (case k6 => with_unfolding_all rfl)))) | ((with_reducible show wpAny _ _ (subscriptTail (PySem.Expr.Name _ _) (PySem.Expr.Name _ _) (Value.str _ _) (Value.int _ _)) _ _ _); (k_dflt ((refine' item_lit ?i0 ?i1 ?i2 ?hc ?_ ?is ?it); (case hc => first | assumption | exact Eq.refl 42 | exact Eq.refl 65 | exact Eq.refl 61 | exact Eq.refl 63 | exact Eq.refl 91 | exact Eq.refl 93 | exact Eq.refl 45 | exact Eq.refl 90 | exact Eq.refl 97 | exact Eq.refl 122 | exact Eq.refl 48 | exact Eq.refl 57 | exact Eq.refl 43 | exact Eq.refl 47 | exact Eq.refl 33 | ((rename SymA _ => y9); exact Eq.trans (by rfl) (SymA.rfl y9)) | ((rename SymZ _ => y9); exact Eq.trans (by rfl) (SymZ.rfl y9))); (case i0 => first | decide | omega); (case i1 => first | decide | omega); (case i2 => first | decide | omega); (case is => with_unfolding_all rfl); (case it => intro _; with_unfolding_all rfl))))) | ((with_reducible show wpAny _ _ (exec _ _) _ _ _); first | ((with_reducible show wpAny _ _ (exec (Stmt.While (PySem.Expr.BoolOp _ _ _) _ [] _) _) _ _ _); ((k_dflt (refine whl_leaf ?_)))) | ((with_reducible show wpAny _ _ (exec (Stmt.While (PySem.Expr.Compare _ _ _ _) _ [] _) _) _ _ _); ((k_dflt (refine whl_leaf ?_)))) | ((with_reducible show wpAny _ _ (exec (Stmt.If _ _ _ _) _) _ _ _); (first | (((rename Newer _ _ => z9); (with_reducible refine if_newer z9 ?le ?_); (case le => k_dflt (first | exact Nat.le_refl _ | exact le_s1 | exact le_s2 | exact le_s3 | exact le_s4 | exact le_s5 | exact le_s6 | exact le_s7 | exact le_s8)))) | (refine wpAny_If ?_)))) | ((with_reducible show wpAny _ _ (compareOp _ _ _) _ _ _); first | ((with_reducible show wpAny _ _ (compareOp CmpOp.NotIn (Value.str _ _) (Value.str _ _)) _ _ _); (first | ((k_dflt (refine notin_lit (b := false) (rg_dash (by assumption)) ?_))) | (first | (k_dflt (refine notin_lit (b := true) (by decide +kernel) ?_)) | (k_dflt (refine notin_lit (b := false) (by decide +kernel) ?_))))) | ((with_reducible show wpAny _ _ (compareOp CmpOp.Gt (Value.str _ _) (Value.str _ _)) _ _ _); (k_dflt (refine gt_strF (rg_gt (by assumption)) ?_))) | ((with_reducible show wpAny _ _ (compareOp CmpOp.IsNot (Value.str _ _) (Value.str _ _)) _ _ _); ((k_dflt (refine isnot_old (by first | assumption | rfl | decide +kernel) ?ho ?_); (case ho => first | assumption | (simp only [Newer] at *; (try dsimp only at *); exact ⟨by omega, by omega⟩))))) | ((with_reducible show wpAny _ _ (compareOp CmpOp.NotEq (Value.str _ _) (Value.str _ _)) _ _ _); (refine ne_strT (by assumption) ?_)) | ((with_reducible show wpAny _ _ (compareOp CmpOp.Eq (Value.str _ _) (Value.str _ _)) _ _ _); (refine eq_strF (by assumption) ?_))) | ((with_reducible show wpAny _ _ (call _ _ _) _ _ _); first | ((with_reducible show wpAny _ _ (call (Value.builtin "str.find") _ _) _ _ _); (first | (first | (k_dflt (refine find_lit (r := 2) (rg_find1 (by assumption)) ?_)) | (k_dflt (refine find_lit (r := -1) (rg_find2 (by assumption)) ?_))) | (first | (k_dflt (refine find_lit (r := 2) (by decide +kernel) ?_)) | (k_dflt (refine find_lit (r := -1) (by decide +kernel) ?_))))) | ((with_reducible show wpAny _ _ (call (Value.builtin "re.Pattern.sub") _ _) _ _ _); (first | ((k_dflt (refine sub_rng (by assumption) (by ((first | assumption | exact Frag.In.keeps (by assumption) (Fr.keep (by assumption))))) _ _ _ _ (by (((rename News _ _ _ _ => N9); exact (N9 _ (by k_mem)).1))) (fun h9 t9 tk9 hx9 => ?_)); (((rename Fr _ _ _ _ => F9); (rename News _ _ _ _ => N9); (rename Ext _ _ => hx9); (have F8 := fr_ext F9 hx9); (have N8 := news_ext N9 hx9); clear F9 N9 hx9; (try dsimp only); (try k_fold))))) | ((k_dflt (first | (refine sub_up (by ((first | assumption | exact Frag.In.keeps (by assumption) (Fr.keep (by assumption))))) _ _ _ _ (by (((rename News _ _ _ _ => N9); exact (N9 _ (by k_mem)).1))) (fun h9 t9 tk9 hx9 => ?_)) | (refine sub_lo (by ((first | assumption | exact Frag.In.keeps (by assumption) (Fr.keep (by assumption))))) _ _ _ _ (by (((rename News _ _ _ _ => N9); exact (N9 _ (by k_mem)).1))) (fun h9 t9 tk9 hx9 => ?_)) | (refine sub_fig (by ((first | assumption | exact Frag.In.keeps (by assumption) (Fr.keep (by assumption))))) _ _ _ _ (by (((rename News _ _ _ _ => N9); exact (N9 _ (by k_mem)).1))) (fun h9 t9 tk9 hx9 => ?_)) | (refine sub_ps (by ((first | assumption | exact Frag.In.keeps (by assumption) (Fr.keep (by assumption))))) _ _ _ _ (by (((rename News _ _ _ _ => N9); exact (N9 _ (by k_mem)).1))) (fun h9 t9 tk9 hx9 => ?_)) | (refine sub_ne (by ((first | assumption | exact Frag.In.keeps (by assumption) (Fr.keep (by assumption))))) _ _ _ _ (by (((rename News _ _ _ _ => N9); exact (N9 _ (by k_mem)).1))) (fun h9 t9 tk9 hx9 => ?_))); (((rename Fr _ _ _ _ => F9); (rename News _ _ _ _ => N9); (rename Ext _ _ => hx9); (have F8 := fr_ext F9 hx9); (have N8 := news_ext N9 hx9); clear F9 N9 hx9; (try dsimp only); (try k_fold))))))) | ((with_reducible show wpAny _ _ (call (Value.builtin "str.join") _ _) _ _ _); (first | ((k_dflt (refine join_leaf (by k_asm) (by k_asm) (by assumption) (by assumption) (by assumption) (by assumption) (rg_jok (by assumption)) (rg_join (by assumption)) (Nat.le_of_ble_eq_true rfl) (fun s9 t9 F9 N9 G9 o9 => ?_)); obtain ⟨h9, g9, d9, tk9, os9⟩ := s9; dsimp only at F9 N9 G9 o9; subst o9; (try dsimp only))) | ((k_dflt (first | (refine join_leaf (r := Str.ofString "A-Z") (by k_asm) (by k_asm) (by assumption) (by assumption) (by assumption) (by assumption) (by decide +kernel) (by decide +kernel) (by decide) (fun s9 t9 F9 N9 G9 o9 => ?_)) | (refine join_leaf (r := Str.ofString "a-z") (by k_asm) (by k_asm) (by assumption) (by assumption) (by assumption) (by assumption) (by decide +kernel) (by decide +kernel) (by decide) (fun s9 t9 F9 N9 G9 o9 => ?_)) | (refine join_leaf (r := Str.ofString "0-9") (by k_asm) (by k_asm) (by assumption) (by assumption) (by assumption) (by assumption) (by decide +kernel) (by decide +kernel) (by decide) (fun s9 t9 F9 N9 G9 o9 => ?_))); obtain ⟨h9, g9, d9, tk9, os9⟩ := s9; dsimp only at F9 N9 G9 o9; subst o9; (try dsimp only))))) | ((with_reducible show wpAny _ _ (call (Value.builtin "list.append") _ _) _ _ _); ((k_dflt (refine' append_K ?k1 ?k2 ?k3 ?_ ?z; (case k1 => k_asm); (case k2 => k_asm); (case k3 => k_upd); (case z => size_fits)); intro h' F' N'; (try k_sweep)))) | ((with_reducible show wpAny _ _ (call (Value.builtin "str.replace") _ _) _ _ _); ((k_dflt (refine rep_none (by decide +kernel) ?_)))) | ((with_reducible show wpAny _ _ (call (Value.ref _) _ _) _ _ _); (first | (k_dflt (refine' append_B ?k1 ?k2 ?k3 ?k4 ?_ ?z; (case k1 => k_asm); (case k2 => k_asm); (case k3 => k_mem); (case k4 => k_upd); (case z => size_fits)); intro h9 F9 N9; (try k_sweep)) | (refine' c_escape ?cx ?ct ?ch ?cr ?cu _ _ ?cc ?_; (case cx => ((first | assumption | exact Frag.In.keeps (by assumption) (Fr.keep (by assumption))))); (case ct => ((first | assumption | exact Top.keeps (by assumption) (Fr.keep (by assumption))))); (case ch => with_unfolding_all rfl); (case cr => ((simp +zetaDelta only [depth_deeper, units_deeper]; omega))); (case cu => ((simp +zetaDelta only [depth_deeper, units_deeper]; omega))); (case cc => first | assumption | decide); intro h9 t9 tk9 hx9 hle9 hlt9; (try dsimp only at hle9); (((rename Fr _ _ _ _ => F9); (rename News _ _ _ _ => N9); (rename Ext _ _ => hx9); (have F8 := fr_ext F9 hx9); (have N8 := news_ext N9 hx9); clear F9 N9 hx9; (try dsimp only); (try k_fold)))))) | ((with_reducible show wpAny _ _ (call (Value.builtin "len") _ _) _ _ _); (first | (k_dflt (refine name_len (by omega) ?_)) | (k_dflt (refine len_lit (n := 1) (by decide) (by rfl) ?_)) | (k_dflt (refine len_lit (n := 2) (by decide) (by rfl) ?_)) | (k_dflt (refine len_lit (n := 3) (by decide) (by rfl) ?_)) | (k_dflt (refine len_lit (n := 4) (by decide) (by rfl) ?_)) | (k_dflt (refine len_lit (n := 5) (by decide) (by rfl) ?_)) | (k_dflt (refine len_lit (n := 6) (by decide) (by rfl) ?_))))) | ((with_reducible show wpAny _ _ (PySem.truthy (Value.str _ _)) _ _ _); (k_dflt (first | refine truthy_T (n := 2) rfl (by decide) ?_ | refine truthy_T (n := 0) rfl (by decide) ?_))) | ((with_reducible show wpAny _ _ (getMethod (Value.ref _) _ _) _ _ _); (k_dflt (refine getm_sub (by ((first | assumption | exact Frag.In.keeps (by assumption) (Fr.keep (by assumption))))) ?_))) | ((with_reducible show wpAny _ _ (execs [] _) _ _ _); ((with_reducible refine wpAny_execs_nil ?_))) | ((with_reducible show wpAny _ _ (execs (_ :: _) _) _ _ _); (((rename Newer _ _ => z9); (with_reducible refine execs_n z9 ?le ?_); (case le => (k_dflt (first | exact Nat.le_refl _ | exact le_s1 | exact le_s2 | exact le_s3 | exact le_s4 | exact le_s5 | exact le_s6 | exact le_s7 | exact le_s8))); clear z9; intro qk tk9 z9))) | ((with_reducible show wpAny _ _ (eval (PySem.Expr.Name _ _) _) _ _ _); ((k_dflt ((refine' nameX_L ?F ?v ?_ ?a ?b); (case F => k_asm); (case b => rfl); (case a => rfl); (case v => rfl))))) | ((with_reducible show wpAny _ _ (eval (PySem.Expr.GeneratorExp _ _ _ _) _) _ _ _); ((k_dflt (refine gen_leaf (by k_asm) (by k_asm) (by k_asm) (by rfl) (by rfl) (by rfl) (by rfl) (by with_unfolding_all rfl) (by decide) (by rfl) (by rfl) (by rfl) ?hroom ?_ (by intro _; with_unfolding_all rfl)); (case hroom => ((simp +zetaDelta only [depth_deeper, units_deeper]; omega)))))) | ((with_reducible show wpAny _ _ (pyIter (Value.ref _)) _ _ _); (((with_reducible show wpAny _ _ (pyIter (Value.ref _)) (fun it s₂ => LoopAtV _ _ _ _ _ _ _ _ _ it s₂) _ _); krs_unr))) | ((with_reducible show wpAny _ _ (callWith _ (Value.ref _) _ _ _) _ _ _); (first | (k_dflt (refine' callWith_app ?k1 ?k2 ?_; (case k1 => k_asm); (case k2 => k_mem))))) | ((with_reducible show wpAny _ _ (getAttr (Value.ref _) _ _) _ _ _); ((k_dflt (refine' app_N ?k1 ?k2 ?k3 ?_; (case k1 => k_asm); (case k2 => k_asm); (case k3 => k_mem)); intro x9 h9 F9 N9 l9; (try k_lt l9); (try k_sweep)))) | ((with_reducible show wpAny _ _ (joinParts _ _) _ _ _); (first | ((k_dflt (refine joinParts_lit (rg_fmt (by assumption)) (rg_len (by assumption)) ?_))) | ((k_dflt (first | (refine joinParts_lit (r := Str.ofString "[A-Z]") (by decide +kernel) (by decide +kernel) ?_) | (refine joinParts_lit (r := Str.ofString "[a-z]") (by decide +kernel) (by decide +kernel) ?_) | (refine joinParts_lit (r := Str.ofString "[0-9]") (by decide +kernel) (by decide +kernel) ?_) | (refine joinParts_lit (r := Str.ofString "[+/]") (by decide +kernel) (by decide +kernel) ?_) | (refine joinParts_lit (r := Str.ofString "[^=]") (by decide +kernel) (by decide +kernel) ?_)))) | (((rename Newer _ _ => z9); (with_reducible refine joinParts_newer z9 ?le ?_); (case le => k_dflt (first | exact Nat.le_refl _ | exact le_s1 | exact le_s2 | exact le_s3 | exact le_s4 | exact le_s5 | exact le_s6 | exact le_s7 | exact le_s8)))))) | ((with_reducible show _ ∧ _); (((with_reducible show AppAt _ _ _ ∧ _); k_dflt (refine ⟨app_at (by k_asm) (by k_mem), ?_⟩)))) | ((with_reducible show wpAny _ _ (storeName _ _ _) _ _ _); ((k_dflt (refine' store_f ?F ?N ?b ?a ?_; (case F => k_asm); (case N => k_asm); (case b => rfl); (case a => rfl); k_whole; intro m' h' F' N'; (try k_sweep))))) | (k_end; wrow_close) | walk1 | dsimp only | (leave1; try dsimp only)))
    (rename Fr _ _ _ _ => F9)
    (rename News _ _ _ _ => N9)
    (rename Newer _ _ => z9)
    refine whl_j 4 2 F9 N9 z9 rfl (by first | rfl | omega) ?_ ?_
    · clear F9 N9 z9
      intro h8 t8 tk8 F9 N9 z9
      have hc9 : List.getD [42, 91, 43, 47, 93, 42] (Int.toNat (((4 : Nat) : Int) - (0 : Nat))) 0 = 93 := rfl
      (repeat' (first | ((try k_unmd); k_unfold; first | ((with_reducible (first | refine afterN_nil ?_ | refine afterN_next ?_ | refine afterN_ret ?_ | refine afterN_brk ?_)); intro z9) | (try dsimp only [List.cons_append, List.nil_append])) | ((with_reducible show wpAny _ _ (subscriptTail _ _ _ _) _ _ _); first | ((with_reducible show wpAny _ _ (subscriptTail (PySem.Expr.Name _ _) (PySem.Expr.Slice _ _ _ _) (Value.str _ _) (Value.ref _)) _ _ _); (((rename Fr _ _ _ _ => F9); (rename News _ _ _ _ => N9); k_dflt (refine' slice_to (s := ⟨_, _, _, _, _⟩) F9 N9 ?r ?_ ?hs ?ht ?hz; (case r => first | exact slice_abc | exact slice_a | exact slice_z); (case hs => with_unfolding_all rfl); (case ht => intro _; with_unfolding_all rfl); (case hz => size_fits)); intro h8 t8 k8 F8 N8; clear F9 N9; (try dsimp only)))) | ((with_reducible show wpAny _ _ (subscriptTail (PySem.Expr.Name _ _) (PySem.Expr.Name _ _) (Value.ref _) (Value.int _ _)) _ _ _); (k_dflt ((refine' item_news ?k1 ?k2 ?k3 ?k4 ?k5 ?_ ?k6); (case k1 => k_asm); (case k2 => k_mem); (case k3 => decide); (case k4 => decide); (case k5 => exact rfl); (case k6 => with_unfolding_all rfl)))) | ((with_reducible show wpAny _ _ (subscriptTail (PySem.Expr.Name _ _) (PySem.Expr.BinOp _ _ _ _) (Value.ref _) (Value.int _ _)) _ _ _); (k_dflt ((refine' item_news ?k1 ?k2 ?k3 ?k4 ?k5 ?_ ?k6); (case k1 => k_asm); (case k2 => k_mem); (case k3 => decide); (case k4 => decide); (case k5 => exact rfl); (case k6 => with_unfolding_all rfl)))) | ((with_reducible show wpAny _ _ (subscriptTail (PySem.Expr.Name _ _) (PySem.Expr.Name _ _) (Value.str _ _) (Value.int _ _)) _ _ _); (k_dflt ((refine' item_lit ?i0 ?i1 ?i2 ?hc ?_ ?is ?it); (case hc => first | assumption | exact Eq.refl 42 | exact Eq.refl 65 | exact Eq.refl 61 | exact Eq.refl 63 | exact Eq.refl 91 | exact Eq.refl 93 | exact Eq.refl 45 | exact Eq.refl 90 | exact Eq.refl 97 | exact Eq.refl 122 | exact Eq.refl 48 | exact Eq.refl 57 | exact Eq.refl 43 | exact Eq.refl 47 | exact Eq.refl 33 | ((rename SymA _ => y9); exact Eq.trans (by rfl) (SymA.rfl y9)) | ((rename SymZ _ => y9); exact Eq.trans (by rfl) (SymZ.rfl y9))); (case i0 => first | decide | omega); (case i1 => first | decide | omega); (case i2 => first | decide | omega); (case is => with_unfolding_all rfl); (case it => intro _; with_unfolding_all rfl))))) | ((with_reducible show wpAny _ _ (exec _ _) _ _ _); first | ((with_reducible show wpAny _ _ (exec (Stmt.While (PySem.Expr.BoolOp _ _ _) _ [] _) _) _ _ _); ((k_dflt (refine whl_leaf ?_)))) | ((with_reducible show wpAny _ _ (exec (Stmt.While (PySem.Expr.Compare _ _ _ _) _ [] _) _) _ _ _); ((k_dflt (refine whl_leaf ?_)))) | ((with_reducible show wpAny _ _ (exec (Stmt.If _ _ _ _) _) _ _ _); (first | (((rename Newer _ _ => z9); (with_reducible refine if_newer z9 ?le ?_); (case le => k_dflt (first | exact Nat.le_refl _ | exact le_s1 | exact le_s2 | exact le_s3 | exact le_s4 | exact le_s5 | exact le_s6 | exact le_s7 | exact le_s8)))) | (refine wpAny_If ?_)))) | ((with_reducible show wpAny _ _ (compareOp _ _ _) _ _ _); first | ((with_reducible show wpAny _ _ (compareOp CmpOp.NotIn (Value.str _ _) (Value.str _ _)) _ _ _); (first | ((k_dflt (refine notin_lit (b := false) (rg_dash (by assumption)) ?_))) | (first | (k_dflt (refine notin_lit (b := true) (by decide +kernel) ?_)) | (k_dflt (refine notin_lit (b := false) (by decide +kernel) ?_))))) | ((with_reducible show wpAny _ _ (compareOp CmpOp.Gt (Value.str _ _) (Value.str _ _)) _ _ _); (k_dflt (refine gt_strF (rg_gt (by assumption)) ?_))) | ((with_reducible show wpAny _ _ (compareOp CmpOp.IsNot (Value.str _ _) (Value.str _ _)) _ _ _); ((k_dflt (refine isnot_old (by first | assumption | rfl | decide +kernel) ?ho ?_); (case ho => first | assumption | (simp only [Newer] at *; (try dsimp only at *); exact ⟨by omega, by omega⟩))))) | ((with_reducible show wpAny _ _ (compareOp CmpOp.NotEq (Value.str _ _) (Value.str _ _)) _ _ _); (refine ne_strT (by assumption) ?_)) | ((with_reducible show wpAny _ _ (compareOp CmpOp.Eq (Value.str _ _) (Value.str _ _)) _ _ _); (refine eq_strF (by assumption) ?_))) | ((with_reducible show wpAny _ _ (call _ _ _) _ _ _); first | ((with_reducible show wpAny _ _ (call (Value.builtin "str.find") _ _) _ _ _); (first | (first | (k_dflt (refine find_lit (r := 2) (rg_find1 (by assumption)) ?_)) | (k_dflt (refine find_lit (r := -1) (rg_find2 (by assumption)) ?_))) | (first | (k_dflt (refine find_lit (r := 2) (by decide +kernel) ?_)) | (k_dflt (refine find_lit (r := -1) (by decide +kernel) ?_))))) | ((with_reducible show wpAny _ _ (call (Value.builtin "re.Pattern.sub") _ _) _ _ _); (first | ((k_dflt (refine sub_rng (by assumption) (by ((first | assumption | exact Frag.In.keeps (by assumption) (Fr.keep (by assumption))))) _ _ _ _ (by (((rename News _ _ _ _ => N9); exact (N9 _ (by k_mem)).1))) (fun h9 t9 tk9 hx9 => ?_)); (((rename Fr _ _ _ _ => F9); (rename News _ _ _ _ => N9); (rename Ext _ _ => hx9); (have F8 := fr_ext F9 hx9); (have N8 := news_ext N9 hx9); clear F9 N9 hx9; (try dsimp only); (try k_fold))))) | ((k_dflt (first | (refine sub_up (by ((first | assumption | exact Frag.In.keeps (by assumption) (Fr.keep (by assumption))))) _ _ _ _ (by (((rename News _ _ _ _ => N9); exact (N9 _ (by k_mem)).1))) (fun h9 t9 tk9 hx9 => ?_)) | (refine sub_lo (by ((first | assumption | exact Frag.In.keeps (by assumption) (Fr.keep (by assumption))))) _ _ _ _ (by (((rename News _ _ _ _ => N9); exact (N9 _ (by k_mem)).1))) (fun h9 t9 tk9 hx9 => ?_)) | (refine sub_fig (by ((first | assumption | exact Frag.In.keeps (by assumption) (Fr.keep (by assumption))))) _ _ _ _ (by (((rename News _ _ _ _ => N9); exact (N9 _ (by k_mem)).1))) (fun h9 t9 tk9 hx9 => ?_)) | (refine sub_ps (by ((first | assumption | exact Frag.In.keeps (by assumption) (Fr.keep (by assumption))))) _ _ _ _ (by (((rename News _ _ _ _ => N9); exact (N9 _ (by k_mem)).1))) (fun h9 t9 tk9 hx9 => ?_)) | (refine sub_ne (by ((first | assumption | exact Frag.In.keeps (by assumption) (Fr.keep (by assumption))))) _ _ _ _ (by (((rename News _ _ _ _ => N9); exact (N9 _ (by k_mem)).1))) (fun h9 t9 tk9 hx9 => ?_))); (((rename Fr _ _ _ _ => F9); (rename News _ _ _ _ => N9); (rename Ext _ _ => hx9); (have F8 := fr_ext F9 hx9); (have N8 := news_ext N9 hx9); clear F9 N9 hx9; (try dsimp only); (try k_fold))))))) | ((with_reducible show wpAny _ _ (call (Value.builtin "str.join") _ _) _ _ _); (first | ((k_dflt (refine join_leaf (by k_asm) (by k_asm) (by assumption) (by assumption) (by assumption) (by assumption) (rg_jok (by assumption)) (rg_join (by assumption)) (Nat.le_of_ble_eq_true rfl) (fun s9 t9 F9 N9 G9 o9 => ?_)); obtain ⟨h9, g9, d9, tk9, os9⟩ := s9; dsimp only at F9 N9 G9 o9; subst o9; (try dsimp only))) | ((k_dflt (first | (refine join_leaf (r := Str.ofString "A-Z") (by k_asm) (by k_asm) (by assumption) (by assumption) (by assumption) (by assumption) (by decide +kernel) (by decide +kernel) (by decide) (fun s9 t9 F9 N9 G9 o9 => ?_)) | (refine join_leaf (r := Str.ofString "a-z") (by k_asm) (by k_asm) (by assumption) (by assumption) (by assumption) (by assumption) (by decide +kernel) (by decide +kernel) (by decide) (fun s9 t9 F9 N9 G9 o9 => ?_)) | (refine join_leaf (r := Str.ofString "0-9") (by k_asm) (by k_asm) (by assumption) (by assumption) (by assumption) (by assumption) (by decide +kernel) (by decide +kernel) (by decide) (fun s9 t9 F9 N9 G9 o9 => ?_))); obtain ⟨h9, g9, d9, tk9, os9⟩ := s9; dsimp only at F9 N9 G9 o9; subst o9; (try dsimp only))))) | ((with_reducible show wpAny _ _ (call (Value.builtin "list.append") _ _) _ _ _); ((k_dflt (refine' append_K ?k1 ?k2 ?k3 ?_ ?z; (case k1 => k_asm); (case k2 => k_asm); (case k3 => k_upd); (case z => size_fits)); intro h' F' N'; (try k_sweep)))) | ((with_reducible show wpAny _ _ (call (Value.builtin "str.replace") _ _) _ _ _); ((k_dflt (refine rep_none (by decide +kernel) ?_)))) | ((with_reducible show wpAny _ _ (call (Value.ref _) _ _) _ _ _); (first | (k_dflt (refine' append_B ?k1 ?k2 ?k3 ?k4 ?_ ?z; (case k1 => k_asm); (case k2 => k_asm); (case k3 => k_mem); (case k4 => k_upd); (case z => size_fits)); intro h9 F9 N9; (try k_sweep)) | (refine' c_escape ?cx ?ct ?ch ?cr ?cu _ _ ?cc ?_; (case cx => ((first | assumption | exact Frag.In.keeps (by assumption) (Fr.keep (by assumption))))); (case ct => ((first | assumption | exact Top.keeps (by assumption) (Fr.keep (by assumption))))); (case ch => with_unfolding_all rfl); (case cr => ((simp +zetaDelta only [depth_deeper, units_deeper]; omega))); (case cu => ((simp +zetaDelta only [depth_deeper, units_deeper]; omega))); (case cc => first | assumption | decide); intro h9 t9 tk9 hx9 hle9 hlt9; (try dsimp only at hle9); (((rename Fr _ _ _ _ => F9); (rename News _ _ _ _ => N9); (rename Ext _ _ => hx9); (have F8 := fr_ext F9 hx9); (have N8 := news_ext N9 hx9); clear F9 N9 hx9; (try dsimp only); (try k_fold)))))) | ((with_reducible show wpAny _ _ (call (Value.builtin "len") _ _) _ _ _); (first | (k_dflt (refine name_len (by omega) ?_)) | (k_dflt (refine len_lit (n := 1) (by decide) (by rfl) ?_)) | (k_dflt (refine len_lit (n := 2) (by decide) (by rfl) ?_)) | (k_dflt (refine len_lit (n := 3) (by decide) (by rfl) ?_)) | (k_dflt (refine len_lit (n := 4) (by decide) (by rfl) ?_)) | (k_dflt (refine len_lit (n := 5) (by decide) (by rfl) ?_)) | (k_dflt (refine len_lit (n := 6) (by decide) (by rfl) ?_))))) | ((with_reducible show wpAny _ _ (PySem.truthy (Value.str _ _)) _ _ _); (k_dflt (first | refine truthy_T (n := 2) rfl (by decide) ?_ | refine truthy_T (n := 0) rfl (by decide) ?_))) | ((with_reducible show wpAny _ _ (getMethod (Value.ref _) _ _) _ _ _); (k_dflt (refine getm_sub (by ((first | assumption | exact Frag.In.keeps (by assumption) (Fr.keep (by assumption))))) ?_))) | ((with_reducible show wpAny _ _ (execs [] _) _ _ _); ((with_reducible refine wpAny_execs_nil ?_))) | ((with_reducible show wpAny _ _ (execs (_ :: _) _) _ _ _); (((rename Newer _ _ => z9); (with_reducible refine execs_n z9 ?le ?_); (case le => (k_dflt (first | exact Nat.le_refl _ | exact le_s1 | exact le_s2 | exact le_s3 | exact le_s4 | exact le_s5 | exact le_s6 | exact le_s7 | exact le_s8))); clear z9; intro qk tk9 z9))) | ((with_reducible show wpAny _ _ (eval (PySem.Expr.Name _ _) _) _ _ _); ((k_dflt ((refine' nameX_L ?F ?v ?_ ?a ?b); (case F => k_asm); (case b => rfl); (case a => rfl); (case v => rfl))))) | ((with_reducible show wpAny _ _ (eval (PySem.Expr.GeneratorExp _ _ _ _) _) _ _ _); ((k_dflt (refine gen_leaf (by k_asm) (by k_asm) (by k_asm) (by rfl) (by rfl) (by rfl) (by rfl) (by with_unfolding_all rfl) (by decide) (by rfl) (by rfl) (by rfl) ?hroom ?_ (by intro _; with_unfolding_all rfl)); (case hroom => ((simp +zetaDelta only [depth_deeper, units_deeper]; omega)))))) | ((with_reducible show wpAny _ _ (pyIter (Value.ref _)) _ _ _); (((with_reducible show wpAny _ _ (pyIter (Value.ref _)) (fun it s₂ => LoopAtV _ _ _ _ _ _ _ _ _ it s₂) _ _); krs_unr))) | ((with_reducible show wpAny _ _ (callWith _ (Value.ref _) _ _ _) _ _ _); (first | (k_dflt (refine' callWith_app ?k1 ?k2 ?_; (case k1 => k_asm); (case k2 => k_mem))))) | ((with_reducible show wpAny _ _ (getAttr (Value.ref _) _ _) _ _ _); ((k_dflt (refine' app_N ?k1 ?k2 ?k3 ?_; (case k1 => k_asm); (case k2 => k_asm); (case k3 => k_mem)); intro x9 h9 F9 N9 l9; (try k_lt l9); (try k_sweep)))) | ((with_reducible show wpAny _ _ (joinParts _ _) _ _ _); (first | ((k_dflt (refine joinParts_lit (rg_fmt (by assumption)) (rg_len (by assumption)) ?_))) | ((k_dflt (first | (refine joinParts_lit (r := Str.ofString "[A-Z]") (by decide +kernel) (by decide +kernel) ?_) | (refine joinParts_lit (r := Str.ofString "[a-z]") (by decide +kernel) (by decide +kernel) ?_) | (refine joinParts_lit (r := Str.ofString "[0-9]") (by decide +kernel) (by decide +kernel) ?_) | (refine joinParts_lit (r := Str.ofString "[+/]") (by decide +kernel) (by decide +kernel) ?_) | (refine joinParts_lit (r := Str.ofString "[^=]") (by decide +kernel) (by decide +kernel) ?_)))) | (((rename Newer _ _ => z9); (with_reducible refine joinParts_newer z9 ?le ?_); (case le => k_dflt (first | exact Nat.le_refl _ | exact le_s1 | exact le_s2 | exact le_s3 | exact le_s4 | exact le_s5 | exact le_s6 | exact le_s7 | exact le_s8)))))) | ((with_reducible show _ ∧ _); (((with_reducible show AppAt _ _ _ ∧ _); k_dflt (refine ⟨app_at (by k_asm) (by k_mem), ?_⟩)))) | ((with_reducible show wpAny _ _ (storeName _ _ _) _ _ _); ((k_dflt (refine' store_f ?F ?N ?b ?a ?_; (case F => k_asm); (case N => k_asm); (case b => rfl); (case a => rfl); k_whole; intro m' h' F' N'; (try k_sweep))))) | (k_end; wrow_close) | walk1 | dsimp only | (leave1; try dsimp only)))
      (rename Fr _ _ _ _ => F9)
      (rename News _ _ _ _ => N9)
      (rename Newer _ _ => z9)
      simp only [List.push_toArray, List.nil_append, List.cons_append] at N9
      exact trEnd_of hrest (TrSt.intro (vs := [.str (Str.ofString "many") t0] ++ [.str (Str.ofString "[+/]") _]) F9 N9 rfl rfl rfl rfl rfl rfl rfl (by first | rfl | omega) rfl (by k_mem) (by k_mem) (by k_mem) ⟨z9.1, by have := z9.2; omega⟩ (by assumption) (.cons _ _ (.cons _ _ .nil)) (lastOld_snoc (fun _ => (by (simp only [Newer, Old] at *; (try dsimp only at *); exact ⟨by omega, by omega⟩)))) ⟨_, _, rfl⟩ (by first | decide | (simp; done) | (simp; omega)))
    · clear F9 N9 z9
      intro k8 h8 t8 tk8 hk8 F9 N9 z9
      obtain ⟨c9, hc9, n9⟩ : ∃ c, List.getD [42, 91, 43, 47, 93, 42] (Int.toNat (((4 : Nat) : Int) - (k8 + 1 : Nat))) 0 = c ∧ (one c == Str.ofString "]") = false := by
        rcases k8 with _ | _ | _ | k8
        · exact ⟨47, rfl, by decide +kernel⟩
        · exact ⟨43, rfl, by decide +kernel⟩
        · omega
        · omega
      (repeat' (first | ((try k_unmd); k_unfold; first | ((with_reducible (first | refine afterN_nil ?_ | refine afterN_next ?_ | refine afterN_ret ?_ | refine afterN_brk ?_)); intro z9) | (try dsimp only [List.cons_append, List.nil_append])) | ((with_reducible show wpAny _ _ (subscriptTail _ _ _ _) _ _ _); first | ((with_reducible show wpAny _ _ (subscriptTail (PySem.Expr.Name _ _) (PySem.Expr.Slice _ _ _ _) (Value.str _ _) (Value.ref _)) _ _ _); (((rename Fr _ _ _ _ => F9); (rename News _ _ _ _ => N9); k_dflt (refine' slice_to (s := ⟨_, _, _, _, _⟩) F9 N9 ?r ?_ ?hs ?ht ?hz; (case r => first | exact slice_abc | exact slice_a | exact slice_z); (case hs => with_unfolding_all rfl); (case ht => intro _; with_unfolding_all rfl); (case hz => size_fits)); intro h8 t8 k8 F8 N8; clear F9 N9; (try dsimp only)))) | ((with_reducible show wpAny _ _ (subscriptTail (PySem.Expr.Name _ _) (PySem.Expr.Name _ _) (Value.ref _) (Value.int _ _)) _ _ _); (k_dflt ((refine' item_news ?k1 ?k2 ?k3 ?k4 ?k5 ?_ ?k6); (case k1 => k_asm); (case k2 => k_mem); (case k3 => decide); (case k4 => decide); (case k5 => exact rfl); (case k6 => with_unfolding_all rfl)))) | ((with_reducible show wpAny _ _ (subscriptTail (PySem.Expr.Name _ _) (PySem.Expr.BinOp _ _ _ _) (Value.ref _) (Value.int _ _)) _ _ _); (k_dflt ((refine' item_news ?k1 ?k2 ?k3 ?k4 ?k5 ?_ ?k6); (case k1 => k_asm); (case k2 => k_mem); (case k3 => decide); (case k4 => decide); (case k5 => exact rfl); (case k6 => with_unfolding_all rfl)))) | ((with_reducible show wpAny _ _ (subscriptTail (PySem.Expr.Name _ _) (PySem.Expr.Name _ _) (Value.str _ _) (Value.int _ _)) _ _ _); (k_dflt ((refine' item_lit ?i0 ?i1 ?i2 ?hc ?_ ?is ?it); (case hc => first | assumption | exact Eq.refl 42 | exact Eq.refl 65 | exact Eq.refl 61 | exact Eq.refl 63 | exact Eq.refl 91 | exact Eq.refl 93 | exact Eq.refl 45 | exact Eq.refl 90 | exact Eq.refl 97 | exact Eq.refl 122 | exact Eq.refl 48 | exact Eq.refl 57 | exact Eq.refl 43 | exact Eq.refl 47 | exact Eq.refl 33 | ((rename SymA _ => y9); exact Eq.trans (by rfl) (SymA.rfl y9)) | ((rename SymZ _ => y9); exact Eq.trans (by rfl) (SymZ.rfl y9))); (case i0 => first | decide | omega); (case i1 => first | decide | omega); (case i2 => first | decide | omega); (case is => with_unfolding_all rfl); (case it => intro _; with_unfolding_all rfl))))) | ((with_reducible show wpAny _ _ (exec _ _) _ _ _); first | ((with_reducible show wpAny _ _ (exec (Stmt.While (PySem.Expr.BoolOp _ _ _) _ [] _) _) _ _ _); ((k_dflt (refine whl_leaf ?_)))) | ((with_reducible show wpAny _ _ (exec (Stmt.While (PySem.Expr.Compare _ _ _ _) _ [] _) _) _ _ _); ((k_dflt (refine whl_leaf ?_)))) | ((with_reducible show wpAny _ _ (exec (Stmt.If _ _ _ _) _) _ _ _); (first | (((rename Newer _ _ => z9); (with_reducible refine if_newer z9 ?le ?_); (case le => k_dflt (first | exact Nat.le_refl _ | exact le_s1 | exact le_s2 | exact le_s3 | exact le_s4 | exact le_s5 | exact le_s6 | exact le_s7 | exact le_s8)))) | (refine wpAny_If ?_)))) | ((with_reducible show wpAny _ _ (compareOp _ _ _) _ _ _); first | ((with_reducible show wpAny _ _ (compareOp CmpOp.NotIn (Value.str _ _) (Value.str _ _)) _ _ _); (first | ((k_dflt (refine notin_lit (b := false) (rg_dash (by assumption)) ?_))) | (first | (k_dflt (refine notin_lit (b := true) (by decide +kernel) ?_)) | (k_dflt (refine notin_lit (b := false) (by decide +kernel) ?_))))) | ((with_reducible show wpAny _ _ (compareOp CmpOp.Gt (Value.str _ _) (Value.str _ _)) _ _ _); (k_dflt (refine gt_strF (rg_gt (by assumption)) ?_))) | ((with_reducible show wpAny _ _ (compareOp CmpOp.IsNot (Value.str _ _) (Value.str _ _)) _ _ _); ((k_dflt (refine isnot_old (by first | assumption | rfl | decide +kernel) ?ho ?_); (case ho => first | assumption | (simp only [Newer] at *; (try dsimp only at *); exact ⟨by omega, by omega⟩))))) | ((with_reducible show wpAny _ _ (compareOp CmpOp.NotEq (Value.str _ _) (Value.str _ _)) _ _ _); (refine ne_strT (by assumption) ?_)) | ((with_reducible show wpAny _ _ (compareOp CmpOp.Eq (Value.str _ _) (Value.str _ _)) _ _ _); (refine eq_strF (by assumption) ?_))) | ((with_reducible show wpAny _ _ (call _ _ _) _ _ _); first | ((with_reducible show wpAny _ _ (call (Value.builtin "str.find") _ _) _ _ _); (first | (first | (k_dflt (refine find_lit (r := 2) (rg_find1 (by assumption)) ?_)) | (k_dflt (refine find_lit (r := -1) (rg_find2 (by assumption)) ?_))) | (first | (k_dflt (refine find_lit (r := 2) (by decide +kernel) ?_)) | (k_dflt (refine find_lit (r := -1) (by decide +kernel) ?_))))) | ((with_reducible show wpAny _ _ (call (Value.builtin "re.Pattern.sub") _ _) _ _ _); (first | ((k_dflt (refine sub_rng (by assumption) (by ((first | assumption | exact Frag.In.keeps (by assumption) (Fr.keep (by assumption))))) _ _ _ _ (by (((rename News _ _ _ _ => N9); exact (N9 _ (by k_mem)).1))) (fun h9 t9 tk9 hx9 => ?_)); (((rename Fr _ _ _ _ => F9); (rename News _ _ _ _ => N9); (rename Ext _ _ => hx9); (have F8 := fr_ext F9 hx9); (have N8 := news_ext N9 hx9); clear F9 N9 hx9; (try dsimp only); (try k_fold))))) | ((k_dflt (first | (refine sub_up (by ((first | assumption | exact Frag.In.keeps (by assumption) (Fr.keep (by assumption))))) _ _ _ _ (by (((rename News _ _ _ _ => N9); exact (N9 _ (by k_mem)).1))) (fun h9 t9 tk9 hx9 => ?_)) | (refine sub_lo (by ((first | assumption | exact Frag.In.keeps (by assumption) (Fr.keep (by assumption))))) _ _ _ _ (by (((rename News _ _ _ _ => N9); exact (N9 _ (by k_mem)).1))) (fun h9 t9 tk9 hx9 => ?_)) | (refine sub_fig (by ((first | assumption | exact Frag.In.keeps (by assumption) (Fr.keep (by assumption))))) _ _ _ _ (by (((rename News _ _ _ _ => N9); exact (N9 _ (by k_mem)).1))) (fun h9 t9 tk9 hx9 => ?_)) | (refine sub_ps (by ((first | assumption | exact Frag.In.keeps (by assumption) (Fr.keep (by assumption))))) _ _ _ _ (by (((rename News _ _ _ _ => N9); exact (N9 _ (by k_mem)).1))) (fun h9 t9 tk9 hx9 => ?_)) | (refine sub_ne (by ((first | assumption | exact Frag.In.keeps (by assumption) (Fr.keep (by assumption))))) _ _ _ _ (by (((rename News _ _ _ _ => N9); exact (N9 _ (by k_mem)).1))) (fun h9 t9 tk9 hx9 => ?_))); (((rename Fr _ _ _ _ => F9); (rename News _ _ _ _ => N9); (rename Ext _ _ => hx9); (have F8 := fr_ext F9 hx9); (have N8 := news_ext N9 hx9); clear F9 N9 hx9; (try dsimp only); (try k_fold))))))) | ((with_reducible show wpAny _ _ (call (Value.builtin "str.join") _ _) _ _ _); (first | ((k_dflt (refine join_leaf (by k_asm) (by k_asm) (by assumption) (by assumption) (by assumption) (by assumption) (rg_jok (by assumption)) (rg_join (by assumption)) (Nat.le_of_ble_eq_true rfl) (fun s9 t9 F9 N9 G9 o9 => ?_)); obtain ⟨h9, g9, d9, tk9, os9⟩ := s9; dsimp only at F9 N9 G9 o9; subst o9; (try dsimp only))) | ((k_dflt (first | (refine join_leaf (r := Str.ofString "A-Z") (by k_asm) (by k_asm) (by assumption) (by assumption) (by assumption) (by assumption) (by decide +kernel) (by decide +kernel) (by decide) (fun s9 t9 F9 N9 G9 o9 => ?_)) | (refine join_leaf (r := Str.ofString "a-z") (by k_asm) (by k_asm) (by assumption) (by assumption) (by assumption) (by assumption) (by decide +kernel) (by decide +kernel) (by decide) (fun s9 t9 F9 N9 G9 o9 => ?_)) | (refine join_leaf (r := Str.ofString "0-9") (by k_asm) (by k_asm) (by assumption) (by assumption) (by assumption) (by assumption) (by decide +kernel) (by decide +kernel) (by decide) (fun s9 t9 F9 N9 G9 o9 => ?_))); obtain ⟨h9, g9, d9, tk9, os9⟩ := s9; dsimp only at F9 N9 G9 o9; subst o9; (try dsimp only))))) | ((with_reducible show wpAny _ _ (call (Value.builtin "list.append") _ _) _ _ _); ((k_dflt (refine' append_K ?k1 ?k2 ?k3 ?_ ?z; (case k1 => k_asm); (case k2 => k_asm); (case k3 => k_upd); (case z => size_fits)); intro h' F' N'; (try k_sweep)))) | ((with_reducible show wpAny _ _ (call (Value.builtin "str.replace") _ _) _ _ _); ((k_dflt (refine rep_none (by decide +kernel) ?_)))) | ((with_reducible show wpAny _ _ (call (Value.ref _) _ _) _ _ _); (first | (k_dflt (refine' append_B ?k1 ?k2 ?k3 ?k4 ?_ ?z; (case k1 => k_asm); (case k2 => k_asm); (case k3 => k_mem); (case k4 => k_upd); (case z => size_fits)); intro h9 F9 N9; (try k_sweep)) | (refine' c_escape ?cx ?ct ?ch ?cr ?cu _ _ ?cc ?_; (case cx => ((first | assumption | exact Frag.In.keeps (by assumption) (Fr.keep (by assumption))))); (case ct => ((first | assumption | exact Top.keeps (by assumption) (Fr.keep (by assumption))))); (case ch => with_unfolding_all rfl); (case cr => ((simp +zetaDelta only [depth_deeper, units_deeper]; omega))); (case cu => ((simp +zetaDelta only [depth_deeper, units_deeper]; omega))); (case cc => first | assumption | decide); intro h9 t9 tk9 hx9 hle9 hlt9; (try dsimp only at hle9); (((rename Fr _ _ _ _ => F9); (rename News _ _ _ _ => N9); (rename Ext _ _ => hx9); (have F8 := fr_ext F9 hx9); (have N8 := news_ext N9 hx9); clear F9 N9 hx9; (try dsimp only); (try k_fold)))))) | ((with_reducible show wpAny _ _ (call (Value.builtin "len") _ _) _ _ _); (first | (k_dflt (refine name_len (by omega) ?_)) | (k_dflt (refine len_lit (n := 1) (by decide) (by rfl) ?_)) | (k_dflt (refine len_lit (n := 2) (by decide) (by rfl) ?_)) | (k_dflt (refine len_lit (n := 3) (by decide) (by rfl) ?_)) | (k_dflt (refine len_lit (n := 4) (by decide) (by rfl) ?_)) | (k_dflt (refine len_lit (n := 5) (by decide) (by rfl) ?_)) | (k_dflt (refine len_lit (n := 6) (by decide) (by rfl) ?_))))) | ((with_reducible show wpAny _ _ (PySem.truthy (Value.str _ _)) _ _ _); (k_dflt (first | refine truthy_T (n := 2) rfl (by decide) ?_ | refine truthy_T (n := 0) rfl (by decide) ?_))) | ((with_reducible show wpAny _ _ (getMethod (Value.ref _) _ _) _ _ _); (k_dflt (refine getm_sub (by ((first | assumption | exact Frag.In.keeps (by assumption) (Fr.keep (by assumption))))) ?_))) | ((with_reducible show wpAny _ _ (execs [] _) _ _ _); ((with_reducible refine wpAny_execs_nil ?_))) | ((with_reducible show wpAny _ _ (execs (_ :: _) _) _ _ _); (((rename Newer _ _ => z9); (with_reducible refine execs_n z9 ?le ?_); (case le => (k_dflt (first | exact Nat.le_refl _ | exact le_s1 | exact le_s2 | exact le_s3 | exact le_s4 | exact le_s5 | exact le_s6 | exact le_s7 | exact le_s8))); clear z9; intro qk tk9 z9))) | ((with_reducible show wpAny _ _ (eval (PySem.Expr.Name _ _) _) _ _ _); ((k_dflt ((refine' nameX_L ?F ?v ?_ ?a ?b); (case F => k_asm); (case b => rfl); (case a => rfl); (case v => rfl))))) | ((with_reducible show wpAny _ _ (eval (PySem.Expr.GeneratorExp _ _ _ _) _) _ _ _); ((k_dflt (refine gen_leaf (by k_asm) (by k_asm) (by k_asm) (by rfl) (by rfl) (by rfl) (by rfl) (by with_unfolding_all rfl) (by decide) (by rfl) (by rfl) (by rfl) ?hroom ?_ (by intro _; with_unfolding_all rfl)); (case hroom => ((simp +zetaDelta only [depth_deeper, units_deeper]; omega)))))) | ((with_reducible show wpAny _ _ (pyIter (Value.ref _)) _ _ _); (((with_reducible show wpAny _ _ (pyIter (Value.ref _)) (fun it s₂ => LoopAtV _ _ _ _ _ _ _ _ _ it s₂) _ _); krs_unr))) | ((with_reducible show wpAny _ _ (callWith _ (Value.ref _) _ _ _) _ _ _); (first | (k_dflt (refine' callWith_app ?k1 ?k2 ?_; (case k1 => k_asm); (case k2 => k_mem))))) | ((with_reducible show wpAny _ _ (getAttr (Value.ref _) _ _) _ _ _); ((k_dflt (refine' app_N ?k1 ?k2 ?k3 ?_; (case k1 => k_asm); (case k2 => k_asm); (case k3 => k_mem)); intro x9 h9 F9 N9 l9; (try k_lt l9); (try k_sweep)))) | ((with_reducible show wpAny _ _ (joinParts _ _) _ _ _); (first | ((k_dflt (refine joinParts_lit (rg_fmt (by assumption)) (rg_len (by assumption)) ?_))) | ((k_dflt (first | (refine joinParts_lit (r := Str.ofString "[A-Z]") (by decide +kernel) (by decide +kernel) ?_) | (refine joinParts_lit (r := Str.ofString "[a-z]") (by decide +kernel) (by decide +kernel) ?_) | (refine joinParts_lit (r := Str.ofString "[0-9]") (by decide +kernel) (by decide +kernel) ?_) | (refine joinParts_lit (r := Str.ofString "[+/]") (by decide +kernel) (by decide +kernel) ?_) | (refine joinParts_lit (r := Str.ofString "[^=]") (by decide +kernel) (by decide +kernel) ?_)))) | (((rename Newer _ _ => z9); (with_reducible refine joinParts_newer z9 ?le ?_); (case le => k_dflt (first | exact Nat.le_refl _ | exact le_s1 | exact le_s2 | exact le_s3 | exact le_s4 | exact le_s5 | exact le_s6 | exact le_s7 | exact le_s8)))))) | ((with_reducible show _ ∧ _); (((with_reducible show AppAt _ _ _ ∧ _); k_dflt (refine ⟨app_at (by k_asm) (by k_mem), ?_⟩)))) | ((with_reducible show wpAny _ _ (storeName _ _ _) _ _ _); ((k_dflt (refine' store_f ?F ?N ?b ?a ?_; (case F => k_asm); (case N => k_asm); (case b => rfl); (case a => rfl); k_whole; intro m' h' F' N'; (try k_sweep))))) | (k_end; wrow_close) | walk1 | dsimp only | (leave1; try dsimp only)))
      exact ⟨rfl, _, _, _, rfl, by assumption, by assumption, by (rename Newer _ _ => z9); refine ⟨z9.1, ?_⟩; have := z9.2; (try dsimp only); omega⟩
  case ne =>
    intro hcs
    subst hcs
    intro x9 D tn n gA lA t0 hrest
    intro h1 g1 d1 k1 m ti nn F N zN hG lx1 lx2 lx3
    refine turn_of ?_
    have hln : ((List.length [42, 91, 33, 61, 93] : Nat) : Int) = 5 := rfl
    (repeat' (first | ((try k_unmd); k_unfold; first | ((with_reducible (first | refine afterN_nil ?_ | refine afterN_next ?_ | refine afterN_ret ?_ | refine afterN_brk ?_)); intro z9) | (try dsimp only [List.cons_append, List.nil_append])) | ((with_reducible show wpAny _ _ (subscriptTail _ _ _ _) _ _ _); first | ((with_reducible show wpAny _ _ (subscriptTail (PySem.Expr.Name _ _) (PySem.Expr.Slice _ _ _ _) (Value.str _ _) (Value.ref _)) _ _ _); (((rename Fr _ _ _ _ => F9); (rename News _ _ _ _ => N9); k_dflt (refine' slice_to (s := ⟨_, _, _, _, _⟩) F9 N9 ?r ?_ ?hs ?ht ?hz; (case r => first | exact slice_abc | exact slice_a | exact slice_z); (case hs => with_unfolding_all rfl); (case ht => intro _; with_unfolding_all rfl); (case hz => size_fits)); intro h8 t8 k8 F8 N8; clear F9 N9; (try dsimp only)))) | ((with_reducible show wpAny _ _ (subscriptTail (PySem.Expr.Name _ _) (PySem.Expr.Name _ _) (Value.ref _) (Value.int _ _)) _ _ _); (k_dflt ((refine' item_news ?k1 ?k2 ?k3 ?k4 ?k5 ?_ ?k6); (case k1 => k_asm); (case k2 => k_mem); (case k3 => decide); (case k4 => decide); (case k5 => exact rfl); (case k6 => with_unfolding_all rfl)))) | ((with_reducible show wpAny _ _ (subscriptTail (PySem.Expr.Name _ _) (PySem.Expr.BinOp _ _ _ _) (Value.ref _) (Value.int _ _)) _ _ _); (k_dflt ((refine' item_news ?k1 ?k2 ?k3 ?k4 ?k5 ?_ ?k6); (case k1 => k_asm); (case k2 => k_mem); (case k3 => decide); (case k4 => decide); (case k5 => exact rfl); (case k6 => with_unfolding_all rfl)))) | ((with_reducible show wpAny _ _ (subscriptTail (PySem.Expr.Name _ _) (PySem.Expr.Name _ _) (Value.str _ _) (Value.int _ _)) _ _ _); (k_dflt ((refine' item_lit ?i0 ?i1 ?i2 ?hc ?_ ?is ?it); (case hc => first | assumption | exact Eq.refl 42 | exact Eq.refl 65 | exact Eq.refl 61 | exact Eq.refl 63 | exact Eq.refl 91 | exact Eq.refl 93 | exact Eq.refl 45 | exact Eq.refl 90 | exact Eq.refl 97 | exact Eq.refl 122 | exact Eq.refl 48 | exact Eq.refl 57 | exact Eq.refl 43 | exact Eq.refl 47 | exact Eq.refl 33 | ((rename SymA _ => y9); exact Eq.trans (by rfl) (SymA.rfl y9)) | ((rename SymZ _ => y9); exact Eq.trans (by rfl) (SymZ.rfl y9))); (case i0 => first | decide | omega); (case i1 => first | decide | omega); (case i2 => first | decide | omega); (case is => with_unfolding_all rfl); (case it => intro _; with_unfolding_all rfl))))) | ((with_reducible show wpAny _ _ (exec _ _) _ _ _); first | ((with_reducible show wpAny _ _ (exec (Stmt.While (PySem.Expr.BoolOp _ _ _) _ [] _) _) _ _ _); ((k_dflt (refine whl_leaf ?_)))) | ((with_reducible show wpAny _ _ (exec (Stmt.While (PySem.Expr.Compare _ _ _ _) _ [] _) _) _ _ _); ((k_dflt (refine whl_leaf ?_)))) | ((with_reducible show wpAny _ _ (exec (Stmt.If _ _ _ _) _) _ _ _); (first | (((rename Newer _ _ => z9); (with_reducible refine if_newer z9 ?le ?_); (case le => k_dflt (first | exact Nat.le_refl _ | exact le_s1 | exact le_s2 | exact le_s3 | exact le_s4 | exact le_s5 | exact le_s6 | exact le_s7 | exact le_s8)))) | (refine wpAny_If ?_)))) | ((with_reducible show wpAny _ _ (compareOp _ _ _) _ _ _); first | ((with_reducible show wpAny _ _ (compareOp CmpOp.NotIn (Value.str _ _) (Value.str _ _)) _ _ _); (first | ((k_dflt (refine notin_lit (b := false) (rg_dash (by assumption)) ?_))) | (first | (k_dflt (refine notin_lit (b := true) (by decide +kernel) ?_)) | (k_dflt (refine notin_lit (b := false) (by decide +kernel) ?_))))) | ((with_reducible show wpAny _ _ (compareOp CmpOp.Gt (Value.str _ _) (Value.str _ _)) _ _ _); (k_dflt (refine gt_strF (rg_gt (by assumption)) ?_))) | ((with_reducible show wpAny _ _ (compareOp CmpOp.IsNot (Value.str _ _) (Value.str _ _)) _ _ _); ((k_dflt (refine isnot_old (by first | assumption | rfl | decide +kernel) ?ho ?_); (case ho => first | assumption | (simp only [Newer] at *; (try dsimp only at *); exact ⟨by omega, by omega⟩))))) | ((with_reducible show wpAny _ _ (compareOp CmpOp.NotEq (Value.str _ _) (Value.str _ _)) _ _ _); (refine ne_strT (by assumption) ?_)) | ((with_reducible show wpAny _ _ (compareOp CmpOp.Eq (Value.str _ _) (Value.str _ _)) _ _ _); (refine eq_strF (by assumption) ?_))) | ((with_reducible show wpAny _ _ (call _ _ _) _ _ _); first | ((with_reducible show wpAny _ _ (call (Value.builtin "str.find") _ _) _ _ _); (first | (first | (k_dflt (refine find_lit (r := 2) (rg_find1 (by assumption)) ?_)) | (k_dflt (refine find_lit (r := -1) (rg_find2 (by assumption)) ?_))) | (first | (k_dflt (refine find_lit (r := 2) (by decide +kernel) ?_)) | (k_dflt (refine find_lit (r := -1) (by decide +kernel) ?_))))) | ((with_reducible show wpAny _ _ (call (Value.builtin "re.Pattern.sub") _ _) _ _ _); (first | ((k_dflt (refine sub_rng (by assumption) (by ((first | assumption | exact Frag.In.keeps (by assumption) (Fr.keep (by assumption))))) _ _ _ _ (by (((rename News _ _ _ _ => N9); exact (N9 _ (by k_mem)).1))) (fun h9 t9 tk9 hx9 => ?_)); (((rename Fr _ _ _ _ => F9); (rename News _ _ _ _ => N9); (rename Ext _ _ => hx9); (have F8 := fr_ext F9 hx9); (have N8 := news_ext N9 hx9); clear F9 N9 hx9; (try dsimp only); (try k_fold))))) | ((k_dflt (first | (refine sub_up (by ((first | assumption | exact Frag.In.keeps (by assumption) (Fr.keep (by assumption))))) _ _ _ _ (by (((rename News _ _ _ _ => N9); exact (N9 _ (by k_mem)).1))) (fun h9 t9 tk9 hx9 => ?_)) | (refine sub_lo (by ((first | assumption | exact Frag.In.keeps (by assumption) (Fr.keep (by assumption))))) _ _ _ _ (by (((rename News _ _ _ _ => N9); exact (N9 _ (by k_mem)).1))) (fun h9 t9 tk9 hx9 => ?_)) | (refine sub_fig (by ((first | assumption | exact Frag.In.keeps (by assumption) (Fr.keep (by assumption))))) _ _ _ _ (by (((rename News _ _ _ _ => N9); exact (N9 _ (by k_mem)).1))) (fun h9 t9 tk9 hx9 => ?_)) | (refine sub_ps (by ((first | assumption | exact Frag.In.keeps (by assumption) (Fr.keep (by assumption))))) _ _ _ _ (by (((rename News _ _ _ _ => N9); exact (N9 _ (by k_mem)).1))) (fun h9 t9 tk9 hx9 => ?_)) | (refine sub_ne (by ((first | assumption | exact Frag.In.keeps (by assumption) (Fr.keep (by assumption))))) _ _ _ _ (by (((rename News _ _ _ _ => N9); exact (N9 _ (by k_mem)).1))) (fun h9 t9 tk9 hx9 => ?_))); (((rename Fr _ _ _ _ => F9); (rename News _ _ _ _ => N9); (rename Ext _ _ => hx9); (have F8 := fr_ext F9 hx9); (have N8 := news_ext N9 hx9); clear F9 N9 hx9; (try dsimp only); (try k_fold))))))) | ((with_reducible show wpAny _ _ (call (Value.builtin "str.join") _ _) _ _ _); (first | ((k_dflt (refine join_leaf (by k_asm) (by k_asm) (by assumption) (by assumption) (by assumption) (by assumption) (rg_jok (by assumption)) (rg_join (by assumption)) (Nat.le_of_ble_eq_true rfl) (fun s9 t9 F9 N9 G9 o9 => ?_)); obtain ⟨h9, g9, d9, tk9, os9⟩ := s9; dsimp only at F9 N9 G9 o9; subst o9; (try dsimp only))) | ((k_dflt (first | (refine join_leaf (r := Str.ofString "A-Z") (by k_asm) (by k_asm) (by assumption) (by assumption) (by assumption) (by assumption) (by decide +kernel) (by decide +kernel) (by decide) (fun s9 t9 F9 N9 G9 o9 => ?_)) | (refine join_leaf (r := Str.ofString "a-z") (by k_asm) (by k_asm) (by assumption) (by assumption) (by assumption) (by assumption) (by decide +kernel) (by decide +kernel) (by decide) (fun s9 t9 F9 N9 G9 o9 => ?_)) | (refine join_leaf (r := Str.ofString "0-9") (by k_asm) (by k_asm) (by assumption) (by assumption) (by assumption) (by assumption) (by decide +kernel) (by decide +kernel) (by decide) (fun s9 t9 F9 N9 G9 o9 => ?_))); obtain ⟨h9, g9, d9, tk9, os9⟩ := s9; dsimp only at F9 N9 G9 o9; subst o9; (try dsimp only))))) | ((with_reducible show wpAny _ _ (call (Value.builtin "list.append") _ _) _ _ _); ((k_dflt (refine' append_K ?k1 ?k2 ?k3 ?_ ?z; (case k1 => k_asm); (case k2 => k_asm); (case k3 => k_upd); (case z => size_fits)); intro h' F' N'; (try k_sweep)))) | ((with_reducible show wpAny _ _ (call (Value.builtin "str.replace") _ _) _ _ _); ((k_dflt (refine rep_none (by decide +kernel) ?_)))) | ((with_reducible show wpAny _ _ (call (Value.ref _) _ _) _ _ _); (first | (k_dflt (refine' append_B ?k1 ?k2 ?k3 ?k4 ?_ ?z; (case k1 => k_asm); (case k2 => k_asm); (case k3 => k_mem); (case k4 => k_upd); (case z => size_fits)); intro h9 F9 N9; (try k_sweep)) | (refine' c_escape ?cx ?ct ?ch ?cr ?cu _ _ ?cc ?_; (case cx => ((first | assumption | exact Frag.In.keeps (by assumption) (Fr.keep (by assumption))))); (case ct => ((first | assumption | exact Top.keeps (by assumption) (Fr.keep (by assumption))))); (case ch => with_unfolding_all rfl); (case cr => ((simp +zetaDelta only [depth_deeper, units_deeper]; omega))); (case cu => ((simp +zetaDelta only [depth_deeper, units_deeper]; omega))); (case cc => first | assumption | decide); intro h9 t9 tk9 hx9 hle9 hlt9; (try dsimp only at hle9); (((rename Fr _ _ _ _ => F9); (rename News _ _ _ _ => N9); (rename Ext _ _ => hx9); (have F8 := fr_ext F9 hx9); (have N8 := news_ext N9 hx9); clear F9 N9 hx9; (try dsimp only); (try k_fold)))))) | ((with_reducible show wpAny _ _ (call (Value.builtin "len") _ _) _ _ _); (first | (k_dflt (refine name_len (by omega) ?_)) | (k_dflt (refine len_lit (n := 1) (by decide) (by rfl) ?_)) | (k_dflt (refine len_lit (n := 2) (by decide) (by rfl) ?_)) | (k_dflt (refine len_lit (n := 3) (by decide) (by rfl) ?_)) | (k_dflt (refine len_lit (n := 4) (by decide) (by rfl) ?_)) | (k_dflt (refine len_lit (n := 5) (by decide) (by rfl) ?_)) | (k_dflt (refine len_lit (n := 6) (by decide) (by rfl) ?_))))) | ((with_reducible show wpAny _ _ (PySem.truthy (Value.str _ _)) _ _ _); (k_dflt (first | refine truthy_T (n := 2) rfl (by decide) ?_ | refine truthy_T (n := 0) rfl (by decide) ?_))) | ((with_reducible show wpAny _ _ (getMethod (Value.ref _) _ _) _ _ _); (k_dflt (refine getm_sub (by ((first | assumption | exact Frag.In.keeps (by assumption) (Fr.keep (by assumption))))) ?_))) | ((with_reducible show wpAny _ _ (execs [] _) _ _ _); ((with_reducible refine wpAny_execs_nil ?_))) | ((with_reducible show wpAny _ _ (execs (_ :: _) _) _ _ _); (((rename Newer _ _ => z9); (with_reducible refine execs_n z9 ?le ?_); (case le => (k_dflt (first | exact Nat.le_refl _ | exact le_s1 | exact le_s2 | exact le_s3 | exact le_s4 | exact le_s5 | exact le_s6 | exact le_s7 | exact le_s8))); clear z9; intro qk tk9 z9))) | ((with_reducible show wpAny _ _ (eval (PySem.Expr.Name _ _) _) _ _ _); ((k_dflt ((refine' nameX_L ?F ?v ?_ ?a ?b); (case F => k_asm); (case b => rfl); (case a => rfl); (case v => rfl))))) | ((with_reducible show wpAny _ _ (eval (PySem.Expr.GeneratorExp _ _ _ _) _) _ _ _); ((k_dflt (refine gen_leaf (by k_asm) (by k_asm) (by k_asm) (by rfl) (by rfl) (by rfl) (by rfl) (by with_unfolding_all rfl) (by decide) (by rfl) (by rfl) (by rfl) ?hroom ?_ (by intro _; with_unfolding_all rfl)); (case hroom => ((simp +zetaDelta only [depth_deeper, units_deeper]; omega)))))) | ((with_reducible show wpAny _ _ (pyIter (Value.ref _)) _ _ _); (((with_reducible show wpAny _ _ (pyIter (Value.ref _)) (fun it s₂ => LoopAtV _ _ _ _ _ _ _ _ _ it s₂) _ _); krs_unr))) | ((with_reducible show wpAny _ _ (callWith _ (Value.ref _) _ _ _) _ _ _); (first | (k_dflt (refine' callWith_app ?k1 ?k2 ?_; (case k1 => k_asm); (case k2 => k_mem))))) | ((with_reducible show wpAny _ _ (getAttr (Value.ref _) _ _) _ _ _); ((k_dflt (refine' app_N ?k1 ?k2 ?k3 ?_; (case k1 => k_asm); (case k2 => k_asm); (case k3 => k_mem)); intro x9 h9 F9 N9 l9; (try k_lt l9); (try k_sweep)))) | ((with_reducible show wpAny _ _ (joinParts _ _) _ _ _); (first | ((k_dflt (refine joinParts_lit (rg_fmt (by assumption)) (rg_len (by assumption)) ?_))) | ((k_dflt (first | (refine joinParts_lit (r := Str.ofString "[A-Z]") (by decide +kernel) (by decide +kernel) ?_) | (refine joinParts_lit (r := Str.ofString "[a-z]") (by decide +kernel) (by decide +kernel) ?_) | (refine joinParts_lit (r := Str.ofString "[0-9]") (by decide +kernel) (by decide +kernel) ?_) | (refine joinParts_lit (r := Str.ofString "[+/]") (by decide +kernel) (by decide +kernel) ?_) | (refine joinParts_lit (r := Str.ofString "[^=]") (by decide +kernel) (by decide +kernel) ?_)))) | (((rename Newer _ _ => z9); (with_reducible refine joinParts_newer z9 ?le ?_); (case le => k_dflt (first | exact Nat.le_refl _ | exact le_s1 | exact le_s2 | exact le_s3 | exact le_s4 | exact le_s5 | exact le_s6 | exact le_s7 | exact le_s8)))))) | ((with_reducible show _ ∧ _); (((with_reducible show AppAt _ _ _ ∧ _); k_dflt (refine ⟨app_at (by k_asm) (by k_mem), ?_⟩)))) | ((with_reducible show wpAny _ _ (storeName _ _ _) _ _ _); ((k_dflt (refine' store_f ?F ?N ?b ?a ?_; (case F => k_asm); (case N => k_asm); (case b => rfl); (case a => rfl); k_whole; intro m' h' F' N'; (try k_sweep))))) | (k_end; wrow_close) | walk1 | dsimp only | (leave1; try dsimp only)))
    (rename Fr _ _ _ _ => F9)
    (rename News _ _ _ _ => N9)
    (rename Newer _ _ => z9)
    refine whl_j 4 1 F9 N9 z9 rfl (by first | rfl | omega) ?_ ?_
    · clear F9 N9 z9
      intro h8 t8 tk8 F9 N9 z9
      have hc9 : List.getD [42, 91, 33, 61, 93] (Int.toNat (((4 : Nat) : Int) - (0 : Nat))) 0 = 93 := rfl
      (repeat' (first | ((try k_unmd); k_unfold; first | ((with_reducible (first | refine afterN_nil ?_ | refine afterN_next ?_ | refine afterN_ret ?_ | refine afterN_brk ?_)); intro z9) | (try dsimp only [List.cons_append, List.nil_append])) | ((with_reducible show wpAny _ _ (subscriptTail _ _ _ _) _ _ _); first | ((with_reducible show wpAny _ _ (subscriptTail (PySem.Expr.Name _ _) (PySem.Expr.Slice _ _ _ _) (Value.str _ _) (Value.ref _)) _ _ _); (((rename Fr _ _ _ _ => F9); (rename News _ _ _ _ => N9); k_dflt (refine' slice_to (s := ⟨_, _, _, _, _⟩) F9 N9 ?r ?_ ?hs ?ht ?hz; (case r => first | exact slice_abc | exact slice_a | exact slice_z); (case hs => with_unfolding_all rfl); (case ht => intro _; with_unfolding_all rfl); (case hz => size_fits)); intro h8 t8 k8 F8 N8; clear F9 N9; (try dsimp only)))) | ((with_reducible show wpAny _ _ (subscriptTail (PySem.Expr.Name _ _) (PySem.Expr.Name _ _) (Value.ref _) (Value.int _ _)) _ _ _); (k_dflt ((refine' item_news ?k1 ?k2 ?k3 ?k4 ?k5 ?_ ?k6); (case k1 => k_asm); (case k2 => k_mem); (case k3 => decide); (case k4 => decide); (case k5 => exact rfl); (case k6 => with_unfolding_all rfl)))) | ((with_reducible show wpAny _ _ (subscriptTail (PySem.Expr.Name _ _) (PySem.Expr.BinOp _ _ _ _) (Value.ref _) (Value.int _ _)) _ _ _); (k_dflt ((refine' item_news ?k1 ?k2 ?k3 ?k4 ?k5 ?_ ?k6); (case k1 => k_asm); (case k2 => k_mem); (case k3 => decide); (case k4 => decide); (case k5 => exact rfl); (case k6 => with_unfolding_all rfl)))) | ((with_reducible show wpAny _ _ (subscriptTail (PySem.Expr.Name _ _) (PySem.Expr.Name _ _) (Value.str _ _) (Value.int _ _)) _ _ _); (k_dflt ((refine' item_lit ?i0 ?i1 ?i2 ?hc ?_ ?is ?it); (case hc => first | assumption | exact Eq.refl 42 | exact Eq.refl 65 | exact Eq.refl 61 | exact Eq.refl 63 | exact Eq.refl 91 | exact Eq.refl 93 | exact Eq.refl 45 | exact Eq.refl 90 | exact Eq.refl 97 | exact Eq.refl 122 | exact Eq.refl 48 | exact Eq.refl 57 | exact Eq.refl 43 | exact Eq.refl 47 | exact Eq.refl 33 | ((rename SymA _ => y9); exact Eq.trans (by rfl) (SymA.rfl y9)) | ((rename SymZ _ => y9); exact Eq.trans (by rfl) (SymZ.rfl y9))); (case i0 => first | decide | omega); (case i1 => first | decide | omega); (case i2 => first | decide | omega); (case is => with_unfolding_all rfl); (case it => intro _; with_unfolding_all rfl))))) | ((with_reducible show wpAny _ _ (exec _ _) _ _ _); first | ((with_reducible show wpAny _ _ (exec (Stmt.While (PySem.Expr.BoolOp _ _ _) _ [] _) _) _ _ _); ((k_dflt (refine whl_leaf ?_)))) | ((with_reducible show wpAny _ _ (exec (Stmt.While (PySem.Expr.Compare _ _ _ _) _ [] _) _) _ _ _); ((k_dflt (refine whl_leaf ?_)))) | ((with_reducible show wpAny _ _ (exec (Stmt.If _ _ _ _) _) _ _ _); (first | (((rename Newer _ _ => z9); (with_reducible refine if_newer z9 ?le ?_); (case le => k_dflt (first | exact Nat.le_refl _ | exact le_s1 | exact le_s2 | exact le_s3 | exact le_s4 | exact le_s5 | exact le_s6 | exact le_s7 | exact le_s8)))) | (refine wpAny_If ?_)))) | ((with_reducible show wpAny _ _ (compareOp _ _ _) _ _ _); first | ((with_reducible show wpAny _ _ (compareOp CmpOp.NotIn (Value.str _ _) (Value.str _ _)) _ _ _); (first | ((k_dflt (refine notin_lit (b := false) (rg_dash (by assumption)) ?_))) | (first | (k_dflt (refine notin_lit (b := true) (by decide +kernel) ?_)) | (k_dflt (refine notin_lit (b := false) (by decide +kernel) ?_))))) | ((with_reducible show wpAny _ _ (compareOp CmpOp.Gt (Value.str _ _) (Value.str _ _)) _ _ _); (k_dflt (refine gt_strF (rg_gt (by assumption)) ?_))) | ((with_reducible show wpAny _ _ (compareOp CmpOp.IsNot (Value.str _ _) (Value.str _ _)) _ _ _); ((k_dflt (refine isnot_old (by first | assumption | rfl | decide +kernel) ?ho ?_); (case ho => first | assumption | (simp only [Newer] at *; (try dsimp only at *); exact ⟨by omega, by omega⟩))))) | ((with_reducible show wpAny _ _ (compareOp CmpOp.NotEq (Value.str _ _) (Value.str _ _)) _ _ _); (refine ne_strT (by assumption) ?_)) | ((with_reducible show wpAny _ _ (compareOp CmpOp.Eq (Value.str _ _) (Value.str _ _)) _ _ _); (refine eq_strF (by assumption) ?_))) | ((with_reducible show wpAny _ _ (call _ _ _) _ _ _); first | ((with_reducible show wpAny _ _ (call (Value.builtin "str.find") _ _) _ _ _); (first | (first | (k_dflt (refine find_lit (r := 2) (rg_find1 (by assumption)) ?_)) | (k_dflt (refine find_lit (r := -1) (rg_find2 (by assumption)) ?_))) | (first | (k_dflt (refine find_lit (r := 2) (by decide +kernel) ?_)) | (k_dflt (refine find_lit (r := -1) (by decide +kernel) ?_))))) | ((with_reducible show wpAny _ _ (call (Value.builtin "re.Pattern.sub") _ _) _ _ _); (first | ((k_dflt (refine sub_rng (by assumption) (by ((first | assumption | exact Frag.In.keeps (by assumption) (Fr.keep (by assumption))))) _ _ _ _ (by (((rename News _ _ _ _ => N9); exact (N9 _ (by k_mem)).1))) (fun h9 t9 tk9 hx9 => ?_)); (((rename Fr _ _ _ _ => F9); (rename News _ _ _ _ => N9); (rename Ext _ _ => hx9); (have F8 := fr_ext F9 hx9); (have N8 := news_ext N9 hx9); clear F9 N9 hx9; (try dsimp only); (try k_fold))))) | ((k_dflt (first | (refine sub_up (by ((first | assumption | exact Frag.In.keeps (by assumption) (Fr.keep (by assumption))))) _ _ _ _ (by (((rename News _ _ _ _ => N9); exact (N9 _ (by k_mem)).1))) (fun h9 t9 tk9 hx9 => ?_)) | (refine sub_lo (by ((first | assumption | exact Frag.In.keeps (by assumption) (Fr.keep (by assumption))))) _ _ _ _ (by (((rename News _ _ _ _ => N9); exact (N9 _ (by k_mem)).1))) (fun h9 t9 tk9 hx9 => ?_)) | (refine sub_fig (by ((first | assumption | exact Frag.In.keeps (by assumption) (Fr.keep (by assumption))))) _ _ _ _ (by (((rename News _ _ _ _ => N9); exact (N9 _ (by k_mem)).1))) (fun h9 t9 tk9 hx9 => ?_)) | (refine sub_ps (by ((first | assumption | exact Frag.In.keeps (by assumption) (Fr.keep (by assumption))))) _ _ _ _ (by (((rename News _ _ _ _ => N9); exact (N9 _ (by k_mem)).1))) (fun h9 t9 tk9 hx9 => ?_)) | (refine sub_ne (by ((first | assumption | exact Frag.In.keeps (by assumption) (Fr.keep (by assumption))))) _ _ _ _ (by (((rename News _ _ _ _ => N9); exact (N9 _ (by k_mem)).1))) (fun h9 t9 tk9 hx9 => ?_))); (((rename Fr _ _ _ _ => F9); (rename News _ _ _ _ => N9); (rename Ext _ _ => hx9); (have F8 := fr_ext F9 hx9); (have N8 := news_ext N9 hx9); clear F9 N9 hx9; (try dsimp only); (try k_fold))))))) | ((with_reducible show wpAny _ _ (call (Value.builtin "str.join") _ _) _ _ _); (first | ((k_dflt (refine join_leaf (by k_asm) (by k_asm) (by assumption) (by assumption) (by assumption) (by assumption) (rg_jok (by assumption)) (rg_join (by assumption)) (Nat.le_of_ble_eq_true rfl) (fun s9 t9 F9 N9 G9 o9 => ?_)); obtain ⟨h9, g9, d9, tk9, os9⟩ := s9; dsimp only at F9 N9 G9 o9; subst o9; (try dsimp only))) | ((k_dflt (first | (refine join_leaf (r := Str.ofString "A-Z") (by k_asm) (by k_asm) (by assumption) (by assumption) (by assumption) (by assumption) (by decide +kernel) (by decide +kernel) (by decide) (fun s9 t9 F9 N9 G9 o9 => ?_)) | (refine join_leaf (r := Str.ofString "a-z") (by k_asm) (by k_asm) (by assumption) (by assumption) (by assumption) (by assumption) (by decide +kernel) (by decide +kernel) (by decide) (fun s9 t9 F9 N9 G9 o9 => ?_)) | (refine join_leaf (r := Str.ofString "0-9") (by k_asm) (by k_asm) (by assumption) (by assumption) (by assumption) (by assumption) (by decide +kernel) (by decide +kernel) (by decide) (fun s9 t9 F9 N9 G9 o9 => ?_))); obtain ⟨h9, g9, d9, tk9, os9⟩ := s9; dsimp only at F9 N9 G9 o9; subst o9; (try dsimp only))))) | ((with_reducible show wpAny _ _ (call (Value.builtin "list.append") _ _) _ _ _); ((k_dflt (refine' append_K ?k1 ?k2 ?k3 ?_ ?z; (case k1 => k_asm); (case k2 => k_asm); (case k3 => k_upd); (case z => size_fits)); intro h' F' N'; (try k_sweep)))) | ((with_reducible show wpAny _ _ (call (Value.builtin "str.replace") _ _) _ _ _); ((k_dflt (refine rep_none (by decide +kernel) ?_)))) | ((with_reducible show wpAny _ _ (call (Value.ref _) _ _) _ _ _); (first | (k_dflt (refine' append_B ?k1 ?k2 ?k3 ?k4 ?_ ?z; (case k1 => k_asm); (case k2 => k_asm); (case k3 => k_mem); (case k4 => k_upd); (case z => size_fits)); intro h9 F9 N9; (try k_sweep)) | (refine' c_escape ?cx ?ct ?ch ?cr ?cu _ _ ?cc ?_; (case cx => ((first | assumption | exact Frag.In.keeps (by assumption) (Fr.keep (by assumption))))); (case ct => ((first | assumption | exact Top.keeps (by assumption) (Fr.keep (by assumption))))); (case ch => with_unfolding_all rfl); (case cr => ((simp +zetaDelta only [depth_deeper, units_deeper]; omega))); (case cu => ((simp +zetaDelta only [depth_deeper, units_deeper]; omega))); (case cc => first | assumption | decide); intro h9 t9 tk9 hx9 hle9 hlt9; (try dsimp only at hle9); (((rename Fr _ _ _ _ => F9); (rename News _ _ _ _ => N9); (rename Ext _ _ => hx9); (have F8 := fr_ext F9 hx9); (have N8 := news_ext N9 hx9); clear F9 N9 hx9; (try dsimp only); (try k_fold)))))) | ((with_reducible show wpAny _ _ (call (Value.builtin "len") _ _) _ _ _); (first | (k_dflt (refine name_len (by omega) ?_)) | (k_dflt (refine len_lit (n := 1) (by decide) (by rfl) ?_)) | (k_dflt (refine len_lit (n := 2) (by decide) (by rfl) ?_)) | (k_dflt (refine len_lit (n := 3) (by decide) (by rfl) ?_)) | (k_dflt (refine len_lit (n := 4) (by decide) (by rfl) ?_)) | (k_dflt (refine len_lit (n := 5) (by decide) (by rfl) ?_)) | (k_dflt (refine len_lit (n := 6) (by decide) (by rfl) ?_))))) | ((with_reducible show wpAny _ _ (PySem.truthy (Value.str _ _)) _ _ _); (k_dflt (first | refine truthy_T (n := 2) rfl (by decide) ?_ | refine truthy_T (n := 0) rfl (by decide) ?_))) | ((with_reducible show wpAny _ _ (getMethod (Value.ref _) _ _) _ _ _); (k_dflt (refine getm_sub (by ((first | assumption | exact Frag.In.keeps (by assumption) (Fr.keep (by assumption))))) ?_))) | ((with_reducible show wpAny _ _ (execs [] _) _ _ _); ((with_reducible refine wpAny_execs_nil ?_))) | ((with_reducible show wpAny _ _ (execs (_ :: _) _) _ _ _); (((rename Newer _ _ => z9); (with_reducible refine execs_n z9 ?le ?_); (case le => (k_dflt (first | exact Nat.le_refl _ | exact le_s1 | exact le_s2 | exact le_s3 | exact le_s4 | exact le_s5 | exact le_s6 | exact le_s7 | exact le_s8))); clear z9; intro qk tk9 z9))) | ((with_reducible show wpAny _ _ (eval (PySem.Expr.Name _ _) _) _ _ _); ((k_dflt ((refine' nameX_L ?F ?v ?_ ?a ?b); (case F => k_asm); (case b => rfl); (case a => rfl); (case v => rfl))))) | ((with_reducible show wpAny _ _ (eval (PySem.Expr.GeneratorExp _ _ _ _) _) _ _ _); ((k_dflt (refine gen_leaf (by k_asm) (by k_asm) (by k_asm) (by rfl) (by rfl) (by rfl) (by rfl) (by with_unfolding_all rfl) (by decide) (by rfl) (by rfl) (by rfl) ?hroom ?_ (by intro _; with_unfolding_all rfl)); (case hroom => ((simp +zetaDelta only [depth_deeper, units_deeper]; omega)))))) | ((with_reducible show wpAny _ _ (pyIter (Value.ref _)) _ _ _); (((with_reducible show wpAny _ _ (pyIter (Value.ref _)) (fun it s₂ => LoopAtV _ _ _ _ _ _ _ _ _ it s₂) _ _); krs_unr))) | ((with_reducible show wpAny _ _ (callWith _ (Value.ref _) _ _ _) _ _ _); (first | (k_dflt (refine' callWith_app ?k1 ?k2 ?_; (case k1 => k_asm); (case k2 => k_mem))))) | ((with_reducible show wpAny _ _ (getAttr (Value.ref _) _ _) _ _ _); ((k_dflt (refine' app_N ?k1 ?k2 ?k3 ?_; (case k1 => k_asm); (case k2 => k_asm); (case k3 => k_mem)); intro x9 h9 F9 N9 l9; (try k_lt l9); (try k_sweep)))) | ((with_reducible show wpAny _ _ (joinParts _ _) _ _ _); (first | ((k_dflt (refine joinParts_lit (rg_fmt (by assumption)) (rg_len (by assumption)) ?_))) | ((k_dflt (first | (refine joinParts_lit (r := Str.ofString "[A-Z]") (by decide +kernel) (by decide +kernel) ?_) | (refine joinParts_lit (r := Str.ofString "[a-z]") (by decide +kernel) (by decide +kernel) ?_) | (refine joinParts_lit (r := Str.ofString "[0-9]") (by decide +kernel) (by decide +kernel) ?_) | (refine joinParts_lit (r := Str.ofString "[+/]") (by decide +kernel) (by decide +kernel) ?_) | (refine joinParts_lit (r := Str.ofString "[^=]") (by decide +kernel) (by decide +kernel) ?_)))) | (((rename Newer _ _ => z9); (with_reducible refine joinParts_newer z9 ?le ?_); (case le => k_dflt (first | exact Nat.le_refl _ | exact le_s1 | exact le_s2 | exact le_s3 | exact le_s4 | exact le_s5 | exact le_s6 | exact le_s7 | exact le_s8)))))) | ((with_reducible show _ ∧ _); (((with_reducible show AppAt _ _ _ ∧ _); k_dflt (refine ⟨app_at (by k_asm) (by k_mem), ?_⟩)))) | ((with_reducible show wpAny _ _ (storeName _ _ _) _ _ _); ((k_dflt (refine' store_f ?F ?N ?b ?a ?_; (case F => k_asm); (case N => k_asm); (case b => rfl); (case a => rfl); k_whole; intro m' h' F' N'; (try k_sweep))))) | (k_end; wrow_close) | walk1 | dsimp only | (leave1; try dsimp only)))
      (rename Fr _ _ _ _ => F9)
      (rename News _ _ _ _ => N9)
      (rename Newer _ _ => z9)
      simp only [List.push_toArray, List.nil_append, List.cons_append] at N9
      exact trEnd_of hrest (TrSt.intro (vs := [.str (Str.ofString "many") t0] ++ [.str (Str.ofString "[^=]") _]) F9 N9 rfl rfl rfl rfl rfl rfl rfl (by first | rfl | omega) rfl (by k_mem) (by k_mem) (by k_mem) ⟨z9.1, by have := z9.2; omega⟩ (by assumption) (.cons _ _ (.cons _ _ .nil)) (lastOld_snoc (fun _ => (by (simp only [Newer, Old] at *; (try dsimp only at *); exact ⟨by omega, by omega⟩)))) ⟨_, _, rfl⟩ (by first | decide | (simp; done) | (simp; omega)))
    · clear F9 N9 z9
      intro k8 h8 t8 tk8 hk8 F9 N9 z9
      obtain ⟨c9, hc9, n9⟩ : ∃ c, List.getD [42, 91, 33, 61, 93] (Int.toNat (((4 : Nat) : Int) - (k8 + 1 : Nat))) 0 = c ∧ (one c == Str.ofString "]") = false := by
        rcases k8 with _ | _ | _ | k8
        · exact ⟨61, rfl, by decide +kernel⟩
        · omega
        · omega
        · omega
      (repeat' (first | ((try k_unmd); k_unfold; first | ((with_reducible (first | refine afterN_nil ?_ | refine afterN_next ?_ | refine afterN_ret ?_ | refine afterN_brk ?_)); intro z9) | (try dsimp only [List.cons_append, List.nil_append])) | ((with_reducible show wpAny _ _ (subscriptTail _ _ _ _) _ _ _); first | ((with_reducible show wpAny _ _ (subscriptTail (PySem.Expr.Name _ _) (PySem.Expr.Slice _ _ _ _) (Value.str _ _) (Value.ref _)) _ _ _); (((rename Fr _ _ _ _ => F9); (rename News _ _ _ _ => N9); k_dflt (refine' slice_to (s := ⟨_, _, _, _, _⟩) F9 N9 ?r ?_ ?hs ?ht ?hz; (case r => first | exact slice_abc | exact slice_a | exact slice_z); (case hs => with_unfolding_all rfl); (case ht => intro _; with_unfolding_all rfl); (case hz => size_fits)); intro h8 t8 k8 F8 N8; clear F9 N9; (try dsimp only)))) | ((with_reducible show wpAny _ _ (subscriptTail (PySem.Expr.Name _ _) (PySem.Expr.Name _ _) (Value.ref _) (Value.int _ _)) _ _ _); (k_dflt ((refine' item_news ?k1 ?k2 ?k3 ?k4 ?k5 ?_ ?k6); (case k1 => k_asm); (case k2 => k_mem); (case k3 => decide); (case k4 => decide); (case k5 => exact rfl); (case k6 => with_unfolding_all rfl)))) | ((with_reducible show wpAny _ _ (subscriptTail (PySem.Expr.Name _ _) (PySem.Expr.BinOp _ _ _ _) (Value.ref _) (Value.int _ _)) _ _ _); (k_dflt ((refine' item_news ?k1 ?k2 ?k3 ?k4 ?k5 ?_ ?k6); (case k1 => k_asm); (case k2 => k_mem); (case k3 => decide); (case k4 => decide); (case k5 => exact rfl); (case k6 => with_unfolding_all rfl)))) | ((with_reducible show wpAny _ _ (subscriptTail (PySem.Expr.Name _ _) (PySem.Expr.Name _ _) (Value.str _ _) (Value.int _ _)) _ _ _); (k_dflt ((refine' item_lit ?i0 ?i1 ?i2 ?hc ?_ ?is ?it); (case hc => first | assumption | exact Eq.refl 42 | exact Eq.refl 65 | exact Eq.refl 61 | exact Eq.refl 63 | exact Eq.refl 91 | exact Eq.refl 93 | exact Eq.refl 45 | exact Eq.refl 90 | exact Eq.refl 97 | exact Eq.refl 122 | exact Eq.refl 48 | exact Eq.refl 57 | exact Eq.refl 43 | exact Eq.refl 47 | exact Eq.refl 33 | ((rename SymA _ => y9); exact Eq.trans (by rfl) (SymA.rfl y9)) | ((rename SymZ _ => y9); exact Eq.trans (by rfl) (SymZ.rfl y9))); (case i0 => first | decide | omega); (case i1 => first | decide | omega); (case i2 => first | decide | omega); (case is => with_unfolding_all rfl); (case it => intro _; with_unfolding_all rfl))))) | ((with_reducible show wpAny _ _ (exec _ _) _ _ _); first | ((with_reducible show wpAny _ _ (exec (Stmt.While (PySem.Expr.BoolOp _ _ _) _ [] _) _) _ _ _); ((k_dflt (refine whl_leaf ?_)))) | ((with_reducible show wpAny _ _ (exec (Stmt.While (PySem.Expr.Compare _ _ _ _) _ [] _) _) _ _ _); ((k_dflt (refine whl_leaf ?_)))) | ((with_reducible show wpAny _ _ (exec (Stmt.If _ _ _ _) _) _ _ _); (first | (((rename Newer _ _ => z9); (with_reducible refine if_newer z9 ?le ?_); (case le => k_dflt (first | exact Nat.le_refl _ | exact le_s1 | exact le_s2 | exact le_s3 | exact le_s4 | exact le_s5 | exact le_s6 | exact le_s7 | exact le_s8)))) | (refine wpAny_If ?_)))) | ((with_reducible show wpAny _ _ (compareOp _ _ _) _ _ _); first | ((with_reducible show wpAny _ _ (compareOp CmpOp.NotIn (Value.str _ _) (Value.str _ _)) _ _ _); (first | ((k_dflt (refine notin_lit (b := false) (rg_dash (by assumption)) ?_))) | (first | (k_dflt (refine notin_lit (b := true) (by decide +kernel) ?_)) | (k_dflt (refine notin_lit (b := false) (by decide +kernel) ?_))))) | ((with_reducible show wpAny _ _ (compareOp CmpOp.Gt (Value.str _ _) (Value.str _ _)) _ _ _); (k_dflt (refine gt_strF (rg_gt (by assumption)) ?_))) | ((with_reducible show wpAny _ _ (compareOp CmpOp.IsNot (Value.str _ _) (Value.str _ _)) _ _ _); ((k_dflt (refine isnot_old (by first | assumption | rfl | decide +kernel) ?ho ?_); (case ho => first | assumption | (simp only [Newer] at *; (try dsimp only at *); exact ⟨by omega, by omega⟩))))) | ((with_reducible show wpAny _ _ (compareOp CmpOp.NotEq (Value.str _ _) (Value.str _ _)) _ _ _); (refine ne_strT (by assumption) ?_)) | ((with_reducible show wpAny _ _ (compareOp CmpOp.Eq (Value.str _ _) (Value.str _ _)) _ _ _); (refine eq_strF (by assumption) ?_))) | ((with_reducible show wpAny _ _ (call _ _ _) _ _ _); first | ((with_reducible show wpAny _ _ (call (Value.builtin "str.find") _ _) _ _ _); (first | (first | (k_dflt (refine find_lit (r := 2) (rg_find1 (by assumption)) ?_)) | (k_dflt (refine find_lit (r := -1) (rg_find2 (by assumption)) ?_))) | (first | (k_dflt (refine find_lit (r := 2) (by decide +kernel) ?_)) | (k_dflt (refine find_lit (r := -1) (by decide +kernel) ?_))))) | ((with_reducible show wpAny _ _ (call (Value.builtin "re.Pattern.sub") _ _) _ _ _); (first | ((k_dflt (refine sub_rng (by assumption) (by ((first | assumption | exact Frag.In.keeps (by assumption) (Fr.keep (by assumption))))) _ _ _ _ (by (((rename News _ _ _ _ => N9); exact (N9 _ (by k_mem)).1))) (fun h9 t9 tk9 hx9 => ?_)); (((rename Fr _ _ _ _ => F9); (rename News _ _ _ _ => N9); (rename Ext _ _ => hx9); (have F8 := fr_ext F9 hx9); (have N8 := news_ext N9 hx9); clear F9 N9 hx9; (try dsimp only); (try k_fold))))) | ((k_dflt (first | (refine sub_up (by ((first | assumption | exact Frag.In.keeps (by assumption) (Fr.keep (by assumption))))) _ _ _ _ (by (((rename News _ _ _ _ => N9); exact (N9 _ (by k_mem)).1))) (fun h9 t9 tk9 hx9 => ?_)) | (refine sub_lo (by ((first | assumption | exact Frag.In.keeps (by assumption) (Fr.keep (by assumption))))) _ _ _ _ (by (((rename News _ _ _ _ => N9); exact (N9 _ (by k_mem)).1))) (fun h9 t9 tk9 hx9 => ?_)) | (refine sub_fig (by ((first | assumption | exact Frag.In.keeps (by assumption) (Fr.keep (by assumption))))) _ _ _ _ (by (((rename News _ _ _ _ => N9); exact (N9 _ (by k_mem)).1))) (fun h9 t9 tk9 hx9 => ?_)) | (refine sub_ps (by ((first | assumption | exact Frag.In.keeps (by assumption) (Fr.keep (by assumption))))) _ _ _ _ (by (((rename News _ _ _ _ => N9); exact (N9 _ (by k_mem)).1))) (fun h9 t9 tk9 hx9 => ?_)) | (refine sub_ne (by ((first | assumption | exact Frag.In.keeps (by assumption) (Fr.keep (by assumption))))) _ _ _ _ (by (((rename News _ _ _ _ => N9); exact (N9 _ (by k_mem)).1))) (fun h9 t9 tk9 hx9 => ?_))); (((rename Fr _ _ _ _ => F9); (rename News _ _ _ _ => N9); (rename Ext _ _ => hx9); (have F8 := fr_ext F9 hx9); (have N8 := news_ext N9 hx9); clear F9 N9 hx9; (try dsimp only); (try k_fold))))))) | ((with_reducible show wpAny _ _ (call (Value.builtin "str.join") _ _) _ _ _); (first | ((k_dflt (refine join_leaf (by k_asm) (by k_asm) (by assumption) (by assumption) (by assumption) (by assumption) (rg_jok (by assumption)) (rg_join (by assumption)) (Nat.le_of_ble_eq_true rfl) (fun s9 t9 F9 N9 G9 o9 => ?_)); obtain ⟨h9, g9, d9, tk9, os9⟩ := s9; dsimp only at F9 N9 G9 o9; subst o9; (try dsimp only))) | ((k_dflt (first | (refine join_leaf (r := Str.ofString "A-Z") (by k_asm) (by k_asm) (by assumption) (by assumption) (by assumption) (by assumption) (by decide +kernel) (by decide +kernel) (by decide) (fun s9 t9 F9 N9 G9 o9 => ?_)) | (refine join_leaf (r := Str.ofString "a-z") (by k_asm) (by k_asm) (by assumption) (by assumption) (by assumption) (by assumption) (by decide +kernel) (by decide +kernel) (by decide) (fun s9 t9 F9 N9 G9 o9 => ?_)) | (refine join_leaf (r := Str.ofString "0-9") (by k_asm) (by k_asm) (by assumption) (by assumption) (by assumption) (by assumption) (by decide +kernel) (by decide +kernel) (by decide) (fun s9 t9 F9 N9 G9 o9 => ?_))); obtain ⟨h9, g9, d9, tk9, os9⟩ := s9; dsimp only at F9 N9 G9 o9; subst o9; (try dsimp only))))) | ((with_reducible show wpAny _ _ (call (Value.builtin "list.append") _ _) _ _ _); ((k_dflt (refine' append_K ?k1 ?k2 ?k3 ?_ ?z; (case k1 => k_asm); (case k2 => k_asm); (case k3 => k_upd); (case z => size_fits)); intro h' F' N'; (try k_sweep)))) | ((with_reducible show wpAny _ _ (call (Value.builtin "str.replace") _ _) _ _ _); ((k_dflt (refine rep_none (by decide +kernel) ?_)))) | ((with_reducible show wpAny _ _ (call (Value.ref _) _ _) _ _ _); (first | (k_dflt (refine' append_B ?k1 ?k2 ?k3 ?k4 ?_ ?z; (case k1 => k_asm); (case k2 => k_asm); (case k3 => k_mem); (case k4 => k_upd); (case z => size_fits)); intro h9 F9 N9; (try k_sweep)) | (refine' c_escape ?cx ?ct ?ch ?cr ?cu _ _ ?cc ?_; (case cx => ((first | assumption | exact Frag.In.keeps (by assumption) (Fr.keep (by assumption))))); (case ct => ((first | assumption | exact Top.keeps (by assumption) (Fr.keep (by assumption))))); (case ch => with_unfolding_all rfl); (case cr => ((simp +zetaDelta only [depth_deeper, units_deeper]; omega))); (case cu => ((simp +zetaDelta only [depth_deeper, units_deeper]; omega))); (case cc => first | assumption | decide); intro h9 t9 tk9 hx9 hle9 hlt9; (try dsimp only at hle9); (((rename Fr _ _ _ _ => F9); (rename News _ _ _ _ => N9); (rename Ext _ _ => hx9); (have F8 := fr_ext F9 hx9); (have N8 := news_ext N9 hx9); clear F9 N9 hx9; (try dsimp only); (try k_fold)))))) | ((with_reducible show wpAny _ _ (call (Value.builtin "len") _ _) _ _ _); (first | (k_dflt (refine name_len (by omega) ?_)) | (k_dflt (refine len_lit (n := 1) (by decide) (by rfl) ?_)) | (k_dflt (refine len_lit (n := 2) (by decide) (by rfl) ?_)) | (k_dflt (refine len_lit (n := 3) (by decide) (by rfl) ?_)) | (k_dflt (refine len_lit (n := 4) (by decide) (by rfl) ?_)) | (k_dflt (refine len_lit (n := 5) (by decide) (by rfl) ?_)) | (k_dflt (refine len_lit (n := 6) (by decide) (by rfl) ?_))))) | ((with_reducible show wpAny _ _ (PySem.truthy (Value.str _ _)) _ _ _); (k_dflt (first | refine truthy_T (n := 2) rfl (by decide) ?_ | refine truthy_T (n := 0) rfl (by decide) ?_))) | ((with_reducible show wpAny _ _ (getMethod (Value.ref _) _ _) _ _ _); (k_dflt (refine getm_sub (by ((first | assumption | exact Frag.In.keeps (by assumption) (Fr.keep (by assumption))))) ?_))) | ((with_reducible show wpAny _ _ (execs [] _) _ _ _); ((with_reducible refine wpAny_execs_nil ?_))) | ((with_reducible show wpAny _ _ (execs (_ :: _) _) _ _ _); (((rename Newer _ _ => z9); (with_reducible refine execs_n z9 ?le ?_); (case le => (k_dflt (first | exact Nat.le_refl _ | exact le_s1 | exact le_s2 | exact le_s3 | exact le_s4 | exact le_s5 | exact le_s6 | exact le_s7 | exact le_s8))); clear z9; intro qk tk9 z9))) | ((with_reducible show wpAny _ _ (eval (PySem.Expr.Name _ _) _) _ _ _); ((k_dflt ((refine' nameX_L ?F ?v ?_ ?a ?b); (case F => k_asm); (case b => rfl); (case a => rfl); (case v => rfl))))) | ((with_reducible show wpAny _ _ (eval (PySem.Expr.GeneratorExp _ _ _ _) _) _ _ _); ((k_dflt (refine gen_leaf (by k_asm) (by k_asm) (by k_asm) (by rfl) (by rfl) (by rfl) (by rfl) (by with_unfolding_all rfl) (by decide) (by rfl) (by rfl) (by rfl) ?hroom ?_ (by intro _; with_unfolding_all rfl)); (case hroom => ((simp +zetaDelta only [depth_deeper, units_deeper]; omega)))))) | ((with_reducible show wpAny _ _ (pyIter (Value.ref _)) _ _ _); (((with_reducible show wpAny _ _ (pyIter (Value.ref _)) (fun it s₂ => LoopAtV _ _ _ _ _ _ _ _ _ it s₂) _ _); krs_unr))) | ((with_reducible show wpAny _ _ (callWith _ (Value.ref _) _ _ _) _ _ _); (first | (k_dflt (refine' callWith_app ?k1 ?k2 ?_; (case k1 => k_asm); (case k2 => k_mem))))) | ((with_reducible show wpAny _ _ (getAttr (Value.ref _) _ _) _ _ _); ((k_dflt (refine' app_N ?k1 ?k2 ?k3 ?_; (case k1 => k_asm); (case k2 => k_asm); (case k3 => k_mem)); intro x9 h9 F9 N9 l9; (try k_lt l9); (try k_sweep)))) | ((with_reducible show wpAny _ _ (joinParts _ _) _ _ _); (first | ((k_dflt (refine joinParts_lit (rg_fmt (by assumption)) (rg_len (by assumption)) ?_))) | ((k_dflt (first | (refine joinParts_lit (r := Str.ofString "[A-Z]") (by decide +kernel) (by decide +kernel) ?_) | (refine joinParts_lit (r := Str.ofString "[a-z]") (by decide +kernel) (by decide +kernel) ?_) | (refine joinParts_lit (r := Str.ofString "[0-9]") (by decide +kernel) (by decide +kernel) ?_) | (refine joinParts_lit (r := Str.ofString "[+/]") (by decide +kernel) (by decide +kernel) ?_) | (refine joinParts_lit (r := Str.ofString "[^=]") (by decide +kernel) (by decide +kernel) ?_)))) | (((rename Newer _ _ => z9); (with_reducible refine joinParts_newer z9 ?le ?_); (case le => k_dflt (first | exact Nat.le_refl _ | exact le_s1 | exact le_s2 | exact le_s3 | exact le_s4 | exact le_s5 | exact le_s6 | exact le_s7 | exact le_s8)))))) | ((with_reducible show _ ∧ _); (((with_reducible show AppAt _ _ _ ∧ _); k_dflt (refine ⟨app_at (by k_asm) (by k_mem), ?_⟩)))) | ((with_reducible show wpAny _ _ (storeName _ _ _) _ _ _); ((k_dflt (refine' store_f ?F ?N ?b ?a ?_; (case F => k_asm); (case N => k_asm); (case b => rfl); (case a => rfl); k_whole; intro m' h' F' N'; (try k_sweep))))) | (k_end; wrow_close) | walk1 | dsimp only | (leave1; try dsimp only)))
      exact ⟨rfl, _, _, _, rfl, by assumption, by assumption, by (rename Newer _ _ => z9); refine ⟨z9.1, ?_⟩; have := z9.2; (try dsimp only); omega⟩
end Mine
end
section -- SV
namespace Mine
open LCg
section
variable {prog : Program} {w : World} {A : Around} {E : Value → Shared → Prop} {s : Shared} {h₀ : Heap} {L : Addr} {m : Str → Option Value} {env : Env}
noncomputable def SrcS (prog : Program) (w : World) (A : Around) (h₀ : Heap) (L : Addr) (m : Str → Option Value) (env : Env) (elt : PySem.Expr) (x : Str) (scope : Scope) (cl : List (Str × Addr)) (Q : Value → Shared → Prop) (xv : Value) (s₁ : Shared) : Prop :=
  ∃ (ax : Addr) (its : Array Value) (news : List (Addr × Obj)) (os : OsState) (T0 : Nat) (Inv : Nat → List Value → List (Addr × Obj) → Prop), xv = .ref ax ∧ A.handled = none ∧ Fr h₀ L s₁.heap m ∧ News h₀ L s₁.heap news ∧ SrcAt h₀ ax its news ∧ its.size ≤ sizeLine ∧ AllBare s₁.gens ∧ s₁.os = os ∧ T0 ≤ s₁.toks ∧ Inv 0 [] news ∧
    (∀ i v ys news I oI C oC D m₂ (s : Shared) (E' : Value → Shared → Prop), its[i]? = some v → Inv i ys news → NsObj oC m₂ → m₂ x = some v → Fr h₀ L s.heap m → News h₀ L s.heap ((I, oI) :: (C, oC) :: (D, lst ys) :: news) → Off3 I C D news → ((@Ne Nat I C) ∧ (@Ne Nat I D) ∧ (@Ne Nat C D)) → SrcAt h₀ ax its news → AllBare s.gens → s.os = os → T0 ≤ s.toks →
      wpAny (model prog w) A (eval elt (compEnvC scope cl C env)) (fun y s₂ => ∃ news', Fr h₀ L s₂.heap m ∧ News h₀ L s₂.heap ((I, oI) :: (C, oC) :: (D, lst ys) :: news') ∧ Off3 I C D news' ∧ SrcAt h₀ ax its news' ∧ AllBare s₂.gens ∧ s₂.os = os ∧ Inv (i + 1) (ys ++ [y]) news') E' s) ∧
    (∀ ys news' D s', Inv its.size ys news' → Fr h₀ L s'.heap m → News h₀ L s'.heap ((D, lst ys) :: news') → Off1 D news' → AllBare s'.gens → s'.os = os → @LE.le Nat _ its.size s'.toks → @LE.le Nat _ T0 s'.toks → Q (.ref D) s')
theorem ListComp_S {elt iter : PySem.Expr} {x : Str} {px : Pos} {scope : Scope} {cl : List (Str × Addr)} {pos : Pos} {Q : Value → Shared → Prop} (_F₀ : Fr h₀ L s.heap m)
    (hclos : closureFor scope env = pure cl) (hcell : ∀ y ∈ scope.names, y.2 ≠ .cell) (hkind : scope.kind = .function)
    (hnames : ∀ y ∈ scope.names, y.2 = .local → scope.names.lookup y.1 = some .local) (hx : scope.names.lookup x = some .local)
    (h : wpAny (model prog w) A (eval iter env) (SrcS prog w A h₀ L m env elt x scope cl Q) E s)
    (hs : ∀ x, foldedSetIterable iter env x = pure x := by intro _; rfl) :
    wpAny (model prog w) A (eval (.ListComp elt [⟨.Name x px, iter, [], 0⟩] scope pos) env) Q E s := by
  rw [eval_ListComp]
  refine wpAny_comprehension_free (use := none) rfl hs hclos hkind hnames (wpAny_mono h (fun xv s₁ h₁ => ?_) fun _ _ e => e)
  refine hideG ?_
  intro q9
  obtain ⟨ax, its, news, os, T0, Inv, rfl, hh, F, N, S, hsz, hG, hos, hT, hI0, turn, fin⟩ := h₁
  (try k_unmd)
  k_unfold
  have hl := S.list F.keep N
  have hlt : ax < s₁.heap.objs.size := by obtain ⟨_, e, _⟩ := hl; exact Heap.lt_size e
  refine wpAny_pyIter_list hl ?_
  have up : ∀ b o, s₁.heap.get? b = some o → (s₁.heap.push { cls := .type "list_iterator", data := .fields #[.ref ax, .int 0 0] }).get? b = some o := fun b o e => Heap.get?_push_of_some _ e
  have W := Walks.list (prog := prog) (w := w) hh s₁.heap.objs.size ax (Nat.ne_of_lt hlt) its
  have hI₀ : h₀.get? s₁.heap.objs.size = none := next_is_new F
  have hIL : L ≠ s₁.heap.objs.size := Nat.ne_of_lt F.ns.lt
  have off : ∀ p ∈ news, p.1 ≠ s₁.heap.objs.size := fun p hp => Nat.ne_of_lt (Heap.lt_size (N p hp).1)
  have F' := F.keeps up
  have N' := N.grown up
  have hst : ((s₁.heap.push { cls := .type "list_iterator", data := .fields #[.ref ax, .int 0 0] }).IsListIter s₁.heap.objs.size ax 0 ∧ (s₁.heap.push { cls := .type "list_iterator", data := .fields #[.ref ax, .int 0 0] }).IsList ax its) := ⟨⟨_, Heap.get?_push_size _ rfl, rfl, rfl⟩, hl.push _⟩
  have hfp : ∀ b ∈ [s₁.heap.objs.size, ax], b < (s₁.heap.push { cls := .type "list_iterator", data := .fields #[.ref ax, .int 0 0] }).objs.size := fun b hb => by
    rw [Heap.size_push]
    rcases List.mem_cons.mp hb with rfl | hb
    · exact Nat.lt_succ_self _
    · rw [List.mem_singleton.mp hb]; exact Nat.lt_succ_of_lt hlt
  generalize hI : s₁.heap.objs.size = I at W hI₀ hIL off hst hfp ⊢
  generalize hH : s₁.heap.push { cls := .type "list_iterator", data := .fields #[.ref ax, .int 0 0] } = H at F' N' hst hfp ⊢
  clear up F N hl
  refine wpAny_newObj_type (wpAny_newFunctionEnv hcell (by intro y hy; simp at hy) (fun h₁ hns₁ hsb₁ => ?_) hkind)
  dsimp only at hns₁ hsb₁ ⊢
  generalize hH2 : H.push { cls := .type "list", dict := none, data := .seq ([] : List Value).toArray } = H2 at hns₁ hsb₁ ⊢
  have hC : H2.objs.size = H.objs.size + 1 := by rw [← hH2, Heap.size_push]
  have hDC : H.objs.size ≠ H2.objs.size := by rw [hC]; exact Nat.ne_of_lt (Nat.lt_succ_self _)
  have below : ∀ b, b < H.objs.size → b ≠ H2.objs.size ∧ b ≠ H.objs.size := fun b hb => ⟨by rw [hC]; exact Nat.ne_of_lt (Nat.lt_succ_of_lt hb), Nat.ne_of_lt hb⟩
  have hDf : H.objs.size ∉ [I, ax] := fun hm => Nat.lt_irrefl _ (hfp _ hm)
  have hCf : H2.objs.size ∉ [I, ax] := fun hm => by have := hfp _ hm; rw [hC] at this; exact Nat.lt_irrefl _ (Nat.lt_of_succ_lt this)
  have hIlt : I < H.objs.size := hfp I (by simp)
  have old : ∀ b o, H.get? b = some o → h₁.get? b = some o := fun b o e => hsb₁.extBut b o (below b (Heap.lt_size e)).1 (Heap.get?_push_of_some _ (hH2 ▸ Heap.get?_push_of_some _ e))
  have hacc : h₁.get? H.objs.size = some (lst []) := hsb₁.extBut _ _ hDC (Heap.get?_push_of_some _ (hH2 ▸ Heap.get?_push_size _ rfl))
  have hst₁ := W.frame _ _ _ hst fun b _ o e => old b o e
  have fresh : ∀ a, H.objs.size ≤ a → H.get? a = none := fun a ha => by
    cases e : H.get? a with
    | none => rfl
    | some o' => exact absurd (Heap.lt_size e) (Nat.not_lt.mpr ha)
  have fresh₀ : ∀ a, H.objs.size ≤ a → h₀.get? a = none := fun a ha => by
    cases e : h₀.get? a with
    | none => rfl
    | some o' => have := F'.keep a o' e; rw [fresh a ha] at this; cases this
  have hD₀ : h₀.get? H.objs.size = none := fresh₀ _ (Nat.le_refl _)
  have hC₀ : h₀.get? H2.objs.size = none := fresh₀ _ (by rw [hC]; exact Nat.le_succ _)
  have hLlt : L < H.objs.size := F'.ns.lt
  have hDL : H.objs.size ≠ L := Ne.symm (below L hLlt).2
  have hCL : H2.objs.size ≠ L := Ne.symm (below L hLlt).1
  have hCI : I ≠ H2.objs.size := (below I hIlt).1
  have hDI : I ≠ H.objs.size := (below I hIlt).2
  have off₀ : Off3 I H2.objs.size H.objs.size news := Off3.of fun p hp => ⟨off p hp, (below _ (Heap.lt_size (N' p hp).1)).1, (below _ (Heap.lt_size (N' p hp).1)).2⟩
  have loop : ∀ (R : Result → Shared → Prop) (s₃ : Shared), s₃ = { s₁ with heap := h₁, toks := s₁.toks + ([] : List (Str × Value)).length } →
      (∀ (s' : Shared) ys news' m', Inv its.size ys news' → Fr h₀ L s'.heap m → News h₀ L s'.heap ((H.objs.size, lst ys) :: news') → Off1 H.objs.size news' → (∀ p ∈ news', p.1 ≠ H2.objs.size) → s'.heap.Ns H2.objs.size m' → AllBare s'.gens → s'.os = os → @LE.le Nat _ its.size s'.toks → @LE.le Nat _ T0 s'.toks → R (.ok .next) s') →
      codeAny (model prog w) A (.compLoop (.ListComp elt [⟨.Name x px, iter, [], 0⟩] scope pos) 0 (.ref I) (.ref H.objs.size) (compEnvC scope cl H2.objs.size env)) R s₃ := by
    rintro R s₃ rfl hR
    refine codeAny_compLoop_tests
      (fun k s' => ∃ i ys m' news', i ≤ its.size ∧ k = its.size + 1 - i ∧ ys.length = i ∧ (s'.heap.IsListIter I ax i ∧ s'.heap.IsList ax its) ∧ Fr h₀ L s'.heap m ∧ s'.heap.Ns H2.objs.size m' ∧ News h₀ L s'.heap ((H.objs.size, lst ys) :: news') ∧
        Off3 I H2.objs.size H.objs.size news' ∧ SrcAt h₀ ax its news' ∧ Inv i ys news' ∧ AllBare s'.gens ∧ s'.os = os ∧ @LE.le Nat _ T0 s'.toks ∧ @LE.le Nat _ i s'.toks) ?_ (its.size + 1)
      ⟨0, [], _, news, Nat.zero_le _, rfl, rfl, hst₁, F'.keeps old, hns₁, fun p hp => ?_, off₀, S, hI0, hG, hos, Nat.le_trans hT (Nat.le_add_right _ _), Nat.zero_le _⟩
    · intro k s' hq9
      refine hideG ?_
      intro q9
      obtain ⟨i, ys, m', news', hi, rfl, hyl, hst', F', hn', N', off', hS', hInv, hG', hos', hT', hit⟩ := hq9
      (try k_unmd)
      k_unfold
      have off3 := off'.mem
      by_cases hlti : i < its.size
      · refine wpAny_growQ ?_
        refine W.item i _ _ _ hlti hst' fun v h₂ tk₂ hPv hst₂ hk₂ => fun htk₂ => ?_
        refine wpAny_assign_Name (wpAny_storeName_local (lookup_relabel_local hx) (hn'.at' fun o e => hk₂ _ o (by simpa using Ne.symm hCI) e) (fun h₃ hn₃ hs₃ => ?_) (by simp [compEnvC, relabel, hkind]))
        refine wpAny_tests_nil ?_
        simp only [if_true]
        have hst₃ := W.frame _ _ _ hst₂ fun b hb o e => hs₃.extBut b o (fun q => hCf (by have q' : b = H2.objs.size := q; rw [← q']; exact hb)) e
        obtain ⟨oI, heI⟩ : ∃ oI, h₃.get? I = some oI := by obtain ⟨o, e, _⟩ := hst₃.1; exact ⟨o, e⟩
        obtain ⟨oC, heC, hoC⟩ := ns_obj hn₃
        have F₃ : Fr h₀ L h₃ m := (fr_but F' hk₂ hIL hI₀).change hs₃ hCL hC₀
        have N₂ : News h₀ L h₂ ((H.objs.size, lst ys) :: news') := news_but N' hk₂ fun p hp => by
          rcases List.mem_cons.mp hp with rfl | hp
          · exact Ne.symm hDI
          · exact (off3 p hp).1
        have N₃ : News h₀ L h₃ ((I, oI) :: (H2.objs.size, oC) :: (H.objs.size, lst ys) :: news') := fun p hp => by
          rcases List.mem_cons.mp hp with rfl | hp
          · exact ⟨heI, Ne.symm hIL, hI₀⟩
          · rcases List.mem_cons.mp hp with rfl | hp
            · exact ⟨heC, hCL, hC₀⟩
            · have z := N₂ p hp
              refine ⟨hs₃.extBut _ _ ?_ z.1, z.2⟩
              rcases List.mem_cons.mp hp with rfl | hp
              · exact hDC
              · exact (off3 p hp).2.1
        have hT₃ : T0 ≤ tk₂ + 1 := Nat.le_succ_of_le (Nat.le_trans hT' htk₂)
        have hi₃ : i + 1 ≤ tk₂ + 1 := Nat.succ_le_succ (Nat.le_trans hit htk₂)
        refine wpAny_growQ ?_
        refine wpAny_mono (turn i v ys news' I oI H2.objs.size oC H.objs.size _ _ _ hPv hInv hoC (by simp) F₃ N₃ off' ⟨hCI, hDI, Ne.symm hDC⟩ hS' hG' hos' hT₃) (fun y s₄ h₄ hge₄ => ?_) fun _ _ e => e
        refine hideG ?_
        intro q9
        obtain ⟨news₄, F₄, N₄, off₄, hS₄, hG₄, hos₄, hInv₄⟩ := h₄
        (try k_unmd)
        k_unfold
        have zI := (N₄ (I, oI) List.mem_cons_self).1
        have zC := (N₄ (H2.objs.size, oC) (List.mem_cons_of_mem _ List.mem_cons_self)).1
        have zD := (N₄ (H.objs.size, lst ys) (List.mem_cons_of_mem _ (List.mem_cons_of_mem _ List.mem_cons_self))).1
        have N₄' : News h₀ L s₄.heap news₄ := fun p hp => N₄ p (List.mem_cons_of_mem _ (List.mem_cons_of_mem _ (List.mem_cons_of_mem _ hp)))
        have hst₄ : (s₄.heap.IsListIter I ax (i + 1) ∧ s₄.heap.IsList ax its) := ⟨by obtain ⟨o', q, r⟩ := hst₃.1; rw [heI] at q; cases q; exact ⟨_, zI, r⟩, hS₄.list F₄.keep N₄'⟩
        refine append_at (hsz := by show ys.toArray.size ≤ sizeLine; rw [List.size_toArray, hyl]; exact Nat.le_trans hi hsz) zD fun h₅ hs₅ hD₅ => ?_
        have off4 := off₄.mem
        refine ⟨its.size + 1 - (i + 1), by omega, i + 1, ys ++ [y], _, news₄, hlti, rfl, by rw [List.length_append, List.length_singleton, hyl], W.frame _ _ _ hst₄ fun b hb o e => hs₅.extBut b o (fun q => hDf (q ▸ hb)) e, F₄.change hs₅ hDL hD₀,
          (hoC.ns zC).sameBut hs₅ (Ne.symm hDC), fun p hp => ?_, off₄, hS₄, hInv₄, hG₄, hos₄, Nat.le_trans hT₃ hge₄, Nat.le_trans hi₃ hge₄⟩
        rcases List.mem_cons.mp hp with rfl | hp
        · exact ⟨hD₅.trans (congrArg some (lst_snoc ys y)), hDL, hD₀⟩
        · have z := N₄' p hp
          exact ⟨hs₅.extBut _ _ (off4 p hp).2.2 z.1, z.2⟩
      · obtain rfl : i = its.size := Nat.le_antisymm hi (Nat.not_lt.mp hlti)
        refine wpAny_growQ ?_
        refine W.done _ _ _ hst' fun h₂ tk₂ hk₂ => fun htk₂ => ?_
        refine hR _ ys news' _ hInv (fr_but F' hk₂ hIL hI₀) (news_but N' hk₂ fun p hp => ?_) off'.one (fun p hp => (off3 p hp).2.1) (hn'.at' fun o e => hk₂ _ o (by simpa using Ne.symm hCI) e) hG' hos' (Nat.le_trans hit htk₂) (Nat.le_trans hT' htk₂)
        rcases List.mem_cons.mp hp with rfl | hp
        · exact Ne.symm hDI
        · exact (off3 p hp).1
    · rcases List.mem_cons.mp hp with rfl | hp
      · exact ⟨hacc, hDL, hD₀⟩
      · exact ⟨old _ _ (N' p hp).1, (N' p hp).2⟩
  have fin' : ∀ (s' : Shared) ys news' m', Inv its.size ys news' → Fr h₀ L s'.heap m → News h₀ L s'.heap ((H.objs.size, lst ys) :: news') → Off1 H.objs.size news' → (∀ p ∈ news', p.1 ≠ H2.objs.size) → s'.heap.Ns H2.objs.size m' → AllBare s'.gens → s'.os = os → @LE.le Nat _ its.size s'.toks → @LE.le Nat _ T0 s'.toks → ∃ m'', s'.heap.Ns H2.objs.size m'' ∧ ∀ h'', Heap.SameBut H2.objs.size s'.heap h'' → Q (.ref H.objs.size) { s' with heap := h'' } := by
    intro s' ys news' m' hInv F' N' o1 offC hn hG' hos' hzt hzT
    refine ⟨m', hn, fun h'' hs'' => fin ys news' H.objs.size { s' with heap := h'' } hInv (F'.change hs'' hCL hC₀) (fun p hp => ?_) o1 hG' hos' hzt hzT⟩
    refine ⟨hs''.extBut _ _ ?_ (N' p hp).1, (N' p hp).2⟩
    rcases List.mem_cons.mp hp with rfl | hp
    · exact hDC
    · exact offC p hp
  exact codeAny_compStart_list (loop _ _ rfl fin') (W.self 0 _ _ _ hst₁ (loop _ _ rfl fin'))
end
end Mine
end
section -- SW
namespace Mine
open LCg
noncomputable def ObjIn {α : Type} (R : Obj → α → Prop) (new : List (Addr × Obj)) (v : Value) (a : α) : Prop := ∃ b o, v = .ref b ∧ (b, o) ∈ new ∧ R o a
theorem objin_mono {α : Type} {R : Obj → α → Prop} {new new' : List (Addr × Obj)} {vs : List Value} {as : List α} (h : Are (ObjIn R new) vs as) (hs : ∀ p ∈ new, p ∈ new') : Are (ObjIn R new') vs as := by
  induction h with
  | nil => exact .nil
  | cons r _ ih => obtain ⟨b, o, e, hm, hr⟩ := r; exact .cons ⟨b, o, e, hs _ hm, hr⟩ ih
theorem srcAt_mono {h₀ : Heap} {ax : Addr} {its : Array Value} {news news' : List (Addr × Obj)} (h : SrcAt h₀ ax its news) (hs : ∀ p ∈ news, p ∈ news') : SrcAt h₀ ax its news' := h.imp id fun ⟨o, hm, r⟩ => ⟨o, hs _ hm, r⟩
theorem off3_app {I C D : Addr} {l r : List (Addr × Obj)} (h : Off3 I C D l) (h' : Off3 I C D r) : Off3 I C D (l ++ r) := Off3.of fun p hp => by
  rcases List.mem_append.mp hp with hp | hp
  · exact h.mem p hp
  · exact h'.mem p hp
noncomputable def TurnO (h₀ : Heap) (L : Addr) (m : Str → Option Value) (led : List (Addr × Obj)) (os : OsState) (R : Value → Prop) (y : Value) (s₂ : Shared) : Prop := R y ∧ Fr h₀ L s₂.heap m ∧ News h₀ L s₂.heap led ∧ AllBare s₂.gens ∧ s₂.os = os
noncomputable def TurnB {S : Type} (h₀ : Heap) (L : Addr) (m : Str → Option Value) (led : S → List (Addr × Obj)) (os : OsState) (K : S → Prop) (R : Obj → Prop) (h : Heap) (y : Value) (s₂ : Shared) : Prop :=
  ∃ b o σ', y = .ref b ∧ h.get? b = none ∧ s₂.heap.get? b = some o ∧ R o ∧ K σ' ∧ Fr h₀ L s₂.heap m ∧ News h₀ L s₂.heap (led σ') ∧ AllBare s₂.gens ∧ s₂.os = os
section
variable {prog : Program} {w : World} {A : Around} {h₀ : Heap} {L : Addr} {m : Str → Option Value} {env : Env} {elt : PySem.Expr} {x : Str} {scope : Scope} {cl : List (Str × Addr)} {Q : Value → Shared → Prop} {s₁ : Shared} {ax : Addr} {its : Array Value} {os : OsState} {T0 : Nat}
theorem srcS_str {α : Type} {news : List (Addr × Obj)} (as : List α) (f : α → Str) {Ri : Value → α → Prop} (hh : A.handled = none) (F : Fr h₀ L s₁.heap m) (N : News h₀ L s₁.heap news) (hS : SrcAt h₀ ax its news) (hsz : its.size ≤ sizeLine) (hG : AllBare s₁.gens) (hos : s₁.os = os)
    (hn : as.length = its.size) (hP : ∀ (i : Nat) (v : Value), its[i]? = some v → ∃ a, as[i]? = some a ∧ Ri v a)
    (turn : ∀ a v ys I oI C oC D m₂ (s : Shared) (E' : Value → Shared → Prop), a ∈ as → Ri v a → NsObj oC m₂ → m₂ x = some v → Fr h₀ L s.heap m → News h₀ L s.heap ((I, oI) :: (C, oC) :: (D, lst ys) :: news) → AllBare s.gens → s.os = os →
      wpAny (model prog w) A (eval elt (compEnvC scope cl C env)) (TurnO h₀ L m ((I, oI) :: (C, oC) :: (D, lst ys) :: news) os (fun y => ∃ t, y = .str (f a) t)) E' s)
    (fin : ∀ ys D (s' : Shared), Are IsStr ys (as.map f) → Fr h₀ L s'.heap m → News h₀ L s'.heap ((D, lst ys) :: news) → Off1 D news → AllBare s'.gens → s'.os = os → @LE.le Nat _ as.length s'.toks → Q (.ref D) s') :
    SrcS prog w A h₀ L m env elt x scope cl Q (.ref ax) s₁ := by
  refine ⟨ax, its, news, os, 0, fun i ys nw => nw = news ∧ Are IsStr ys ((as.take i).map f), rfl, hh, F, N, hS, hsz, hG, hos, Nat.zero_le _, ⟨rfl, .nil⟩, ?_, ?_⟩
  · rintro i v ys nw I oI C oC D m₂ s E' hv ⟨rfl, hy⟩ hC hx F' N' off ne hS' hG' hos' _
    obtain ⟨a, ha, hr⟩ := hP i v hv
    refine wpAny_mono (turn a v ys I oI C oC D m₂ s E' (List.mem_of_getElem? ha) hr hC hx F' N' hG' hos') (fun y s₂ h₂ => ?_) fun _ _ e => e
    obtain ⟨ht, F₂, N₂, hG₂, hos₂⟩ := h₂
    refine ⟨_, F₂, N₂, off, hS', hG₂, hos₂, rfl, ?_⟩
    rw [List.take_add_one, ha]
    simpa using hy.append (.cons ht .nil)
  · rintro ys nw D s' ⟨rfl, hy⟩ F' N' o1 hG' hos' hzt _
    rw [← hn, List.take_length] at hy
    exact fin ys D s' hy F' N' o1 hG' hos' (by rw [hn]; exact hzt)
theorem srcS_obj {α S : Type} (nw : S → List (Addr × Obj)) (K : Nat → S → Prop) (σ0 : S) (hK0 : K 0 σ0) (ad : List Addr) (had : ∀ σ, (nw σ).map (·.1) = ad) (as : List α) {Ri : Value → α → Prop} (Ro : Obj → α → Prop) (hh : A.handled = none) (F : Fr h₀ L s₁.heap m) (N : News h₀ L s₁.heap (nw σ0)) (hS : ∀ σ, SrcAt h₀ ax its (nw σ)) (hsz : its.size ≤ sizeLine) (hG : AllBare s₁.gens) (hos : s₁.os = os) (hT : T0 ≤ s₁.toks)
    (hn : as.length = its.size) (hP : ∀ (i : Nat) (v : Value), its[i]? = some v → ∃ a, as[i]? = some a ∧ Ri v a)
    (turn : ∀ (i : Nat) a v ys new σ I oI C oC D m₂ (s : Shared) (E' : Value → Shared → Prop), its[i]? = some v → as[i]? = some a → Ri v a → K i σ → NsObj oC m₂ → m₂ x = some v → Fr h₀ L s.heap m → News h₀ L s.heap ((I, oI) :: (C, oC) :: (D, lst ys) :: (nw σ ++ new)) → (∀ q ∈ ad, ∀ p ∈ new, p.1 ≠ q) → (∀ q ∈ ad, @Ne Nat q I ∧ @Ne Nat q C ∧ @Ne Nat q D) → AllBare s.gens → s.os = os → T0 ≤ s.toks →
      wpAny (model prog w) A (eval elt (compEnvC scope cl C env)) (TurnB h₀ L m (fun σ' => (I, oI) :: (C, oC) :: (D, lst ys) :: (nw σ' ++ new)) os (K (i + 1)) (fun o => Ro o a) s.heap) E' s)
    (fin : ∀ ys new σ D (s' : Shared), K its.size σ → Are (ObjIn Ro new) ys as → Fr h₀ L s'.heap m → News h₀ L s'.heap ((D, lst ys) :: (nw σ ++ new)) → Off1 D (nw σ ++ new) → (∀ q ∈ ad, ∀ p ∈ new, p.1 ≠ q) → AllBare s'.gens → s'.os = os → @LE.le Nat _ T0 s'.toks → Q (.ref D) s') :
    SrcS prog w A h₀ L m env elt x scope cl Q (.ref ax) s₁ := by
  refine ⟨ax, its, nw σ0, os, T0, fun i ys l => ∃ σ new, l = nw σ ++ new ∧ K i σ ∧ Are (ObjIn Ro new) ys (as.take i) ∧ (∀ q ∈ ad, ∀ p ∈ new, p.1 ≠ q), rfl, hh, F, N, hS σ0, hsz, hG, hos, hT, ⟨σ0, [], by simp, hK0, .nil, fun _ _ p hp => nomatch hp⟩, ?_, ?_⟩
  · intro i v ys l I oI C oC D m₂ s E' hv hq9 hC hx F' N' off ne hS' hG' hos' hT'
    refine hideG ?_
    intro q9
    obtain ⟨σ, new, rfl, hK, hy, hnq⟩ := hq9
    (try k_unmd)
    k_unfold
    obtain ⟨a, ha, hr⟩ := hP i v hv
    have off3 := off.mem
    have adq : ∀ σ, ∀ q ∈ ad, ∃ p ∈ nw σ, p.1 = q := fun σ q hq => by rw [← had σ] at hq; exact List.mem_map.mp hq
    have hadI : ∀ q ∈ ad, @Ne Nat q I ∧ @Ne Nat q C ∧ @Ne Nat q D := fun q hq => by
      obtain ⟨p, hp, rfl⟩ := adq σ q hq
      exact off3 p (List.mem_append_left _ hp)
    refine wpAny_mono (turn i a v ys new σ I oI C oC D m₂ s E' hv ha hr hK hC hx F' N' hnq hadI hG' hos' hT') (fun y s₂ h₂ => ?_) fun _ _ e => e
    refine hideG ?_
    intro q9
    obtain ⟨b, o, σ', rfl, hb, ho, hRo, hK', F₂, N₂, hG₂, hos₂⟩ := h₂
    (try k_unmd)
    k_unfold
    have nb : ∀ p ∈ ((I, oI) :: (C, oC) :: (D, lst ys) :: (nw σ ++ new)), p.1 ≠ b := fun p hp e => by
      have z := (N' p hp).1
      rw [e, hb] at z; cases z
    have hbL : b ≠ L := fun e => by
      obtain ⟨oL, _, _, hL, _⟩ := F'.ns
      rw [← e, hb] at hL; cases hL
    have hb0 : h₀.get? b = none := by
      cases q : h₀.get? b with
      | none => rfl
      | some o' => have := F'.keep _ _ q; rw [hb] at this; cases this
    have hnq' : ∀ q ∈ ad, ∀ p ∈ (b, o) :: new, p.1 ≠ q := fun q hq p hp => by
      rcases List.mem_cons.mp hp with rfl | hp
      · obtain ⟨p', hp', rfl⟩ := adq σ q hq
        exact Ne.symm (nb p' (List.mem_cons_of_mem _ (List.mem_cons_of_mem _ (List.mem_cons_of_mem _ (List.mem_append_left _ hp')))))
      · exact hnq q hq p hp
    refine ⟨nw σ' ++ ((b, o) :: new), F₂, fun p hp => ?_, ?_, srcAt_mono (hS σ') fun p hp => List.mem_append_left _ hp, hG₂, hos₂, ⟨σ', (b, o) :: new, rfl, hK', ?_, hnq'⟩⟩
    · rcases List.mem_cons.mp hp with rfl | hp
      · exact N₂ _ (.head _)
      rcases List.mem_cons.mp hp with rfl | hp
      · exact N₂ _ (.tail _ (.head _))
      rcases List.mem_cons.mp hp with rfl | hp
      · exact N₂ _ (.tail _ (.tail _ (.head _)))
      rcases List.mem_append.mp hp with hp | hp
      · exact N₂ _ (.tail _ (.tail _ (.tail _ (List.mem_append_left _ hp))))
      rcases List.mem_cons.mp hp with rfl | hp
      · exact ⟨ho, hbL, hb0⟩
      · exact N₂ _ (.tail _ (.tail _ (.tail _ (List.mem_append_right _ hp))))
    · refine off3_app (Off3.of fun p hp => ?_) ?_
      · have hq : p.1 ∈ ad := by rw [← had σ']; exact List.mem_map_of_mem hp
        obtain ⟨p', hp', e⟩ := adq σ _ hq
        rw [← e]
        exact off3 p' (List.mem_append_left _ hp')
      · refine Off3.of fun p hp => ?_
        rcases List.mem_cons.mp hp with rfl | hp
        · exact ⟨Ne.symm (nb (I, oI) (.head _)), Ne.symm (nb (C, oC) (.tail _ (.head _))), Ne.symm (nb (D, lst ys) (.tail _ (.tail _ (.head _))))⟩
        · exact off3 p (List.mem_append_right _ hp)
    · rw [List.take_add_one, ha]
      simpa using (objin_mono hy fun p hp => List.mem_cons_of_mem _ hp).append (.cons ⟨b, o, rfl, List.mem_cons_self, hRo⟩ .nil)
  · rintro ys l D s' ⟨σ, new, rfl, hK, hy, hnq⟩ F' N' o1 hG' hos' _ hzT
    rw [← hn, List.take_length] at hy
    exact fin ys new σ D s' hK hy F' N' o1 hnq hG' hos' hzT
end
end Mine
end
section -- LWh
namespace Mine
open LCg
theorem fr_hide {h₀ h : Heap} {L : Addr} {m : Str → Option Value} (F : Fr h₀ L h m) (as : List Addr) : Fr (hideAll h₀ as) L h m := ⟨F.ns, fun b o e => F.keep b o (of_hideAll _ e), Nat.le_trans (Nat.le_of_eq (hideAll_size _ _)) F.above⟩
theorem news_hide {h₀ h : Heap} {L P : Addr} {o : Obj} {m : Str → Option Value} {news : List (Addr × Obj)} (F : Fr h₀ L h m) (N : News h₀ L h news) (hP : h₀.get? P = some o) : News (hideAll h₀ [P]) L h ((P, o) :: news) := fun p hp => by
  rcases List.mem_cons.mp hp with rfl | hp
  · exact ⟨F.keep _ _ hP, Nat.ne_of_lt (Nat.lt_of_lt_of_le (Heap.lt_size hP) F.above), hideAll_none _ (by simp)⟩
  · refine ⟨(N p hp).1, (N p hp).2.1, ?_⟩
    cases q : (hideAll h₀ [P]).get? p.1 with
    | none => rfl
    | some o' => have := of_hideAll _ q; rw [(N p hp).2.2] at this; cases this
theorem news_made {base h h' : Heap} {L a : Addr} {o : Obj} {m : Str → Option Value} {news new : List (Addr × Obj)} (F : Fr base L h m) (N : News base L h news) (hx : Ext h h') (hM : Made h h' ((a, o) :: new)) :
    News base L h' ((a, o) :: (news ++ new)) ∧ (∀ p ∈ new, ∀ q ∈ news, p.1 ≠ q.1) ∧ (∀ q ∈ news, (@Ne Nat q.1 a)) := by
  have key : ∀ p : Addr × Obj, h.get? p.1 = none → h'.get? p.1 = some p.2 → h'.get? p.1 = some p.2 ∧ p.1 ≠ L ∧ base.get? p.1 = none := fun p h1 h2 => by
    refine ⟨h2, ?_, ?_⟩
    · intro e
      obtain ⟨oL, _, _, hL, _⟩ := F.ns
      rw [← e, h1] at hL; cases hL
    · cases q : base.get? p.1 with
      | none => rfl
      | some o' => have := F.keep _ o' q; rw [h1] at this; cases this
  refine ⟨fun p hp => ?_, fun p hp q hq e => ?_, fun q hq e => ?_⟩
  · rcases List.mem_cons.mp hp with rfl | hp
    · exact key _ (hM _ (.head _)).1 (hM _ (.head _)).2
    rcases List.mem_append.mp hp with hp | hp
    · exact news_ext N hx p hp
    · exact key _ (hM _ (.tail _ hp)).1 (hM _ (.tail _ hp)).2
  · have h1 := (hM _ (.tail _ hp)).1
    rw [e, (N q hq).1] at h1; cases h1
  · have h1 := (hM _ (.head _)).1
    have e' : q.1 = a := e
    dsimp only at h1
    rw [← e', (N q hq).1] at h1; cases h1
theorem oct_ok (k : Nat) : 0 ≤ ([0, 3, 97, 104, 251, 255] : List Int).getD k 0 ∧ ([0, 3, 97, 104, 251, 255] : List Int).getD k 0 < 256 := by
  rcases k with _ | _ | _ | _ | _ | _ | k <;> simp
theorem row_ok (x : Int) : (∀ o ∈ rowF x, 0 ≤ o ∧ o < 256) ∧ (rowF x).length ≤ 5 := by
  refine ⟨fun o ho => ?_, ?_⟩
  · obtain ⟨k, _, rfl⟩ := List.mem_map.mp ho
    exact oct_ok _
  · unfold rowF
    rw [List.length_map, rangeKs_length]
    omega
theorem rows_ok {ns : List Int} {a : List Int} (h : a ∈ rowsF ns) : (∀ o ∈ a, 0 ≤ o ∧ o < 256) ∧ a.length ≤ 5 := by
  obtain ⟨x, _, rfl⟩ := List.mem_map.mp h
  exact row_ok x
theorem rows_len (ns : List Int) : (rowsF ns).length ≤ 15 ∧ 7 ≤ (rowsF ns).length := by
  unfold rowsF
  simp only [List.length_map, List.length_append, List.length_take, List.length_cons, List.length_nil]
  omega
theorem of6 {new : List (Addr × Obj)} {a b c d e f : Addr × Obj} (h : ∀ p ∈ new, ∀ q ∈ [a, b, c, d, e, f], p.1 ≠ q.1) : (∀ p ∈ new, p.1 ≠ a.1) ∧ (∀ p ∈ new, p.1 ≠ b.1) ∧ (∀ p ∈ new, p.1 ≠ c.1) ∧ (∀ p ∈ new, p.1 ≠ d.1) ∧ (∀ p ∈ new, p.1 ≠ e.1) ∧ (∀ p ∈ new, p.1 ≠ f.1) :=
  ⟨fun p hp => h p hp _ (by simp), fun p hp => h p hp _ (by simp), fun p hp => h p hp _ (by simp), fun p hp => h p hp _ (by simp), fun p hp => h p hp _ (by simp), fun p hp => h p hp _ (by simp)⟩
theorem on6 {x : Addr} {a b c d e f : Addr × Obj} (h : ∀ q ∈ [a, b, c, d, e, f], @Ne Nat q.1 x) : @Ne Nat a.1 x ∧ @Ne Nat b.1 x ∧ @Ne Nat c.1 x ∧ @Ne Nat d.1 x ∧ @Ne Nat e.1 x ∧ @Ne Nat f.1 x :=
  ⟨h _ (by simp), h _ (by simp), h _ (by simp), h _ (by simp), h _ (by simp), h _ (by simp)⟩
end Mine
end
section -- LWi
namespace Mine
open LCg
theorem ne_same {prog : Program} {w : World} {A : Around} {E : Value → Shared → Prop} {s : Shared} {a b : Addr} {vs us : List Value} {ss : List Str} {Q : Value → Shared → Prop} (hl : s.heap.IsList a (List.toArray vs)) (hi : StrsAre vs ss) (hl' : s.heap.IsList b (List.toArray us)) (hi' : StrsAre us ss) (h1 : AllOk ss) (hu : A.units + 64 < cLine)
    (h : Q (.bool false) s) : wpAny (model prog w) A (compareOp .NotEq (.ref a) (.ref b)) Q E s :=
  ne_strsK hl hi hl' hi' h1 h1 hu (by rw [decide_eq_true rfl]; exact h)
theorem name_ok (os : List Int) : PyData.strOk (nameS os) = true := by
  unfold PyData.strOk nameS
  rw [Array.all_eq_true']
  intro c hc
  have hc : c ∈ codes os := by simpa using hc
  have := codes_in os c (List.mem_map_of_mem hc)
  simp only [decide_eq_true_eq]
  have h2 : (c : Int) < 256 := this.2
  omega
theorem names_ok (rs : List (List Int)) : AllOk (rs.map nameS) := fun x hx => by
  obtain ⟨os, _, rfl⟩ := List.mem_map.mp hx
  exact name_ok os
noncomputable def sievesL : List (List Str) := [[Str.ofString "[A-Z]", many], [Str.ofString "[a-z]", many], [Str.ofString "[0-9]", many], [many, Str.ofString "[+/]", many], [many, ⟨#[65]⟩, many], [many, ⟨#[61]⟩], [many, Str.ofString "[^=]"], [many, ⟨#[61]⟩, ⟨#[61]⟩], [anyS, anyS, anyS, anyS]]
theorem pat_steps : ∀ i < 9, ∃ cs nT, pats.getD i Str.empty = ⟨List.toArray cs⟩ ∧ cs.length ≤ 6 ∧ Steps cs nT 0 (decide (0 < i)) [] true (sievesL.getD i []) := by
  intro i hi
  rcases i with _ | _ | _ | _ | _ | _ | _ | _ | _ | i
  · exact ⟨[91, 65, 45, 90, 93, 42], 2, by decide +kernel, by decide, .cons (.rg 65 90 _ (.inl ⟨rfl, rfl, rfl⟩) rfl) (.cons (.star1 _ (by decide) (by decide) (by decide +kernel)) .nil)⟩
  · exact ⟨[91, 97, 45, 122, 93, 42], 2, by decide +kernel, by decide, .cons (.rg 97 122 _ (.inr (.inl ⟨rfl, rfl, rfl⟩)) rfl) (.cons (.star1 _ (by decide) (by decide) (by decide +kernel)) .nil)⟩
  · exact ⟨[91, 48, 45, 57, 93, 42], 2, by decide +kernel, by decide, .cons (.rg 48 57 _ (.inr (.inr ⟨rfl, rfl, rfl⟩)) rfl) (.cons (.star1 _ (by decide) (by decide) (by decide +kernel)) .nil)⟩
  · exact ⟨[42, 91, 43, 47, 93, 42], 3, by decide +kernel, by decide, .cons (.star0 (by decide) (by decide)) (.cons (.ps rfl) (.cons (.star2 _ _ (by decide) (by decide) (by decide +kernel)) .nil))⟩
  · exact ⟨[42, 65, 42], 3, by decide +kernel, by decide, .cons (.star0 (by decide) (by decide)) (.cons (.esc (by decide) (by decide) (.inl rfl)) (.cons (.star2 _ _ (by decide) (by decide) (by decide +kernel)) .nil))⟩
  · exact ⟨[42, 61], 2, by decide +kernel, by decide, .cons (.star0 (by decide) (by decide)) (.cons (.esc (by decide) (by decide) (.inr rfl)) .nil)⟩
  · exact ⟨[42, 91, 33, 61, 93], 2, by decide +kernel, by decide, .cons (.star0 (by decide) (by decide)) (.cons (.ne rfl) .nil)⟩
  · exact ⟨[42, 61, 61], 3, by decide +kernel, by decide, .cons (.star0 (by decide) (by decide)) (.cons (.esc (by decide) (by decide) (.inr rfl)) (.cons (.esc (by decide) (by decide) (.inr rfl)) .nil))⟩
  · exact ⟨[63, 63, 63, 63], 4, by decide +kernel, by decide, .cons (.qm (by decide) (by decide)) (.cons (.qm (by decide) (by decide)) (.cons (.qm (by decide) (by decide)) (.cons (.qm (by decide) (by decide)) .nil)))⟩
  · omega
theorem hide_stays {h0 h : Heap} {L : Addr} {m : Str → Option Value} (F : Fr (hideAll h0 [114]) L h m) : ∀ b o, (hideAll h0 [114]).get? b = some o → (hideAll h [114]).get? b = some o := fun b o e =>
  hideAll_get [114] (F.keep b o e) fun hm => by
    rw [List.mem_singleton.mp hm, hideAll_none [114] (List.mem_singleton.mpr rfl)] at e; cases e
noncomputable def TrCall (w : World) (A : Around) (vs : List Value) (Q E : Value → Shared → Prop) (s : Shared) : Prop := wpAny (model prg w) A (call (.ref 119) vs []) Q E s
theorem trcall_leaf {w : World} {A : Around} {vs : List Value} {Q E : Value → Shared → Prop} {s : Shared} (h : TrCall w A vs Q E s) : wpAny (model prg w) A (call (.ref 119) vs []) Q E s := h
noncomputable def TurnT (os : OsState) (a : List Str) (h : Heap) (y : Value) (s₂ : Shared) : Prop :=
  ∃ b vs n ps', y = .ref b ∧ (∀ c o, c ≠ 114 → h.get? c = some o → s₂.heap.get? c = some o) ∧ s₂.heap.get? 114 = some (tabObj ps') ∧ Tab true ps' ∧ h.get? b = none ∧ s₂.heap.get? b = some (listOf (List.toArray vs) n) ∧ StrsAre vs a ∧ AllBare s₂.gens ∧ s₂.os = os
noncomputable def SieveOf (o : Obj) (a : List Str) : Prop := ∃ vs n, o = listOf (List.toArray vs) n ∧ StrsAre vs a
theorem use_translate {w : World} {dp un : Nat} {fr : Option (List Env)} {gd : Option (List Code)} {s : Shared} {E : Value → Shared → Prop} {loose : List Str} {mean : ExcName → Option Value} {mg mb : Str → Option Value} {h0 : Heap} {L : Addr} {m : Str → Option Value} {os : OsState}
    (X : (hd.heap_1 w.params).In (hideAll h0 [114])) (T : Top topProg loose mean mg mb (hideAll h0 [114])) (C : CodeHd (hideAll h0 [114]) 118 114) (F : Fr (hideAll h0 [114]) L s.heap m) (hr : dp + 8 < recursionLimit) (hu : un + 60 < cLine) (ts ta tp : Tok) (hts : @LT.lt Nat _ 0 ts) (hts' : @LT.lt Nat _ ts s.toks) (hta : @LT.lt Nat _ ts ta) (ps : Array Value)
    (hP : s.heap.get? 114 = some (tabObj ps)) (hG : AllBare s.gens) (hos : s.os = os) (i : Nat) (hi : i < 9) (a : List Str) (ha : sievesL[i]? = some a) (p : Str) (hp : pats[i]? = some p) (hT : Tab (decide (0 < i)) ps) :
    TrCall w ⟨none, dp, fr, gd, un⟩ [.str p tp, .str (Str.ofString "many") ts, .str (Str.ofString "any") ta] (TurnT os a s.heap) E s := by
  obtain ⟨cs, nT, e, hcl, hS⟩ := pat_steps i hi
  rw [List.getD_eq_getElem?_getD, hp] at e
  have e : p = ⟨List.toArray cs⟩ := e
  subst e
  rw [List.getD_eq_getElem?_getD, ha] at hS
  have st := hide_stays F
  refine c_translate (X.keeps F.keep) (T.keeps F.keep) hr hu ts ta tp hts hts' ⟨hts, hta⟩ ps (X.keeps st) (T.keeps st) hP (C.keeps st) hG cs hcl _ _ _ nT hS hT ?_
  intro D vs n ps' s' hk h114 hT' hD hD' hS' hG' hos'
  exact ⟨D, vs, n, ps', rfl, hk, h114, hT', hD, hD', hS', hG', hos'.trans hos⟩
section
variable {prog : Program} {w : World} {A : Around} {h0 : Heap} {L : Addr} {m : Str → Option Value} {env : Env} {elt : PySem.Expr} {x : Str} {scope : Scope} {cl : List (Str × Addr)} {Q : Value → Shared → Prop} {s₁ : Shared} {ax : Addr} {its : Array Value} {os : OsState} {T0 : Nat}
theorem srcS_tab {news : List (Addr × Obj)} {g : Obj → List (Addr × Obj)} {oS : Obj} {nS : Nat} (hh : A.handled = none) (F : Fr (hideAll h0 [114]) L s₁.heap m) (N : News (hideAll h0 [114]) L s₁.heap news) (U : UpdF 114 (tabObj #[]) news g) (hmS : (ax, oS) ∈ news) (hcS : oS.cls = .type "list") (hdS : oS.data = .seq its nS)
    (hsz : its.size ≤ sizeLine) (hG : AllBare s₁.gens) (hos : s₁.os = os) (hT : T0 ≤ s₁.toks) (hn : its.size = 9) {wsP : List Value} (hits : its = List.toArray wsP) (hW : StrsAre wsP pats)
    (turn : ∀ (i : Nat) a p tp ys new ps I oI C oC D m₂ (s : Shared) (E' : Value → Shared → Prop), i < 9 → sievesL[i]? = some a → pats[i]? = some p → Tab (decide (0 < i)) ps → NsObj oC m₂ → m₂ x = some (.str p tp) → Fr (hideAll h0 [114]) L s.heap m → News (hideAll h0 [114]) L s.heap ((I, oI) :: (C, oC) :: (D, lst ys) :: (g (tabObj ps) ++ new)) → s.heap.get? 114 = some (tabObj ps) → AllBare s.gens → s.os = os → T0 ≤ s.toks →
      wpAny (model prog w) A (eval elt (compEnvC scope cl C env)) (TurnT os a s.heap) E' s)
    (fin : ∀ ys new ps D (s' : Shared), Tab true ps → Are (ObjIn SieveOf new) ys sievesL → Fr (hideAll h0 [114]) L s'.heap m → News (hideAll h0 [114]) L s'.heap ((D, lst ys) :: (g (tabObj ps) ++ new)) → Off1 D (g (tabObj ps) ++ new) → (∀ q ∈ (g (tabObj #[])).map (·.1), ∀ p ∈ new, p.1 ≠ q) → AllBare s'.gens → s'.os = os → T0 ≤ s'.toks → Q (.ref D) s') :
    SrcS prog w A (hideAll h0 [114]) L m env elt x scope cl Q (.ref ax) s₁ := by
  obtain ⟨own, rest, rfl, hgr, h1, h2⟩ := U.split
  have h0n : (hideAll h0 [114]).get? 114 = none := hideAll_none [114] (List.mem_singleton.mpr rfl)
  have hL114 : L ≠ 114 := Ne.symm (N (114, tabObj #[]) (List.mem_append_right _ (.head _))).2.1
  have hmS' : ∀ o', (ax, oS) ∈ g o' := fun o' => by
    rw [hgr]
    rcases List.mem_append.mp hmS with h | h
    · exact List.mem_append_left _ h
    · rcases List.mem_cons.mp h with h | h
      · injection h with _ h; rw [h] at hcS; exact absurd hcS (by show ¬ (Value.none = Value.type "list"); decide)
      · exact List.mem_append_right _ (.tail _ h)
  refine srcS_obj (S := Array Value) (fun ps => g (tabObj ps)) (fun i ps => Tab (decide (0 < i)) ps) #[] rfl ((g (tabObj #[])).map (·.1)) (fun ps => by rw [hgr, hgr]; simp) sievesL (Ri := fun _ _ => True) SieveOf hh F (by rw [hgr]; exact N) (fun ps => .inr ⟨oS, hmS' _, hcS, nS, hdS⟩) hsz hG hos hT (by rw [hn]; rfl) (fun i v hv => ?_) ?_ ?_
  · have hi : i < its.size := (Array.getElem?_eq_some_iff.mp hv).1
    rw [hn] at hi
    have : i < sievesL.length := hi
    exact ⟨sievesL[i], by simp [this], trivial⟩
  · intro i a v ys new ps I oI C oC D m₂ s E' hv ha _ hK hC hx F' N' hnq hne hG' hos' hT'
    have hi : i < 9 := by rw [← hn]; exact (Array.getElem?_eq_some_iff.mp hv).1
    obtain ⟨p, hp, tp, rfl⟩ := (are_strs hW).at i v (by rw [hits] at hv; simpa using hv)
    have hg : (114, tabObj ps) ∈ g (tabObj ps) := by rw [hgr]; exact List.mem_append_right _ (.head _)
    have h114 := (N' (114, tabObj ps) (.tail _ (.tail _ (.tail _ (List.mem_append_left _ hg))))).1
    refine wpAny_mono (turn i a p tp ys new ps I oI C oC D m₂ s E' hi ha hp hK hC hx F' N' h114 hG' hos' hT') (fun y s₂ h₂ => ?_) fun _ _ e => e
    refine hideG ?_
    intro q9
    obtain ⟨b, vs, n, ps', rfl, hk, h114', hT2, hb, hb', hS2, hG2, hos2⟩ := h₂
    (try k_unmd)
    k_unfold
    have q114 : (114 : Addr) ∈ (g (tabObj #[])).map (·.1) := by rw [hgr]; simp
    refine ⟨b, listOf (List.toArray vs) n, ps', rfl, hb, hb', ⟨vs, n, rfl, hS2⟩, by rw [decide_eq_true (Nat.succ_pos i)]; exact hT2, ⟨?_, fun c o e => ?_, F'.above⟩, fun q hq => ?_, hG2, hos2⟩
    · obtain ⟨oL, es, ep, hL, r⟩ := F'.ns
      exact ⟨oL, es, ep, hk L oL hL114 hL, r⟩
    · refine hk c o (fun e2 => ?_) (F'.keep c o e)
      rw [e2, h0n] at e; cases e
    · have key : ∀ q, q ∈ ((I, oI) :: (C, oC) :: (D, lst ys) :: (g (tabObj ps) ++ new)) → q.1 ≠ 114 → s₂.heap.get? q.1 = some q.2 ∧ q.1 ≠ L ∧ (hideAll h0 [114]).get? q.1 = none := fun q hq hne' => ⟨hk _ _ hne' (N' q hq).1, (N' q hq).2⟩
      rcases List.mem_cons.mp hq with rfl | hq
      · exact key _ (.head _) (Ne.symm (hne 114 q114).1)
      rcases List.mem_cons.mp hq with rfl | hq
      · exact key _ (.tail _ (.head _)) (Ne.symm (hne 114 q114).2.1)
      rcases List.mem_cons.mp hq with rfl | hq
      · exact key _ (.tail _ (.tail _ (.head _))) (Ne.symm (hne 114 q114).2.2)
      rcases List.mem_append.mp hq with hq | hq
      · rw [hgr] at hq
        rcases List.mem_append.mp hq with hq | hq
        · exact key _ (.tail _ (.tail _ (.tail _ (List.mem_append_left _ (by rw [hgr]; exact List.mem_append_left _ hq))))) (h1 q hq)
        · rcases List.mem_cons.mp hq with rfl | hq
          · exact ⟨h114', Ne.symm hL114, h0n⟩
          · exact key _ (.tail _ (.tail _ (.tail _ (List.mem_append_left _ (by rw [hgr]; exact List.mem_append_right _ (.tail _ hq)))))) (h2 q hq)
      · exact key _ (.tail _ (.tail _ (.tail _ (List.mem_append_right _ hq)))) (hnq 114 q114 q hq)
  · intro ys new ps D s' hK hy F' N' o1 hnq hG' hos' hzT
    have hK : Tab true ps := by rw [hn] at hK; exact hK
    exact fin ys new ps D s' hK hy F' N' o1 hnq hG' hos' hzT
end
theorem app_ne {a b : List (Addr × Obj)} {d : Addr} (h1 : ∀ p ∈ a, p.1 ≠ d) (h2 : ∀ p ∈ b, p.1 ≠ d) : ∀ p ∈ a ++ b, p.1 ≠ d := fun p hp => by
  rcases List.mem_append.mp hp with hp | hp
  · exact h1 p hp
  · exact h2 p hp
section
variable {prog : Program} {w : World} {A : Around} {h₀ : Heap} {L : Addr} {m : Str → Option Value} {env : Env} {elt : PySem.Expr} {x : Str} {scope : Scope} {cl : List (Str × Addr)} {Q : Value → Shared → Prop} {s₁ : Shared} {ax : Addr} {its : Array Value} {os : OsState}
noncomputable def TurnN (os : OsState) (R : Obj → Prop) (h : Heap) (y : Value) (s₂ : Shared) : Prop :=
  ∃ b o, y = .ref b ∧ Ext h s₂.heap ∧ h.get? b = none ∧ s₂.heap.get? b = some o ∧ R o ∧ AllBare s₂.gens ∧ s₂.os = os
theorem srcS_objs {α : Type} {news : List (Addr × Obj)} (as : List α) {Ri : Value → α → Prop} (Ro : Obj → α → Prop) (hh : A.handled = none) (F : Fr h₀ L s₁.heap m) (N : News h₀ L s₁.heap news) (hS : SrcAt h₀ ax its news) (hsz : its.size ≤ sizeLine) (hG : AllBare s₁.gens) (hos : s₁.os = os)
    (hn : as.length = its.size) (hP : ∀ (i : Nat) (v : Value), its[i]? = some v → ∃ a, as[i]? = some a ∧ Ri v a)
    (turn : ∀ a v ys new I oI C oC D m₂ (s : Shared) (E' : Value → Shared → Prop), a ∈ as → Ri v a → NsObj oC m₂ → m₂ x = some v → Fr h₀ L s.heap m → News h₀ L s.heap ((I, oI) :: (C, oC) :: (D, lst ys) :: (news ++ new)) → AllBare s.gens → s.os = os →
      wpAny (model prog w) A (eval elt (compEnvC scope cl C env)) (TurnN os (fun o => Ro o a) s.heap) E' s)
    (fin : ∀ ys new D (s' : Shared), Are (ObjIn Ro new) ys as → Fr h₀ L s'.heap m → News h₀ L s'.heap ((D, lst ys) :: (news ++ new)) → Off1 D (news ++ new) → (∀ q ∈ news.map (·.1), ∀ p ∈ new, p.1 ≠ q) → AllBare s'.gens → s'.os = os → Q (.ref D) s') :
    SrcS prog w A h₀ L m env elt x scope cl Q (.ref ax) s₁ := by
  refine srcS_obj (S := Unit) (T0 := 0) (fun _ => news) (fun _ _ => True) () trivial (news.map (·.1)) (fun _ => rfl) as (Ri := Ri) Ro hh F N (fun _ => hS) hsz hG hos (Nat.zero_le _) hn hP ?_ ?_
  · intro i a v ys new _ I oI C oC D m₂ s E' hv ha hr _ hC hx F' N' _ _ hG' hos' _
    refine wpAny_mono (turn a v ys new I oI C oC D m₂ s E' (List.mem_of_getElem? ha) hr hC hx F' N' hG' hos') (fun y s₂ h₂ => ?_) fun _ _ e => e
    refine hideG ?_
    intro q9
    obtain ⟨b, o, rfl, hk, hb, hb', hR, hG2, hos2⟩ := h₂
    (try k_unmd)
    k_unfold
    exact ⟨b, o, (), rfl, hb, hb', hR, trivial, F'.keeps hk, N'.grown hk, hG2, hos2⟩
  · intro ys new _ D s' _ hy F' N' o1 hnq hG' hos' _
    exact fin ys new D s' hy F' N' o1 hnq hG' hos'
end
theorem off1_fresh {h₀ h : Heap} {L a : Addr} : ∀ {news : List (Addr × Obj)}, News h₀ L h news → h.get? a = none → Off1 a news
  | [], _, _ => trivial
  | p :: r, N, hf => ⟨fun e => by
      have z := (N p (.head _)).1
      have e' : p.1 = a := e
      rw [e', hf] at z
      exact absurd z (by simp), off1_fresh (fun q hq => N q (.tail _ hq)) hf⟩
noncomputable def MnCall (w : World) (A : Around) (vs : List Value) (Q E : Value → Shared → Prop) (s : Shared) : Prop := wpAny (model prg w) A (call (.ref 153) vs []) Q E s
theorem mncall_leaf {w : World} {A : Around} {vs : List Value} {Q E : Value → Shared → Prop} {s : Shared} (h : MnCall w A vs Q E s) : wpAny (model prg w) A (call (.ref 153) vs []) Q E s := h
noncomputable def MeanOf (o : Obj) (a : List Int) : Prop := ∃ n, o = { cls := .type "list", data := .seq ((meansF a).map Value.bool).toArray n }
theorem use_means {w : World} {A : Around} {s : Shared} {E : Value → Shared → Prop} {loose : List Str} {mean : ExcName → Option Value} {mg mb : Str → Option Value} {h0 : Heap} {L : Addr} {m : Str → Option Value} {os : OsState}
    (X : (hd.heap_1 w.params).In h0) (T : Top topProg loose mean mg mb h0) (F : Fr h0 L s.heap m) (hh : A.handled = none) (hr : A.depth + 9 < recursionLimit) (hu : A.units + 70 < cLine) (l : Addr) (vs : List Value) (a : List Int)
    (hb : ∀ o ∈ a, 0 ≤ o ∧ o < 256) (hn : a.length ≤ 5) (hl : s.heap.IsList l vs.toArray) (hI : IntsAre vs a) (hG : AllBare s.gens) (hos : s.os = os) :
    MnCall w A [.ref l] (TurnN os (fun o => MeanOf o a) s.heap) E s := by
  refine c_means (X.keeps F.keep) (T.keeps F.keep) hh hr hu l vs a hb hn hl hI ?_
  intro b n h' tk' hx hf he
  exact ⟨b, _, rfl, hx, hf, he, ⟨n, rfl⟩, hG, hos⟩
section
variable {prog : Program} {w : World} {A : Around} {s : Shared} {h₀ : Heap} {L : Addr} {env : Env} {target : PySem.Expr} {body : List Stmt} {R : Result → Shared → Prop}
noncomputable def LpGoal (prog : Program) (w : World) (A : Around) (target : PySem.Expr) (body : List Stmt) (env : Env) (R : Result → Shared → Prop) (it : Value) (s₂ : Shared) : Prop := codeAny (model prog w) A (.forLoop target it body [] env) R s₂
theorem for_stop {iter : PySem.Expr} {pos : Pos} {Q : Flow → Shared → Prop} {E : Value → Shared → Prop}
    (h : wpAny (model prog w) A (eval iter env) (fun x s₁ => wpAny (model prog w) A (pyIter x) (LpGoal prog w A target body env (fun r s' => match r with | .ok f => Q f s' | .error _ => False)) (fun _ _ => False) s₁) (fun _ _ => False) s)
    (hs : ∀ x, foldedSetIterable iter env x = pure x := by intro _; rfl) : wpAny (model prog w) A (exec (.For target iter body [] pos) env) Q E s := for_any h hs
noncomputable def ItGoal (prog : Program) (w : World) (A : Around) (target : PySem.Expr) (body : List Stmt) (env : Env) (R : Result → Shared → Prop) (v : Value) (s : Shared) : Prop := wpAny (model prog w) A (pyIter v) (LpGoal prog w A target body env R) (fun _ _ => False) s
theorem it_stop {v : Value} (h : ItGoal prog w A target body env R v s) : wpAny (model prog w) A (pyIter v) (LpGoal prog w A target body env R) (fun _ _ => False) s := h
noncomputable abbrev mpJ (m : Str → Option Value) (v1 v2 : Option Value) : Str → Option Value := fun y => if y = Str.ofString "taken" then v1 else if y = Str.ofString "told" then v2 else m y
theorem mpJ_self {m : Str → Option Value} : m = mpJ m (m (Str.ofString "taken")) (m (Str.ofString "told")) := by
  funext y
  simp only [mpJ]
  split
  · rename_i h; rw [h]
  split
  · rename_i h; rw [h]
  rfl
theorem iter_rangeJ {r cj : Addr} {a b : Int} {t u v : Tok} {n : Nat} {m : Str → Option Value} {news : List (Addr × Obj)} {oj0 : Obj} {v0 : Option Value} {g : Obj → List (Addr × Obj)} (hh : A.handled = none) (hr : IsRange s.heap r a b 1 t u v) (hsm : Builtin.Range.small a b 1 = true) (hn : Builtin.Range.rangeSize a b 1 = ((n : Nat) : Int))
    (F : Fr h₀ L s.heap m) (N : News h₀ L s.heap news) (U : UpdF cj oj0 news g) (hj0 : oj0.data = .cell v0)
    (turn : ∀ (i : Nat) t I it v1 v2 oj vj h tk, i < n → oj.data = .cell vj → Off1 I (g oj) → Fr h₀ L h (mpJ m v1 v2) → News h₀ L h ((I, it) :: g oj) →
      wpAny (model prog w) A (assign target env (.int (a + (i : Int)) t)) (fun _ s₂ => wpAny (model prog w) A (execs body env) (TurnP h₀ L I it (fun m' news' => ∃ v1 v2 oj vj, m' = mpJ m v1 v2 ∧ news' = g oj ∧ oj.data = .cell vj) { s with heap := h, toks := tk } R) (fun _ _ => False) s₂) (fun _ _ => False) { s with heap := h, toks := tk })
    (done : ∀ h tk v1 v2 oj, Fr h₀ L h (mpJ m v1 v2) → News h₀ L h (g oj) → R (.ok .next) { s with heap := h, toks := tk })
    (ht : ∀ I v, letOwnedTupleGo target (.ref I) v = pure () := by intro _ _; rfl) : ItGoal prog w A target body env R (.ref r) s := by
  obtain ⟨own, rest, rfl, hgr, h1, h2⟩ := U.split
  refine wpAny_pyIter_range hr hsm ?_
  have W := LCg.range_walks (prog := prog) (w := w) (A := A) (I := s.heap.objs.size) hh a n
  have N' : News h₀ L s.heap (g oj0) := by rw [hgr]; exact N
  refine loop_any W (fun b' hb => .inl (List.mem_singleton.mp hb)) (next_is_new F) (fun i h st => ⟨_, st⟩) (fun _ m' news' => ∃ v1 v2 oj vj, m' = mpJ m v1 v2 ∧ news' = g oj ∧ oj.data = .cell vj) (F.push _) (fun p hp => ⟨Heap.get?_push_of_some _ (N' p hp).1, (N' p hp).2⟩)
    (fun p hp => Nat.ne_of_lt (Heap.lt_size (N' p hp).1)) (Nat.ne_of_lt F.ns.lt) ⟨_, _, oj0, v0, mpJ_self, rfl, hj0⟩ (by show IsRangeIter _ _ _ _ _; rw [hn]; simpa using Heap.get?_push_size _ rfl) ?_ ?_ (ht _)
  · rintro i v m₁ news₁ it h tk hi ⟨t, rfl⟩ ⟨v1, v2, oj, vj, rfl, rfl, hoj⟩ off' F' N'
    have o1 : ∀ l : List (Addr × Obj), (∀ p ∈ l, p.1 ≠ s.heap.objs.size) → Off1 s.heap.objs.size l := by
      intro l
      induction l with
      | nil => intro _; trivial
      | cons p r ih => intro h; exact ⟨h p (.head _), ih fun q hq => h q (.tail _ hq)⟩
    exact turn i t _ it v1 v2 oj vj h tk hi hoj (o1 _ off') F' N'
  · rintro h tk m₁ news₁ ⟨v1, v2, oj, vj, rfl, rfl, hoj⟩ F' N'
    exact done h tk v1 v2 oj F' N'
end
theorem ne_c1 {a : Nat} : @Ne Nat (a + 1) a := by omega
theorem ne_d1 {a : Nat} : @Ne Nat a (a + 1) := by omega
theorem ne_c2 {a : Nat} : @Ne Nat (a + 1 + 1) a := by omega
theorem ne_d2 {a : Nat} : @Ne Nat a (a + 1 + 1) := by omega
theorem ne_c3 {a : Nat} : @Ne Nat (a + 1 + 1 + 1) a := by omega
theorem ne_d3 {a : Nat} : @Ne Nat a (a + 1 + 1 + 1) := by omega
theorem ne_c4 {a : Nat} : @Ne Nat (a + 1 + 1 + 1 + 1) a := by omega
theorem ne_d4 {a : Nat} : @Ne Nat a (a + 1 + 1 + 1 + 1) := by omega
end Mine
end
section -- LWj
namespace Mine
open LCg
noncomputable def sgfn (p : Str) : Nat → Bool :=
  if p = Str.ofString "[A-Z]" then (fun c => decide (65 ≤ c ∧ c ≤ 90)) else
  if p = Str.ofString "[a-z]" then (fun c => decide (97 ≤ c ∧ c ≤ 122)) else
  if p = Str.ofString "[0-9]" then (fun c => decide (48 ≤ c ∧ c ≤ 57)) else
  if p = Str.ofString "any" then (fun _ => true) else
  if p = Str.ofString "[+/]" then (fun c => c == 43 || c == 47) else
  if p = Str.ofString "A" then (fun c => c == 65) else
  if p = Str.ofString "=" then (fun c => c == 61) else (fun c => c != 61)
theorem sg_AZ : sgfn (Str.ofString "[A-Z]") = fun c => decide (65 ≤ c ∧ c ≤ 90) := by unfold sgfn; rw [if_pos rfl]
theorem sg_az : sgfn (Str.ofString "[a-z]") = fun c => decide (97 ≤ c ∧ c ≤ 122) := by unfold sgfn; rw [if_neg (by decide +kernel), if_pos rfl]
theorem sg_n9 : sgfn (Str.ofString "[0-9]") = fun c => decide (48 ≤ c ∧ c ≤ 57) := by unfold sgfn; rw [if_neg (by decide +kernel), if_neg (by decide +kernel), if_pos rfl]
theorem sg_any : sgfn anyS = fun _ => true := by unfold sgfn anyS; rw [if_neg (by decide +kernel), if_neg (by decide +kernel), if_neg (by decide +kernel), if_pos rfl]
theorem sg_pl : sgfn (Str.ofString "[+/]") = fun c => c == 43 || c == 47 := by unfold sgfn; rw [if_neg (by decide +kernel), if_neg (by decide +kernel), if_neg (by decide +kernel), if_neg (by decide +kernel), if_pos rfl]
theorem str_A : (⟨#[65]⟩ : Str) = Str.ofString "A" := by decide +kernel
theorem str_eq : (⟨#[61]⟩ : Str) = Str.ofString "=" := by decide +kernel
theorem sg_A : sgfn (Str.ofString "A") = fun c => c == 65 := by unfold sgfn; rw [if_neg (by decide +kernel), if_neg (by decide +kernel), if_neg (by decide +kernel), if_neg (by decide +kernel), if_neg (by decide +kernel), if_pos rfl]
theorem sg_eq : sgfn (Str.ofString "=") = fun c => c == 61 := by unfold sgfn; rw [if_neg (by decide +kernel), if_neg (by decide +kernel), if_neg (by decide +kernel), if_neg (by decide +kernel), if_neg (by decide +kernel), if_neg (by decide +kernel), if_pos rfl]
theorem sg_ne : sgfn (Str.ofString "[^=]") = fun c => c != 61 := by unfold sgfn; rw [if_neg (by decide +kernel), if_neg (by decide +kernel), if_neg (by decide +kernel), if_neg (by decide +kernel), if_neg (by decide +kernel), if_neg (by decide +kernel), if_neg (by decide +kernel)]
theorem sgfn_ok (w : World) : ∀ a ∈ sievesL, ∀ p ∈ a, p ≠ Str.ofString "many" → SignOk w p (sgfn p) := by
  intro a ha p hp hne
  have h1 : SignOk w (Str.ofString "[A-Z]") (sgfn (Str.ofString "[A-Z]")) := by rw [sg_AZ]; exact s_AZ w
  have h2 : SignOk w (Str.ofString "[a-z]") (sgfn (Str.ofString "[a-z]")) := by rw [sg_az]; exact s_az w
  have h3 : SignOk w (Str.ofString "[0-9]") (sgfn (Str.ofString "[0-9]")) := by rw [sg_n9]; exact s_n9 w
  have h4 : SignOk w anyS (sgfn anyS) := by rw [sg_any]; exact s_any w
  have h5 : SignOk w (Str.ofString "[+/]") (sgfn (Str.ofString "[+/]")) := by rw [sg_pl]; exact s_pl w
  have h6 : SignOk w ⟨#[65]⟩ (sgfn ⟨#[65]⟩) := by rw [str_A, sg_A]; exact s_A w
  have h7 : SignOk w ⟨#[61]⟩ (sgfn ⟨#[61]⟩) := by rw [str_eq, sg_eq]; exact s_eq w
  have h8 : SignOk w (Str.ofString "[^=]") (sgfn (Str.ofString "[^=]")) := by rw [sg_ne]; exact s_ne w
  simp only [sievesL, List.mem_cons, List.not_mem_nil, or_false] at ha
  rcases ha with rfl | rfl | rfl | rfl | rfl | rfl | rfl | rfl | rfl <;> simp only [List.mem_cons, List.not_mem_nil, or_false] at hp
  all_goals (repeat' (rcases hp with rfl | hp))
  all_goals (try subst hp)
  all_goals first | exact (hne rfl).elim | assumption
theorem Are.get {α : Type} {R : Value → α → Prop} {vs : List Value} {as : List α} (x : Are R vs as) : ∀ (i : Nat) (a : α), as[i]? = some a → ∃ v, vs[i]? = some v ∧ R v a := by
  induction x with
  | nil => intro i a h; simp at h
  | cons r _ ih =>
    intro i a h
    cases i with
    | zero => simp at h; subst h; exact ⟨_, by simp, r⟩
    | succ i => simp at h; obtain ⟨v, h1, h2⟩ := ih i a h; exact ⟨v, by simpa using h1, h2⟩
theorem item_at {prog : Program} {w : World} {A : Around} {E : Value → Shared → Prop} {s : Shared} {h₀ : Heap} {L : Addr} {news : List (Addr × Obj)} {value slice : PySem.Expr} {D : Addr} {ys : List Value} {k : Int} {u : Tok} {v : Value} {Q : Value → Shared → Prop}
    (N : News h₀ L s.heap news) (hm : (D, lst ys) ∈ news) (h0 : 0 ≤ k) (h1 : k < 1000) (hx : ys[k.toNat]? = some v) (h : Q v s)
    (hs : subscripted slice false (.ref D) (.int k u) = operate [.ref D, .int k u] (getItem (.ref D) (.int k u))) :
    wpAny (model prog w) A (subscriptTail value slice (.ref D) (.int k u)) Q E s :=
  have hl : s.heap.IsList D (List.toArray ys) := ⟨_, (N _ hm).1, rfl, _, rfl⟩
  tail_any hl.typeIs slot_list_getitem.lookup (wpAny_getItem_list hl h0 (by omega) (by simpa using hx) h) hs
theorem item_is {prog : Program} {w : World} {A : Around} {E : Value → Shared → Prop} {s : Shared} {value slice : PySem.Expr} {D : Addr} {ys : List Value} {k : Int} {u : Tok} {v : Value} {Q : Value → Shared → Prop}
    (hl : s.heap.IsList D (List.toArray ys)) (h0 : 0 ≤ k) (h1 : k < 1000) (hx : ys[k.toNat]? = some v) (h : Q v s)
    (hs : subscripted slice false (.ref D) (.int k u) = operate [.ref D, .int k u] (getItem (.ref D) (.int k u))) :
    wpAny (model prog w) A (subscriptTail value slice (.ref D) (.int k u)) Q E s :=
  tail_any hl.typeIs slot_list_getitem.lookup (wpAny_getItem_list hl h0 (by omega) (by simpa using hx) h) hs
theorem sieve_len : ∀ a ∈ sievesL, a.length ≤ 8 := by
  intro a ha
  simp only [sievesL, List.mem_cons, List.not_mem_nil, or_false] at ha
  rcases ha with rfl | rfl | rfl | rfl | rfl | rfl | rfl | rfl | rfl <;> decide
theorem codes_len20 {os : List Int} (h : os.length ≤ 5) : (codes os).length ≤ 20 := by
  have := codes_len os; omega
inductive InLoop : Prop
  | mk : InLoop
theorem names_src {α : Type} {ys : List Value} {rs : List α} {f : α → Str} (h : Are IsStr ys (rs.map f)) (i : Nat) (v : Value) (_ : i < ys.toArray.size) (hv : ys.toArray[i]? = some v) : ∃ a, rs[i]? = some a ∧ ∃ t, v = .str (f a) t := by
  obtain ⟨b, hb, t, rfl⟩ := h.at i v (by simpa using hv)
  rw [List.getElem?_map] at hb
  cases q : rs[i]? with
  | none => rw [q] at hb; simp at hb
  | some a =>
    rw [q] at hb
    have hb : f a = b := by simpa using hb
    subst hb
    exact ⟨a, rfl, t, rfl⟩
theorem len_ws {prog : Program} {w : World} {A : Around} {E : Value → Shared → Prop} {s : Shared} {D : Addr} {ws : List Value} {n : Nat} {Q : Value → Shared → Prop} (hl : s.heap.IsList D (List.toArray ws)) (hw : ws.length = n) (hn : n ≤ 1000) (h : Q (.int (n : Int) (s.toks + 1)) { s with toks := s.toks + 1 + 1 }) :
    wpAny (model prog w) A (call (.builtin "len") [.ref D]) Q E s := by
  subst hw
  exact PyProof.Rows.len_list hl (by simp only [List.size_toArray]; omega) (by simpa using h)
noncomputable def meanAt (rs : List (List Int)) (i : Nat) (k : Int) : Bool := (meansF (rs.getD k.toNat [])).getD i false
theorem range_small : ∀ n : Nat, n < 21 → Builtin.Range.small 0 (n : Int) 1 = true ∧ Builtin.Range.rangeSize 0 (n : Int) 1 = ((n : Nat) : Int) := by decide
end Mine
end
section -- PM
namespace Mine
theorem ltc (a b : List Nat) : ltCps a b = decide (a < b) := by
  induction a generalizing b with
  | nil => cases b <;> simp [ltCps]
  | cons x r ih =>
    cases b with
    | nil => simp [ltCps]
    | cons y q => simp only [ltCps, ih, List.cons_lt_cons_iff]; by_cases h : x < y <;> by_cases h2 : x = y <;> simp [h, h2]
theorem lt_irr (a : Str) : strLt a a = false := by simp [strLt, List.lt_irrefl]
theorem lt_tri {a b : Str} (h1 : strLt a b = false) (h2 : strLt b a = false) : a = b := by
  simp only [strLt, decide_eq_false_iff_not, List.not_lt] at h1 h2
  exact Str.ext' (Array.ext' (List.le_antisymm h2 h1))
theorem lt_tr {a b c : Str} (h1 : strLt a b = true) (h2 : strLt b c = true) : strLt a c = true := by
  simp only [strLt, decide_eq_true_eq] at h1 h2 ⊢
  exact List.lt_trans h1 h2
theorem lt_asy {a b : Str} (h1 : strLt a b = true) : strLt b a = false := by
  cases h : strLt b a with
  | false => rfl
  | true => have := lt_tr h1 h; rw [lt_irr] at this; cases this
noncomputable def cnt (ss : List Str) (y : Str) : Nat := (ss.filter fun q => decide (q = y)).length
theorem cnt_in (ss : List Str) (y : Str) : countIn (.str y) (ss.map PyData.str) = (cnt ss y : Int) := by
  induction ss with
  | nil => rfl
  | cons x r ih =>
    simp only [List.map_cons, PySem.Spec.countIn, ih, cnt, List.filter_cons, PySem.Spec.same]
    by_cases h : x = y <;> simp [h]
    omega
/-- none of the later is less -/
noncomputable def Up (ss : List Str) : Prop := ss.Pairwise fun a b => strLt b a = false
theorem rising_iff : ∀ (p : Str) (r : List Str), risingS p r = true ↔ Up (p :: r)
  | p, [] => by simp [risingS, Up]
  | p, x :: r => by
    have ih := rising_iff x r
    simp only [risingS, Bool.and_eq_true, Bool.not_eq_true', ih, Up, List.pairwise_cons, ltc]
    constructor
    · rintro ⟨h1, h2, h3⟩
      have h1 : strLt x p = false := h1
      refine ⟨fun y hy => ?_, h2, h3⟩
      rcases List.mem_cons.mp hy with rfl | hy
      · exact h1
      · have h4 := h2 y hy
        cases h : strLt y p with
        | false => rfl
        | true =>
          cases h5 : strLt p x with
          | true => rw [lt_tr h h5] at h4; cases h4
          | false => rw [lt_tri h1 h5] at h4; rw [h4] at h; cases h
    · rintro ⟨h1, h2⟩
      exact ⟨h1 x List.mem_cons_self, h2⟩
theorem up_of {ss : List Str} (h : sortedS ss = true) : Up ss := by
  cases ss with
  | nil => exact List.Pairwise.nil
  | cons x r => exact (rising_iff x r).mp h
theorem filter_len_le {α : Type} (p q : α → Bool) (l : List α) (h : ∀ x ∈ l, p x = true → q x = true) : (l.filter p).length ≤ (l.filter q).length := by
  induction l with
  | nil => exact Nat.le_refl _
  | cons x r ih =>
    have ih := ih fun y hy => h y (List.mem_cons_of_mem _ hy)
    have hx := h x List.mem_cons_self
    simp only [List.filter_cons]
    cases hp : p x <;> cases hq : q x <;> simp_all <;> omega
theorem filter_len_add {α : Type} (p q r : α → Bool) (l : List α) (h : ∀ x ∈ l, r x = (p x || q x)) (hd : ∀ x ∈ l, ¬ (p x = true ∧ q x = true)) : (l.filter r).length = (l.filter p).length + (l.filter q).length := by
  induction l with
  | nil => rfl
  | cons x s ih =>
    have ih := ih (fun y hy => h y (List.mem_cons_of_mem _ hy)) (fun y hy => hd y (List.mem_cons_of_mem _ hy))
    have hx := h x List.mem_cons_self
    have hx2 := hd x List.mem_cons_self
    simp only [List.filter_cons, hx]
    cases hp : p x <;> cases hq : q x <;> simp_all <;> omega
theorem le_cnt (ss : List Str) (y : Str) : lessF ss y + cnt ss y = (ss.filter fun q => !strLt y q).length := by
  refine (filter_len_add _ _ _ ss (fun x _ => ?_) (fun x _ => ?_)).symm
  · cases h1 : strLt x y with
    | true => simp [lt_asy h1]
    | false =>
      by_cases h2 : x = y
      · subst h2; simp [h1]
      · cases h3 : strLt y x with
        | true => simp [h2]
        | false => exact absurd (lt_tri h1 h3) h2
  · rintro ⟨h1, h2⟩
    have h2 : x = y := of_decide_eq_true h2
    subst h2
    rw [lt_irr] at h1; cases h1
theorem mid_of_up {s1 : List Str} (h : Up s1) (k : Nat) (hk : k < s1.length) : lessF s1 (s1.getD k Str.empty) ≤ k ∧ k < lessF s1 (s1.getD k Str.empty) + cnt s1 (s1.getD k Str.empty) := by
  rw [le_cnt]
  have e : s1.getD k Str.empty = s1[k] := by simp [hk]
  have hs : s1 = s1.take k ++ s1[k] :: s1.drop (k + 1) := by simp
  rw [e]
  generalize s1[k] = x at hs
  have hl : (s1.take k).length = k := by simp; omega
  generalize s1.take k = l at hs hl
  generalize s1.drop (k + 1) = r at hs
  subst hs
  have hp := List.pairwise_append.mp h
  have hr := List.pairwise_cons.mp hp.2.1
  constructor
  · unfold lessF
    rw [List.filter_append, List.length_append]
    have z : (x :: r).filter (fun q => strLt q x) = [] := by
      rw [List.filter_eq_nil_iff]
      intro q hq
      rcases List.mem_cons.mp hq with rfl | hq
      · simp [lt_irr]
      · simp [hr.1 q hq]
    rw [z]
    have := List.length_filter_le (fun q => strLt q x) l
    simp; omega
  · rw [List.filter_append, List.length_append]
    have z : l.filter (fun q => !strLt x q) = l := by
      rw [List.filter_eq_self]
      intro q hq
      simp [hp.2.2 q hq x List.mem_cons_self]
    rw [z, List.filter_cons]
    simp [lt_irr]; omega
theorem mid_perm {s1 ss : List Str} (h : s1.Perm ss) (y : Str) : lessF s1 y = lessF ss y ∧ cnt s1 y = cnt ss y := ⟨(h.filter _).length_eq, (h.filter _).length_eq⟩
theorem mid_uni {ss : List Str} {ah : Int} {x y : Str} (hx : midP ss ah x) (hy : midP ss ah y) : y = x := by
  have key : ∀ {x y : Str}, midP ss ah x → midP ss ah y → strLt x y = false := by
    intro x y hx hy
    cases h : strLt x y with
    | false => rfl
    | true =>
      obtain ⟨hx1, hx2⟩ := hx
      obtain ⟨hy1, hy2⟩ := hy
      rw [cnt_in] at hx2
      have := le_cnt ss x
      have h2 : (ss.filter fun q => !strLt x q).length ≤ lessF ss y := filter_len_le _ _ ss fun q _ hq => by
        have hq : strLt x q = false := by simpa using hq
        cases h5 : strLt q x with
        | true => exact lt_tr h5 h
        | false => rw [lt_tri h5 hq]; exact h
      omega
  exact lt_tri (key hy hx) (key hx hy)
theorem mid_sorted {s1 ss : List Str} (hp : s1.Perm ss) (hs : sortedS s1 = true) (k : Nat) (hk : k < ss.length) : s1.getD k Str.empty ∈ ss ∧ midP ss (k : Int) (s1.getD k Str.empty) := by
  have hk1 : k < s1.length := by rw [hp.length_eq]; exact hk
  obtain ⟨h1, h2⟩ := mid_of_up (up_of hs) k hk1
  obtain ⟨e1, e2⟩ := mid_perm hp (s1.getD k Str.empty)
  refine ⟨hp.mem_iff.mp ?_, ?_, ?_⟩
  · simp [hk1]
  · omega
  · rw [cnt_in]; omega
theorem mid_one {s1 ss : List Str} (hp : s1.Perm ss) (hs : sortedS s1 = true) (k : Nat) (hk : k < ss.length) (j : Int) (hj : j = (k : Int)) : (∃ y ∈ ss, midP ss j y) ∧ ∀ y ∈ ss, midP ss j y → y = s1.getD k Str.empty := by
  subst hj
  have := mid_sorted hp hs k hk
  exact ⟨⟨_, this.1, this.2⟩, fun y _ hy => mid_uni this.2 hy⟩
end Mine
end
section -- PT
namespace Mine
theorem mem_rk {k a : Int} {n : Nat} : k ∈ rangeKs a n ↔ a ≤ k ∧ k < a + (n : Int) := by
  refine ⟨mem_rangeKs, fun h => ?_⟩
  unfold rangeKs
  rw [List.mem_map]
  exact ⟨(k - a).toNat, List.mem_range.mpr (by omega), by omega⟩
theorem mem_many {sg : Str → Nat → Bool} {cs : List Nat} {pl : List Int} {q : Int} : q ∈ stepT sg cs pl (Str.ofString "many") ↔ ∃ r ∈ pl, r ≤ q ∧ q ≤ (cs.length : Int) := by
  unfold stepT
  rw [if_pos rfl]
  by_cases h : pl = []
  · simp [h]
  rw [if_neg h, mem_rk]
  have hm : minL pl ∈ pl ∧ ∀ a ∈ pl, minL pl ≤ a := by
    cases pl with
    | nil => exact absurd rfl h
    | cons x r =>
      refine ⟨?_, (foldl_min_le (x :: r) _).2⟩
      rcases foldl_min_in (x :: r) ((x :: r).headD 0) with e | e
      · have : minL (x :: r) = x := e
        rw [this]; exact List.mem_cons_self
      · exact e
  constructor
  · rintro ⟨h1, h2⟩
    exact ⟨_, hm.1, h1, by omega⟩
  · rintro ⟨r, hr, h1, h2⟩
    have := hm.2 r hr
    omega
theorem mem_part {sg : Str → Nat → Bool} {cs : List Nat} {pl : List Int} {p : Str} {q : Int} (hp : p ≠ Str.ofString "many") : q ∈ stepT sg cs pl p ↔ ∃ r ∈ pl, r < (cs.length : Int) ∧ sg p (cs.getD r.toNat 0) = true ∧ q = r + 1 := by
  unfold stepT
  rw [if_neg hp]
  simp only [List.mem_map, List.mem_filter, Bool.and_eq_true, decide_eq_true_eq]
  constructor
  · rintro ⟨r, ⟨h1, h2, h3⟩, rfl⟩; exact ⟨r, h1, h2, h3, rfl⟩
  · rintro ⟨r, h1, h2, h3, rfl⟩; exact ⟨r, ⟨h1, h2, h3⟩, rfl⟩
theorem takes_iff {sg : Str → Nat → Bool} {ps : List Str} {cs : List Nat} : takesF sg ps cs = true ↔ (cs.length : Int) ∈ ps.foldl (stepT sg cs) [0] := by
  unfold takesF
  rw [List.any_eq_true]
  constructor
  · rintro ⟨x, hx, e⟩; rw [← eq_of_beq e]; exact hx
  · intro h; exact ⟨_, h, by simp⟩
section
variable {sg : Str → Nat → Bool} {cs : List Nat} {p q : Str}
theorem t_head (hp : p ≠ Str.ofString "many") : takesF sg [p, Str.ofString "many"] cs = (decide (0 < cs.length) && sg p (cs.getD 0 0)) := by
  rw [Bool.eq_iff_iff, takes_iff]
  simp only [List.foldl_cons, List.foldl_nil, mem_many, mem_part hp, List.mem_singleton, Bool.and_eq_true, decide_eq_true_eq]
  constructor
  · rintro ⟨r, ⟨_, rfl, h1, h2, rfl⟩, h3, _⟩
    exact ⟨by omega, h2⟩
  · rintro ⟨h1, h2⟩
    exact ⟨1, ⟨0, rfl, by omega, h2, rfl⟩, by omega, by omega⟩
theorem t_mid (hp : p ≠ Str.ofString "many") : takesF sg [Str.ofString "many", p, Str.ofString "many"] cs = cs.any (sg p) := by
  rw [Bool.eq_iff_iff, takes_iff]
  simp only [List.foldl_cons, List.foldl_nil, mem_many, mem_part hp, List.mem_singleton, List.any_eq_true]
  constructor
  · rintro ⟨r, ⟨x, ⟨_, rfl, h0, _⟩, h1, h2, rfl⟩, h3, _⟩
    have hx : x.toNat < cs.length := by omega
    refine ⟨cs[x.toNat], List.getElem_mem hx, ?_⟩
    simpa [hx] using h2
  · rintro ⟨c, hc, h⟩
    obtain ⟨i, hi, rfl⟩ := List.getElem_of_mem hc
    refine ⟨(i : Int) + 1, ⟨(i : Int), ⟨0, rfl, by omega, by omega⟩, by omega, ?_, rfl⟩, by omega, by omega⟩
    simpa [hi] using h
theorem t_last (hp : p ≠ Str.ofString "many") : takesF sg [Str.ofString "many", p] cs = (decide (0 < cs.length) && sg p (cs.getD (cs.length - 1) 0)) := by
  rw [Bool.eq_iff_iff, takes_iff]
  simp only [List.foldl_cons, List.foldl_nil, mem_many, mem_part hp, List.mem_singleton, Bool.and_eq_true, decide_eq_true_eq]
  constructor
  · rintro ⟨r, ⟨_, rfl, h0, _⟩, h1, h2, h3⟩
    have : r.toNat = cs.length - 1 := by omega
    rw [this] at h2
    exact ⟨by omega, h2⟩
  · rintro ⟨h1, h2⟩
    refine ⟨(cs.length : Int) - 1, ⟨0, rfl, by omega, by omega⟩, by omega, ?_, by omega⟩
    rw [show ((cs.length : Int) - 1).toNat = cs.length - 1 by omega]; exact h2
theorem t_last2 (hp : p ≠ Str.ofString "many") (hq : q ≠ Str.ofString "many") : takesF sg [Str.ofString "many", p, q] cs = (decide (1 < cs.length) && sg p (cs.getD (cs.length - 2) 0) && sg q (cs.getD (cs.length - 1) 0)) := by
  rw [Bool.eq_iff_iff, takes_iff]
  simp only [List.foldl_cons, List.foldl_nil, mem_many, mem_part hp, mem_part hq, List.mem_singleton, Bool.and_eq_true, decide_eq_true_eq]
  constructor
  · rintro ⟨r, ⟨x, ⟨_, rfl, h0, _⟩, h1, h2, rfl⟩, h4, h5, h6⟩
    have e1 : x.toNat = cs.length - 2 := by omega
    have e2 : (x + 1).toNat = cs.length - 1 := by omega
    rw [e1] at h2
    rw [e2] at h5
    exact ⟨⟨by omega, h2⟩, h5⟩
  · rintro ⟨⟨h1, h2⟩, h3⟩
    refine ⟨(cs.length : Int) - 1, ⟨(cs.length : Int) - 2, ⟨0, rfl, by omega, by omega⟩, by omega, ?_, by omega⟩, by omega, ?_, by omega⟩
    · rw [show ((cs.length : Int) - 2).toNat = cs.length - 2 by omega]; exact h2
    · rw [show ((cs.length : Int) - 1).toNat = cs.length - 1 by omega]; exact h3
theorem t_four (hp : p ≠ Str.ofString "many") (h1 : ∀ c, sg p c = true) : takesF sg [p, p, p, p] cs = decide (cs.length = 4) := by
  rw [Bool.eq_iff_iff, takes_iff]
  simp only [List.foldl_cons, List.foldl_nil, mem_part hp, List.mem_singleton, decide_eq_true_eq, h1, true_and]
  constructor
  · rintro ⟨_, ⟨_, ⟨_, ⟨_, rfl, _, rfl⟩, _, rfl⟩, _, rfl⟩, _, h⟩
    omega
  · intro h
    exact ⟨3, ⟨2, ⟨1, ⟨0, rfl, by omega, rfl⟩, by omega, rfl⟩, by omega, rfl⟩, by omega, by omega⟩
end
theorem sgn_tab : ∀ k : Nat, k < 64 → (decide (65 ≤ signTab.getD k 0 ∧ signTab.getD k 0 ≤ 90) = decide (k < 26)) ∧ (decide (97 ≤ signTab.getD k 0 ∧ signTab.getD k 0 ≤ 122) = decide (26 ≤ k ∧ k < 52)) ∧ (decide (48 ≤ signTab.getD k 0 ∧ signTab.getD k 0 ≤ 57) = decide (52 ≤ k ∧ k < 62)) ∧
    ((signTab.getD k 0 == 43 || signTab.getD k 0 == 47) = decide (61 < k)) ∧ ((signTab.getD k 0 == 65) = decide (k = 0)) ∧ (signTab.getD k 0 == 61) = false := by decide +kernel
theorem sgn_facts {k : Int} (h0 : 0 ≤ k) (h1 : k < 64) : (decide (65 ≤ sgn k ∧ sgn k ≤ 90) = decide (k < 26)) ∧ (decide (97 ≤ sgn k ∧ sgn k ≤ 122) = decide (26 ≤ k ∧ k < 52)) ∧ (decide (48 ≤ sgn k ∧ sgn k ≤ 57) = decide (52 ≤ k ∧ k < 62)) ∧
    ((sgn k == 43 || sgn k == 47) = decide (61 < k)) ∧ ((sgn k == 65) = (k == 0)) ∧ (sgn k == 61) = false := by
  obtain ⟨a, b, c, d, e, f⟩ := sgn_tab k.toNat (by omega)
  refine ⟨a.trans ?_, b.trans ?_, c.trans ?_, d.trans ?_, e.trans ?_, f⟩
  · rw [decide_eq_decide]; omega
  · rw [decide_eq_decide]; omega
  · rw [decide_eq_decide]; omega
  · rw [decide_eq_decide]; omega
  · rw [Bool.eq_iff_iff]; simp only [decide_eq_true_eq, beq_iff_eq]; omega
noncomputable def padN (os : List Int) : Nat := ((-(os.length : Int)) % 3).toNat
theorem any_codes {os : List Int} (hb : ∀ o ∈ os, 0 ≤ o ∧ o < 256) (f : Nat → Bool) (g : Int → Bool) (h61 : f 61 = false) (hfg : ∀ k : Int, 0 ≤ k → k < 64 → f (sgn k) = g k) : (codes os).any f = (sixF os).any g := by
  unfold codes
  rw [List.any_append, List.any_map]
  have z : (List.replicate (Int.toNat (-(os.length : Int) % 3)) 61).any f = false := by
    rw [List.any_eq_false]
    intro x hx
    rw [(List.mem_replicate.mp hx).2, h61]; simp
  rw [z, Bool.or_false, Bool.eq_iff_iff]
  simp only [List.any_eq_true, Function.comp]
  constructor
  · rintro ⟨k, hk, h⟩
    have := six_bounds os hb k hk
    exact ⟨k, hk, by rw [← hfg k this.1 this.2]; exact h⟩
  · rintro ⟨k, hk, h⟩
    have := six_bounds os hb k hk
    exact ⟨k, hk, by rw [hfg k this.1 this.2]; exact h⟩
theorem head_codes {os : List Int} (hb : ∀ o ∈ os, 0 ≤ o ∧ o < 256) (f : Nat → Bool) (g : Int → Bool) (hfg : ∀ k : Int, 0 ≤ k → k < 64 → f (sgn k) = g k) : (decide (0 < (codes os).length) && f ((codes os).getD 0 0)) = match os with | [] => false | a :: _ => g (a / 4) := by
  match os with
  | [] => rfl
  | [a] =>
    have ha := hb a (by simp)
    exact (by simp [codes, sixF, hfg (a / 4) (by omega) (by omega)])
  | [a, b] =>
    have ha := hb a (by simp)
    exact (by simp [codes, sixF, hfg (a / 4) (by omega) (by omega)])
  | a :: b :: c :: r =>
    have ha := hb a (by simp)
    exact (by simp [codes, sixF, hfg (a / 4) (by omega) (by omega)])
theorem f61 {k : Int} (h0 : 0 ≤ k) (h1 : k < 64) : (sgn k == 61) = false := (sgn_facts h0 h1).2.2.2.2.2
theorem last_codes : ∀ os : List Int, os.length ≤ 5 → (∀ o ∈ os, 0 ≤ o ∧ o < 256) →
    ((decide (0 < (codes os).length) && ((codes os).getD ((codes os).length - 1) 0 == 61)) = decide (0 < (os.length : Int) % 3)) ∧
    ((decide (0 < (codes os).length) && ((codes os).getD ((codes os).length - 1) 0 != 61)) = decide ((os.length : Int) % 3 = 0 ∧ 0 < (os.length : Int))) ∧
    ((decide (1 < (codes os).length) && ((codes os).getD ((codes os).length - 2) 0 == 61) && ((codes os).getD ((codes os).length - 1) 0 == 61)) = ((os.length : Int) % 3 == 1)) ∧
    (decide ((codes os).length = 4) = decide (0 < (os.length : Int) ∧ (os.length : Int) < 4))
  | [], _, _ => by decide
  | [a], _, hb => by
    have ha := hb a (by simp)
    simp [codes, sixF, bne]
  | [a, b], _, hb => by
    have ha := hb a (by simp); have hb' := hb b (by simp)
    have z := f61 (k := b % 16 * 4) (by omega) (by omega)
    simp [codes, sixF, bne, z]
  | [a, b, c], _, hb => by
    have hc := hb c (by simp)
    have z := f61 (k := c % 64) (by omega) (by omega)
    simp [codes, sixF, bne, z]
  | [a, b, c, d], _, hb => by
    have hc := hb d (by simp)
    simp [codes, sixF, bne]
  | [a, b, c, d, e], _, hb => by
    have hc := hb d (by simp); have he := hb e (by simp)
    have z := f61 (k := e % 16 * 4) (by omega) (by omega)
    simp [codes, sixF, bne, z]
end Mine
end
section -- PT2
namespace Mine
theorem nm_AZ : Str.ofString "[A-Z]" ≠ Str.ofString "many" := by decide +kernel
theorem nm_az : Str.ofString "[a-z]" ≠ Str.ofString "many" := by decide +kernel
theorem nm_n9 : Str.ofString "[0-9]" ≠ Str.ofString "many" := by decide +kernel
theorem nm_pl : Str.ofString "[+/]" ≠ Str.ofString "many" := by decide +kernel
theorem nm_A : (⟨#[65]⟩ : Str) ≠ Str.ofString "many" := by decide +kernel
theorem nm_eq : (⟨#[61]⟩ : Str) ≠ Str.ofString "many" := by decide +kernel
theorem nm_ne : Str.ofString "[^=]" ≠ Str.ofString "many" := by decide +kernel
theorem nm_any : Str.ofString "any" ≠ Str.ofString "many" := by decide +kernel
theorem ahead_head {os : List Int} (hb : ∀ o ∈ os, 0 ≤ o ∧ o < 256) (g : Int → Bool) (P : Int → Bool) (h255 : P 255 = false) (hg : ∀ a : Int, 0 ≤ a → a < 256 → g (a / 4) = P a) : (match os with | [] => false | a :: _ => g (a / 4)) = P (aheadF os) := by
  cases os with
  | nil => exact h255.symm
  | cons a r =>
    have ha := hb a (by simp)
    exact hg a ha.1 ha.2
theorem takes_means {os : List Int} (hn : os.length ≤ 5) (hb : ∀ o ∈ os, 0 ≤ o ∧ o < 256) : ∀ (i : Nat) (a : List Str), sievesL[i]? = some a → takesF sgfn a (codes os) = (meansF os).getD i false := by
  obtain ⟨l5, l6, l7, l8⟩ := last_codes os hn hb
  intro i a h
  unfold sievesL at h
  rcases i with _ | _ | _ | _ | _ | _ | _ | _ | _ | i
  · obtain rfl : [Str.ofString "[A-Z]", many] = a := Option.some.inj h
    show takesF sgfn [Str.ofString "[A-Z]", Str.ofString "many"] (codes os) = decide (aheadF os < 104)
    rw [t_head nm_AZ, sg_AZ, head_codes hb (fun c => decide (65 ≤ c ∧ c ≤ 90)) (fun k => decide (k < 26)) (fun k h0 h1 => (sgn_facts h0 h1).1)]
    exact ahead_head hb (fun k => decide (k < 26)) (fun a => decide (a < 104)) (by decide) (fun a h0 h1 => by rw [decide_eq_decide]; omega)
  · obtain rfl : [Str.ofString "[a-z]", many] = a := Option.some.inj h
    show takesF sgfn [Str.ofString "[a-z]", Str.ofString "many"] (codes os) = decide (104 ≤ aheadF os ∧ aheadF os < 208)
    rw [t_head nm_az, sg_az, head_codes hb (fun c => decide (97 ≤ c ∧ c ≤ 122)) (fun k => decide (26 ≤ k ∧ k < 52)) (fun k h0 h1 => (sgn_facts h0 h1).2.1)]
    exact ahead_head hb (fun k => decide (26 ≤ k ∧ k < 52)) (fun a => decide (104 ≤ a ∧ a < 208)) (by decide) (fun a h0 h1 => by rw [decide_eq_decide]; omega)
  · obtain rfl : [Str.ofString "[0-9]", many] = a := Option.some.inj h
    show takesF sgfn [Str.ofString "[0-9]", Str.ofString "many"] (codes os) = decide (208 ≤ aheadF os ∧ aheadF os < 248)
    rw [t_head nm_n9, sg_n9, head_codes hb (fun c => decide (48 ≤ c ∧ c ≤ 57)) (fun k => decide (52 ≤ k ∧ k < 62)) (fun k h0 h1 => (sgn_facts h0 h1).2.2.1)]
    exact ahead_head hb (fun k => decide (52 ≤ k ∧ k < 62)) (fun a => decide (208 ≤ a ∧ a < 248)) (by decide) (fun a h0 h1 => by rw [decide_eq_decide]; omega)
  · obtain rfl : [many, Str.ofString "[+/]", many] = a := Option.some.inj h
    show takesF sgfn [Str.ofString "many", Str.ofString "[+/]", Str.ofString "many"] (codes os) = (sixF os).any (fun k => decide (61 < k))
    rw [t_mid nm_pl, sg_pl]
    exact any_codes hb _ _ (by decide) (fun k h0 h1 => (sgn_facts h0 h1).2.2.2.1)
  · obtain rfl : [many, ⟨#[65]⟩, many] = a := Option.some.inj h
    show takesF sgfn [Str.ofString "many", ⟨#[65]⟩, Str.ofString "many"] (codes os) = (sixF os).any (fun k => k == 0)
    rw [t_mid nm_A, str_A, sg_A]
    exact any_codes hb _ _ (by decide) (fun k h0 h1 => (sgn_facts h0 h1).2.2.2.2.1)
  · obtain rfl : [many, ⟨#[61]⟩] = a := Option.some.inj h
    show takesF sgfn [Str.ofString "many", ⟨#[61]⟩] (codes os) = decide (0 < (os.length : Int) % 3)
    rw [t_last nm_eq, str_eq, sg_eq]
    exact l5
  · obtain rfl : [many, Str.ofString "[^=]"] = a := Option.some.inj h
    show takesF sgfn [Str.ofString "many", Str.ofString "[^=]"] (codes os) = decide ((os.length : Int) % 3 = 0 ∧ 0 < (os.length : Int))
    rw [t_last nm_ne, sg_ne]
    exact l6
  · obtain rfl : [many, ⟨#[61]⟩, ⟨#[61]⟩] = a := Option.some.inj h
    show takesF sgfn [Str.ofString "many", ⟨#[61]⟩, ⟨#[61]⟩] (codes os) = ((os.length : Int) % 3 == 1)
    rw [t_last2 nm_eq nm_eq, str_eq, sg_eq]
    exact l7
  · obtain rfl : [anyS, anyS, anyS, anyS] = a := Option.some.inj h
    show takesF sgfn [Str.ofString "any", Str.ofString "any", Str.ofString "any", Str.ofString "any"] (codes os) = decide (0 < (os.length : Int) ∧ (os.length : Int) < 4)
    rw [t_four nm_any (fun c => by have := sg_any; unfold anyS at this; rw [this])]
    exact l8
  · simp at h
theorem get_all {α : Type} (l : List α) (d : α) : (rangeKs 0 l.length).map (fun k => l.getD k.toNat d) = l := by
  apply List.ext_getElem
  · simp [rangeKs]
  · intro i h1 h2
    simp [rangeKs, h2]
theorem told_taken (rs : List (List Int)) (i : Nat) (a : List Str) (ha : sievesL[i]? = some a) (hr : ∀ os ∈ rs, (∀ o ∈ os, 0 ≤ o ∧ o < 256) ∧ os.length ≤ 5) :
    ((rangeKs 0 rs.length).filter (meanAt rs i)).map (fun k => nameS (rs.getD k.toNat [])) = (rs.filter fun os => takesF sgfn a (codes os)).map nameS := by
  have e1 : ((rangeKs 0 rs.length).filter (meanAt rs i)).map (fun k => nameS (rs.getD k.toNat [])) = ((((rangeKs 0 rs.length).map fun k => rs.getD k.toNat []).filter fun os => (meansF os).getD i false)).map nameS := by
    rw [List.filter_map, List.map_map]
    rfl
  rw [e1, get_all]
  congr 1
  refine List.filter_congr fun os ho => ?_
  exact (takes_means (hr os ho).2 (hr os ho).1 i a ha).symm
theorem told_taken' (ns : List Int) (i : Nat) (a : List Str) (ha : sievesL[i]? = some a) :
    ((rangeKs 0 (rowsF ns).length).filter (meanAt (rowsF ns) i)).map (fun k => nameS ((rowsF ns).getD k.toNat [])) = ((rowsF ns).filter fun os => takesF sgfn a (codes os)).map nameS := told_taken _ i a ha fun _ h => rows_ok h
end Mine
end
section -- LW
namespace Mine
local macro_rules | `(tactic| k_all) => `(tactic| first | exact List.forall_mem_nil _ | (with_reducible refine' List.forall_mem_cons.mpr ⟨?a, ?b⟩; (case a => k_ne); (case b => k_all)) | with_reducible assumption | with_reducible exact app_ne (by assumption) (by assumption) | with_reducible exact app_ne (by assumption) (app_ne (by assumption) (by assumption)))
local macro_rules | `(tactic| k_ne) => `(tactic| (refine neN ?_; (try dsimp only); first | with_reducible assumption | exact Ne.symm (by with_reducible assumption) | with_reducible exact ne_c1 | with_reducible exact ne_d1 | with_reducible exact ne_c2 | with_reducible exact ne_d2 | with_reducible exact ne_c3 | with_reducible exact ne_d3 | with_reducible exact ne_c4 | with_reducible exact ne_d4 | omega))
/-- the walk halts here -/
structure Halt (p : Prop) : Prop where
  of : p
structure Kept (p : Prop) : Prop where
  of : p
theorem told_ok {ns : List Int} {aS : List Str} : AllOk (((rowsF ns).filter fun os => takesF sgfn aS (codes os)).map nameS) := names_ok _
theorem told_len {ns : List Int} {aS : List Str} : (((rowsF ns).filter fun os => takesF sgfn aS (codes os)).map nameS).length ≤ 15 := by
  rw [List.length_map]
  exact Nat.le_trans (List.length_filter_le _ _) (rows_len ns).1
theorem ne_two {prog : Program} {w : World} {A : Around} {E : Value → Shared → Prop} {s : Shared} {a b : Addr} {x y : Str} {t1 t2 t3 t4 : Tok} {n1 n2 : Nat} {Q : Value → Shared → Prop} (h1 : s.heap.get? a = some { cls := .type "list", data := .seq #[.str x t1, .str y t2] n1 }) (h2 : s.heap.get? b = some { cls := .type "list", data := .seq #[.str x t3, .str y t4] n2 })
    (hx : PyData.strOk x = true) (hy : PyData.strOk y = true) (hu : A.units + 64 < cLine) (h : Q (.bool false) s) : wpAny (model prog w) A (compareOp .NotEq (.ref a) (.ref b)) Q E s :=
  ne_same (vs := [.str x t1, .str y t2]) (us := [.str x t3, .str y t4]) (ss := [x, y]) ⟨_, h1, rfl, _, rfl⟩ (.cons _ _ (.cons _ _ .nil)) ⟨_, h2, rfl, _, rfl⟩ (.cons _ _ (.cons _ _ .nil)) (fun z hz => by
    rcases List.mem_cons.mp hz with rfl | hz
    · exact hx
    · rw [List.mem_singleton.mp hz]; exact hy) hu h
theorem mpJ_up {m : Str → Option Value} {v1 v2 u v : Option Value} : (fun z => if z = Str.ofString "told" then u else if z = Str.ofString "taken" then v else mpJ m v1 v2 z) = mpJ m v u := by
  funext z
  simp only [mpJ]
  by_cases h1 : z = Str.ofString "told"
  · subst h1; rw [if_pos rfl, if_neg (by decide +kernel), if_pos rfl]
  · rw [if_neg h1]
    by_cases h2 : z = Str.ofString "taken"
    · rw [if_pos h2, if_pos h2]
    · rw [if_neg h2, if_neg h2, if_neg h2, if_neg h1, if_neg h1]
theorem off1_all {I : Addr} : ∀ {l : List (Addr × Obj)}, LCg.Off1 I l → ∀ p ∈ l, p.1 ≠ I
  | [], _, _, h => nomatch h
  | _ :: _, o, p, h => by
    rcases List.mem_cons.mp h with rfl | h
    · exact o.1
    · exact off1_all o.2 p h
theorem low_ok {s1 ss : List Str} (p1 : s1.Perm ss) (so1 : sortedS s1 = true) (hne : ss ≠ []) : (∃ y ∈ ss, midP ss (((ss.length : Int) - 1) / 2) y) ∧ ∀ y ∈ ss, midP ss (((ss.length : Int) - 1) / 2) y → y = s1.getD ((ss.length - 1) / 2) Str.empty := by
  have := List.length_pos_iff.mpr hne
  exact mid_one p1 so1 _ (by omega) _ (by omega)
theorem high_ok {s1 ss : List Str} (p1 : s1.Perm ss) (so1 : sortedS s1 = true) (hne : ss ≠ []) : (∃ y ∈ ss, midP ss ((ss.length : Int) / 2) y) ∧ ∀ y ∈ ss, midP ss ((ss.length : Int) / 2) y → y = s1.getD (ss.length / 2) Str.empty := by
  have := List.length_pos_iff.mpr hne
  exact mid_one p1 so1 _ (by omega) _ (by omega)
theorem ok_at {s1 ss : List Str} (p1 : s1.Perm ss) (hok : AllOk ss) (k : Nat) : PyData.strOk (s1.getD k Str.empty) = true := by
  by_cases h : k < s1.length
  · have : s1.getD k Str.empty ∈ s1 := by simp [h]
    exact hok _ (p1.mem_iff.mp this)
  · have : s1.getD k Str.empty = Str.empty := by simp [Nat.le_of_not_lt h]
    rw [this]; decide +kernel
theorem low_at {s1 ss : List Str} (p1 : s1.Perm ss) (hok : AllOk ss) : PyData.strOk (s1.getD ((ss.length - 1) / 2) Str.empty) = true := ok_at p1 hok _
theorem high_at {s1 ss : List Str} (p1 : s1.Perm ss) (hok : AllOk ss) : PyData.strOk (s1.getD (ss.length / 2) Str.empty) = true := ok_at p1 hok _
theorem end_turn {h₀ h' : Heap} {L I : Addr} {it oj : Obj} {m m' : Str → Option Value} {v1 v2 vj : Option Value} {g : Obj → List (Addr × Obj)} {s : Shared} {R : Result → Shared → Prop} {tk : Nat} {all news' : List (Addr × Obj)} (F : Fr h₀ L h' m') (N : News h₀ L h' all) (hm : m' = mpJ m v1 v2) (hn : news' = g oj) (hj : oj.data = .cell vj) (off : ∀ p ∈ news', p.1 ≠ I) (sub : ∀ p ∈ (I, it) :: news', p ∈ all) :
    TurnP h₀ L I it (fun m' news' => ∃ v1 v2 oj vj, m' = mpJ m v1 v2 ∧ news' = g oj ∧ oj.data = .cell vj) s R .next { s with heap := h', toks := tk } := TurnP.next F N sub off ⟨v1, v2, oj, vj, hm, hn, hj⟩
set_option maxHeartbeats 40000000 in
theorem law_walk {w : World} {s : Shared} {Q E : Value → Shared → Prop} {loose : List Str} {mean : ExcName → Option Value} {mg mb : Str → Option Value}
    (X0 : (hd.heap_1 w.params).In s.heap) (T0 : Top topProg loose mean mg mb s.heap) (hP : s.heap.get? 114 = some (tabObj #[]))
    (X : (hd.heap_1 w.params).In (hideAll s.heap [114])) (T : Top topProg loose mean mg mb (hideAll s.heap [114])) (C : CodeHd (hideAll s.heap [114]) 118 114) (hG : AllBare s.gens)
    (l : Addr) (vs : List Value) (ns : List Int) (hn : ns.length ≤ 63) (hl : (hideAll s.heap [114]).IsList l vs.toArray) (hI : IntsAre vs ns)
    (hQ : ∀ s', (∀ b o, b ≠ 114 → s.heap.get? b = some o → s'.heap.get? b = some o) → (∃ ps, s'.heap.get? 114 = some (tabObj ps)) → AllBare s'.gens → s'.os = s.os → Q (.bool true) s') :
    wpAny (model prg w) callerA (call (.ref 189) [.ref l] []) Q E s := by
  refine' pcallC X0 T0 ?k6 ?k7 ?kr ?k9 ?kB ?kD ?c2 ?c3 ?c4 ?_
  case k6 => k_is
  case k7 => k_is
  case kr => k_room
  case k9 => rfl
  case kB => exact rfl
  case kD => decide +kernel
  case c2 => exact rfl
  case c3 => exact rfl
  case c4 => exact rfl
  intro L' h' tk cells F' N' Y' envL AL
  refine letM F' ?_
  clear F'
  intro mL F'
  k_cells Y'
  (try simp only [List.cons_append, List.nil_append] at N')
  have F := fr_hide F' [114]
  have N := news_hide F' N' hP
  have hL114 : @LT.lt Nat _ 114 L' := Nat.lt_of_lt_of_le (Heap.lt_size hP) F'.above
  clear F' N'
  have zz1 : @Ne Nat 114 (L' + 1) := by omega
  have zz2 : @Ne Nat 114 (L' + 1 + 1) := by omega
  have zz3 : @Ne Nat 114 (L' + 1 + 1 + 1) := by omega
  have zz4 : @Ne Nat 114 (L' + 1 + 1 + 1 + 1) := by omega
  have zz5 : @Ne Nat 114 (L' + 1 + 1 + 1 + 1 + 1) := by omega
  (try dsimp only)
  show wpAny _ _ _ _ _ _
  k_fold
  (repeat' (first | ((try k_unmd); k_unfold; first | (with_reducible (first | refine after_nil ?_ | refine after_next ?_ | refine after_ret ?_ | refine after_brk ?_ | refine after_cont ?_)) | (try dsimp only [List.cons_append, List.nil_append])) | ((with_reducible show wpAny _ _ (subscriptTail (PySem.Expr.Subscript _ _ _) (PySem.Expr.Name _ _) (Value.ref _) (Value.int _ _)) _ _ _); ((k_dflt ((refine' item_is ?k1 ?k3 ?k4 ?k5 ?_ ?k6); (case k1 => assumption); (case k5 => assumption); (case k3 => omega); (case k4 => omega); (case k6 => with_unfolding_all rfl))))) | ((with_reducible show wpAny _ _ (subscriptTail (PySem.Expr.Name _ _) (PySem.Expr.Name _ _) (Value.ref _) (Value.int _ _)) _ _ _); ((k_dflt first | ((refine' item_is ?k1 ?k3 ?k4 ?k5 ?_ ?k6); (case k1 => with_reducible assumption); (case k5 => with_reducible assumption); (case k3 => omega); (case k4 => omega); (case k6 => with_unfolding_all rfl)) | ((refine' item_at ?k1 ?k2 ?k3 ?k4 ?k5 ?_ ?k6); (case k1 => k_asm); (case k5 => assumption); (case k2 => k_mem); (case k3 => omega); (case k4 => omega); (case k6 => with_unfolding_all rfl))))) | ((with_reducible show wpAny _ _ (exec _ _) _ _ _); first | ((with_reducible show wpAny _ _ (exec (Stmt.For _ (PySem.Expr.Call _ _ _ _) _ _ _) _) _ _ _); ((k_dflt (refine for_stop ?_)))) | ((with_reducible show wpAny _ _ (exec (Stmt.Assign _ (PySem.Expr.ListComp _ _ _ _) _) _) _ _ _); ((with_reducible rename InLoop => lp9; refine Halt.of ?_))) | ((with_reducible show wpAny _ _ (exec (Stmt.For _ _ _ _ _) _) _ _ _); ((k_dflt (refine for_stop ?_)))) | ((with_reducible show wpAny _ _ (exec (Stmt.If _ _ _ _) _) _ _ _); (refine wpAny_If ?_))) | ((with_reducible show wpAny _ _ (compareOp CmpOp.NotEq (Value.ref _) (Value.ref _)) _ _ _); (refine Halt.of ?_)) | ((with_reducible show wpAny _ _ (call (Value.builtin "len") _ _) _ _ _); ((k_dflt (refine' len_ws ?l1 ?l2 ?l3 ?_); (case l1 => exact News.isList (by assumption) (by k_mem)); (case l2 => assumption); (case l3 => omega)))) | ((with_reducible show wpAny _ _ (call (Value.ref _) _ _) _ _ _); (refine Halt.of ?_)) | ((with_reducible show wpAny _ _ (execs (_ :: _) _) _ _ _); ((refine execs_f ?_; intro qk))) | ((with_reducible show wpAny _ _ (eval (PySem.Expr.ListComp _ _ _ _) _) _ _ _); (refine Halt.of ?_)) | ((with_reducible show wpAny _ _ (pyIter (Value.ref _)) _ _ _); ((k_dflt (refine it_stop ?_)))) | ((with_reducible show LCt.CompSrcT _ _ _ _ _ _ _ _ _ _ _ _ _ _ _); (((with_reducible rename InLoop => lp9); refine Halt.of ?_))) | ((with_reducible show wpAny _ _ (storeName _ _ _) _ _ _); ((k_dflt (refine' store_f ?F ?N ?b ?a ?_; (case F => k_asm); (case N => k_asm); (case b => rfl); (case a => rfl); k_whole; intro m' h' F' N'; (try k_sweep))))) | (k_end; wrow_close) | walk1 | dsimp only | (leave1; try dsimp only)))
  refine Halt.mk ?_
  refine' c_rows ?cx ?ct ?ch ?cr ?cu _ _ _ ?c1 ?c2 ?c3 ?_
  (case cx => ((first | assumption | exact Frag.In.keeps (by assumption) (Fr.keep (by assumption)))))
  (case ct => ((first | assumption | exact Top.keeps (by assumption) (Fr.keep (by assumption)))))
  (case ch => with_unfolding_all rfl)
  (case cr => (first | (simp +zetaDelta only [depth_deeper, units_deeper]; omega) | (simp +zetaDelta only [depth_deeper, units_deeper, callerA]; decide)))
  (case cu => (first | (simp +zetaDelta only [depth_deeper, units_deeper]; omega) | (simp +zetaDelta only [depth_deeper, units_deeper, callerA]; decide)))
  (case c1 => assumption)
  (case c2 => (((rename Fr _ _ _ _ => F9); exact Heap.IsList.at (by assumption) fun o e => F9.keep _ o e)))
  (case c3 => assumption)
  intro a9 ws9 new9 n9 h9 tk9 hx9 hM9 hA9
  refine hideG ?_
  intro q0
  (rename Fr _ _ _ _ => F9)
  (rename News _ _ _ _ => N9)
  have F8 := fr_ext F9 hx9
  obtain ⟨N8, of8, on8⟩ := news_made F9 N9 hx9 hM9
  have of7 := of6 of8
  have on7 := on6 on8
  clear F9 N9 hx9 hM9 of8 on8
  obtain ⟨q1, q2, q3, q4, q5, q6⟩ := of7
  simp only [List.cons_append, List.nil_append] at N8
  dsimp only at q1 q2 q3 q4 q5 q6 on7
  obtain ⟨_, _, _, _, _, _⟩ := on7
  (try k_unmd)
  k_unfold
  (try dsimp only)
  (try k_fold)
  (repeat' (first | ((try k_unmd); k_unfold; first | (with_reducible (first | refine after_nil ?_ | refine after_next ?_ | refine after_ret ?_ | refine after_brk ?_ | refine after_cont ?_)) | (try dsimp only [List.cons_append, List.nil_append])) | ((with_reducible show wpAny _ _ (subscriptTail (PySem.Expr.Subscript _ _ _) (PySem.Expr.Name _ _) (Value.ref _) (Value.int _ _)) _ _ _); ((k_dflt ((refine' item_is ?k1 ?k3 ?k4 ?k5 ?_ ?k6); (case k1 => assumption); (case k5 => assumption); (case k3 => omega); (case k4 => omega); (case k6 => with_unfolding_all rfl))))) | ((with_reducible show wpAny _ _ (subscriptTail (PySem.Expr.Name _ _) (PySem.Expr.Name _ _) (Value.ref _) (Value.int _ _)) _ _ _); ((k_dflt first | ((refine' item_is ?k1 ?k3 ?k4 ?k5 ?_ ?k6); (case k1 => with_reducible assumption); (case k5 => with_reducible assumption); (case k3 => omega); (case k4 => omega); (case k6 => with_unfolding_all rfl)) | ((refine' item_at ?k1 ?k2 ?k3 ?k4 ?k5 ?_ ?k6); (case k1 => k_asm); (case k5 => assumption); (case k2 => k_mem); (case k3 => omega); (case k4 => omega); (case k6 => with_unfolding_all rfl))))) | ((with_reducible show wpAny _ _ (exec _ _) _ _ _); first | ((with_reducible show wpAny _ _ (exec (Stmt.For _ (PySem.Expr.Call _ _ _ _) _ _ _) _) _ _ _); ((k_dflt (refine for_stop ?_)))) | ((with_reducible show wpAny _ _ (exec (Stmt.Assign _ (PySem.Expr.ListComp _ _ _ _) _) _) _ _ _); ((with_reducible rename InLoop => lp9; refine Halt.of ?_))) | ((with_reducible show wpAny _ _ (exec (Stmt.For _ _ _ _ _) _) _ _ _); ((k_dflt (refine for_stop ?_)))) | ((with_reducible show wpAny _ _ (exec (Stmt.If _ _ _ _) _) _ _ _); (refine wpAny_If ?_))) | ((with_reducible show wpAny _ _ (compareOp CmpOp.NotEq (Value.ref _) (Value.ref _)) _ _ _); (refine Halt.of ?_)) | ((with_reducible show wpAny _ _ (call (Value.builtin "len") _ _) _ _ _); ((k_dflt (refine' len_ws ?l1 ?l2 ?l3 ?_); (case l1 => exact News.isList (by assumption) (by k_mem)); (case l2 => assumption); (case l3 => omega)))) | ((with_reducible show wpAny _ _ (call (Value.ref _) _ _) _ _ _); (refine Halt.of ?_)) | ((with_reducible show wpAny _ _ (execs (_ :: _) _) _ _ _); ((refine execs_f ?_; intro qk))) | ((with_reducible show wpAny _ _ (eval (PySem.Expr.ListComp _ _ _ _) _) _ _ _); (refine Halt.of ?_)) | ((with_reducible show wpAny _ _ (pyIter (Value.ref _)) _ _ _); ((k_dflt (refine it_stop ?_)))) | ((with_reducible show LCt.CompSrcT _ _ _ _ _ _ _ _ _ _ _ _ _ _ _); (((with_reducible rename InLoop => lp9); refine Halt.of ?_))) | ((with_reducible show wpAny _ _ (storeName _ _ _) _ _ _); ((k_dflt (refine' store_f ?F ?N ?b ?a ?_; (case F => k_asm); (case N => k_asm); (case b => rfl); (case a => rfl); k_whole; intro m' h' F' N'; (try k_sweep))))) | (k_end; wrow_close) | walk1 | dsimp only | (leave1; try dsimp only)))
  refine Halt.mk ?_
  k_dflt (refine ListComp_S (by k_asm) (by with_unfolding_all rfl) (by decide) (by rfl) (by decide) (by rfl) ?_)
  (repeat' (first | ((try k_unmd); k_unfold; first | (with_reducible (first | refine after_nil ?_ | refine after_next ?_ | refine after_ret ?_ | refine after_brk ?_ | refine after_cont ?_)) | (try dsimp only [List.cons_append, List.nil_append])) | ((with_reducible show wpAny _ _ (subscriptTail (PySem.Expr.Subscript _ _ _) (PySem.Expr.Name _ _) (Value.ref _) (Value.int _ _)) _ _ _); ((k_dflt ((refine' item_is ?k1 ?k3 ?k4 ?k5 ?_ ?k6); (case k1 => assumption); (case k5 => assumption); (case k3 => omega); (case k4 => omega); (case k6 => with_unfolding_all rfl))))) | ((with_reducible show wpAny _ _ (subscriptTail (PySem.Expr.Name _ _) (PySem.Expr.Name _ _) (Value.ref _) (Value.int _ _)) _ _ _); ((k_dflt first | ((refine' item_is ?k1 ?k3 ?k4 ?k5 ?_ ?k6); (case k1 => with_reducible assumption); (case k5 => with_reducible assumption); (case k3 => omega); (case k4 => omega); (case k6 => with_unfolding_all rfl)) | ((refine' item_at ?k1 ?k2 ?k3 ?k4 ?k5 ?_ ?k6); (case k1 => k_asm); (case k5 => assumption); (case k2 => k_mem); (case k3 => omega); (case k4 => omega); (case k6 => with_unfolding_all rfl))))) | ((with_reducible show wpAny _ _ (exec _ _) _ _ _); first | ((with_reducible show wpAny _ _ (exec (Stmt.For _ (PySem.Expr.Call _ _ _ _) _ _ _) _) _ _ _); ((k_dflt (refine for_stop ?_)))) | ((with_reducible show wpAny _ _ (exec (Stmt.Assign _ (PySem.Expr.ListComp _ _ _ _) _) _) _ _ _); ((with_reducible rename InLoop => lp9; refine Halt.of ?_))) | ((with_reducible show wpAny _ _ (exec (Stmt.For _ _ _ _ _) _) _ _ _); ((k_dflt (refine for_stop ?_)))) | ((with_reducible show wpAny _ _ (exec (Stmt.If _ _ _ _) _) _ _ _); (refine wpAny_If ?_))) | ((with_reducible show wpAny _ _ (compareOp CmpOp.NotEq (Value.ref _) (Value.ref _)) _ _ _); (refine Halt.of ?_)) | ((with_reducible show wpAny _ _ (call (Value.builtin "len") _ _) _ _ _); ((k_dflt (refine' len_ws ?l1 ?l2 ?l3 ?_); (case l1 => exact News.isList (by assumption) (by k_mem)); (case l2 => assumption); (case l3 => omega)))) | ((with_reducible show wpAny _ _ (call (Value.ref _) _ _) _ _ _); (refine Halt.of ?_)) | ((with_reducible show wpAny _ _ (execs (_ :: _) _) _ _ _); ((refine execs_f ?_; intro qk))) | ((with_reducible show wpAny _ _ (eval (PySem.Expr.ListComp _ _ _ _) _) _ _ _); (refine Halt.of ?_)) | ((with_reducible show wpAny _ _ (pyIter (Value.ref _)) _ _ _); ((k_dflt (refine it_stop ?_)))) | ((with_reducible show LCt.CompSrcT _ _ _ _ _ _ _ _ _ _ _ _ _ _ _); (((with_reducible rename InLoop => lp9); refine Halt.of ?_))) | ((with_reducible show wpAny _ _ (storeName _ _ _) _ _ _); ((k_dflt (refine' store_f ?F ?N ?b ?a ?_; (case F => k_asm); (case N => k_asm); (case b => rfl); (case a => rfl); k_whole; intro m' h' F' N'; (try k_sweep))))) | (k_end; wrow_close) | walk1 | dsimp only | (leave1; try dsimp only)))
  (rename Are _ _ _ => hA)
  have hrl := rows_len ns
  have hwl := hA.length
  (rename Fr _ _ _ _ => F9)
  (rename News _ _ _ _ => N9)
  refine srcS_str (rowsF ns) nameS rfl F9 N9 (.inr ⟨_, by k_mem, rfl, _, rfl⟩) (by rw [sizeLine_eq, List.size_toArray]; omega) hG rfl (by rw [List.size_toArray]; exact hwl.symm) (fun i v hv => hA.at i v (by simpa using hv)) ?_ ?_
  · clear F9 N9
    intro a v ys I oI C oC D m₂ s1 E' ha hv hC hx F N hG1 hos1
    refine hideG ?_
    intro q0
    obtain ⟨b1, ws1, n1, rfl, hb1, hIb⟩ := hv
    obtain ⟨hbo, hln⟩ := rows_ok ha
    obtain ⟨h1, g1, d1, k1, o1⟩ := s1
    dsimp only at F N hG1 hos1
    subst hos1
    have hlb : Heap.IsList h1 b1 (List.toArray ws1) := ⟨_, (N (b1, { cls := .type "list", data := .seq (List.toArray ws1) n1 }) (by repeat' (first | exact hb1 | exact List.mem_append_left _ hb1 | apply List.Mem.tail | apply List.mem_append_right))).1, rfl, _, rfl⟩
    show wpAny _ _ _ _ _ _
    k_fold
    (repeat' (first | ((try k_unmd); k_unfold; first | (with_reducible (first | refine after_nil ?_ | refine after_next ?_ | refine after_ret ?_ | refine after_brk ?_ | refine after_cont ?_)) | (try dsimp only [List.cons_append, List.nil_append])) | ((with_reducible show wpAny _ _ (subscriptTail (PySem.Expr.Subscript _ _ _) (PySem.Expr.Name _ _) (Value.ref _) (Value.int _ _)) _ _ _); ((k_dflt ((refine' item_is ?k1 ?k3 ?k4 ?k5 ?_ ?k6); (case k1 => assumption); (case k5 => assumption); (case k3 => omega); (case k4 => omega); (case k6 => with_unfolding_all rfl))))) | ((with_reducible show wpAny _ _ (subscriptTail (PySem.Expr.Name _ _) (PySem.Expr.Name _ _) (Value.ref _) (Value.int _ _)) _ _ _); ((k_dflt first | ((refine' item_is ?k1 ?k3 ?k4 ?k5 ?_ ?k6); (case k1 => with_reducible assumption); (case k5 => with_reducible assumption); (case k3 => omega); (case k4 => omega); (case k6 => with_unfolding_all rfl)) | ((refine' item_at ?k1 ?k2 ?k3 ?k4 ?k5 ?_ ?k6); (case k1 => k_asm); (case k5 => assumption); (case k2 => k_mem); (case k3 => omega); (case k4 => omega); (case k6 => with_unfolding_all rfl))))) | ((with_reducible show wpAny _ _ (exec _ _) _ _ _); first | ((with_reducible show wpAny _ _ (exec (Stmt.For _ (PySem.Expr.Call _ _ _ _) _ _ _) _) _ _ _); ((k_dflt (refine for_stop ?_)))) | ((with_reducible show wpAny _ _ (exec (Stmt.Assign _ (PySem.Expr.ListComp _ _ _ _) _) _) _ _ _); ((with_reducible rename InLoop => lp9; refine Halt.of ?_))) | ((with_reducible show wpAny _ _ (exec (Stmt.For _ _ _ _ _) _) _ _ _); ((k_dflt (refine for_stop ?_)))) | ((with_reducible show wpAny _ _ (exec (Stmt.If _ _ _ _) _) _ _ _); (refine wpAny_If ?_))) | ((with_reducible show wpAny _ _ (compareOp CmpOp.NotEq (Value.ref _) (Value.ref _)) _ _ _); (refine Halt.of ?_)) | ((with_reducible show wpAny _ _ (call (Value.builtin "len") _ _) _ _ _); ((k_dflt (refine' len_ws ?l1 ?l2 ?l3 ?_); (case l1 => exact News.isList (by assumption) (by k_mem)); (case l2 => assumption); (case l3 => omega)))) | ((with_reducible show wpAny _ _ (call (Value.ref _) _ _) _ _ _); (refine Halt.of ?_)) | ((with_reducible show wpAny _ _ (execs (_ :: _) _) _ _ _); ((refine execs_f ?_; intro qk))) | ((with_reducible show wpAny _ _ (eval (PySem.Expr.ListComp _ _ _ _) _) _ _ _); (refine Halt.of ?_)) | ((with_reducible show wpAny _ _ (pyIter (Value.ref _)) _ _ _); ((k_dflt (refine it_stop ?_)))) | ((with_reducible show LCt.CompSrcT _ _ _ _ _ _ _ _ _ _ _ _ _ _ _); (((with_reducible rename InLoop => lp9); refine Halt.of ?_))) | ((with_reducible show wpAny _ _ (storeName _ _ _) _ _ _); ((k_dflt (refine' store_f ?F ?N ?b ?a ?_; (case F => k_asm); (case N => k_asm); (case b => rfl); (case a => rfl); k_whole; intro m' h' F' N'; (try k_sweep))))) | (k_end; wrow_close) | walk1 | dsimp only | (leave1; try dsimp only)))
    refine Halt.mk ?_
    refine' c_name ?cx ?ct ?ch ?cr ?cu _ _ _ ?cb ?cn ?cl ?ci ?_
    (case cx => ((first | assumption | exact Frag.In.keeps (by assumption) (Fr.keep (by assumption)))))
    (case ct => ((first | assumption | exact Top.keeps (by assumption) (Fr.keep (by assumption)))))
    (case ch => with_unfolding_all rfl)
    (case cr => (first | (simp +zetaDelta only [depth_deeper, units_deeper]; omega) | (simp +zetaDelta only [depth_deeper, units_deeper, callerA]; decide)))
    (case cu => (first | (simp +zetaDelta only [depth_deeper, units_deeper]; omega) | (simp +zetaDelta only [depth_deeper, units_deeper, callerA]; decide)))
    (case cb => assumption)
    (case cn => assumption)
    (case cl => (first | assumption | (((rename Fr _ _ _ _ => F9); exact Heap.IsList.at (by assumption) fun o e => F9.keep _ o e))))
    (case ci => assumption)
    intro t9 h9 tk9 hx9
    (((rename Fr _ _ _ _ => F9); (rename News _ _ _ _ => N9); (rename Ext _ _ => hx9); (have F8 := fr_ext F9 hx9); (have N8 := news_ext N9 hx9); clear F9 N9 hx9; (try dsimp only); (try k_fold)))
    (repeat' (first | ((try k_unmd); k_unfold; first | (with_reducible (first | refine after_nil ?_ | refine after_next ?_ | refine after_ret ?_ | refine after_brk ?_ | refine after_cont ?_)) | (try dsimp only [List.cons_append, List.nil_append])) | ((with_reducible show wpAny _ _ (subscriptTail (PySem.Expr.Subscript _ _ _) (PySem.Expr.Name _ _) (Value.ref _) (Value.int _ _)) _ _ _); ((k_dflt ((refine' item_is ?k1 ?k3 ?k4 ?k5 ?_ ?k6); (case k1 => assumption); (case k5 => assumption); (case k3 => omega); (case k4 => omega); (case k6 => with_unfolding_all rfl))))) | ((with_reducible show wpAny _ _ (subscriptTail (PySem.Expr.Name _ _) (PySem.Expr.Name _ _) (Value.ref _) (Value.int _ _)) _ _ _); ((k_dflt first | ((refine' item_is ?k1 ?k3 ?k4 ?k5 ?_ ?k6); (case k1 => with_reducible assumption); (case k5 => with_reducible assumption); (case k3 => omega); (case k4 => omega); (case k6 => with_unfolding_all rfl)) | ((refine' item_at ?k1 ?k2 ?k3 ?k4 ?k5 ?_ ?k6); (case k1 => k_asm); (case k5 => assumption); (case k2 => k_mem); (case k3 => omega); (case k4 => omega); (case k6 => with_unfolding_all rfl))))) | ((with_reducible show wpAny _ _ (exec _ _) _ _ _); first | ((with_reducible show wpAny _ _ (exec (Stmt.For _ (PySem.Expr.Call _ _ _ _) _ _ _) _) _ _ _); ((k_dflt (refine for_stop ?_)))) | ((with_reducible show wpAny _ _ (exec (Stmt.Assign _ (PySem.Expr.ListComp _ _ _ _) _) _) _ _ _); ((with_reducible rename InLoop => lp9; refine Halt.of ?_))) | ((with_reducible show wpAny _ _ (exec (Stmt.For _ _ _ _ _) _) _ _ _); ((k_dflt (refine for_stop ?_)))) | ((with_reducible show wpAny _ _ (exec (Stmt.If _ _ _ _) _) _ _ _); (refine wpAny_If ?_))) | ((with_reducible show wpAny _ _ (compareOp CmpOp.NotEq (Value.ref _) (Value.ref _)) _ _ _); (refine Halt.of ?_)) | ((with_reducible show wpAny _ _ (call (Value.builtin "len") _ _) _ _ _); ((k_dflt (refine' len_ws ?l1 ?l2 ?l3 ?_); (case l1 => exact News.isList (by assumption) (by k_mem)); (case l2 => assumption); (case l3 => omega)))) | ((with_reducible show wpAny _ _ (call (Value.ref _) _ _) _ _ _); (refine Halt.of ?_)) | ((with_reducible show wpAny _ _ (execs (_ :: _) _) _ _ _); ((refine execs_f ?_; intro qk))) | ((with_reducible show wpAny _ _ (eval (PySem.Expr.ListComp _ _ _ _) _) _ _ _); (refine Halt.of ?_)) | ((with_reducible show wpAny _ _ (pyIter (Value.ref _)) _ _ _); ((k_dflt (refine it_stop ?_)))) | ((with_reducible show LCt.CompSrcT _ _ _ _ _ _ _ _ _ _ _ _ _ _ _); (((with_reducible rename InLoop => lp9); refine Halt.of ?_))) | ((with_reducible show wpAny _ _ (storeName _ _ _) _ _ _); ((k_dflt (refine' store_f ?F ?N ?b ?a ?_; (case F => k_asm); (case N => k_asm); (case b => rfl); (case a => rfl); k_whole; intro m' h' F' N'; (try k_sweep))))) | (k_end; wrow_close) | walk1 | dsimp only | (leave1; try dsimp only)))
    (rename Fr _ _ _ _ => F7)
    (rename News _ _ _ _ => N7)
    exact ⟨⟨_, rfl⟩, F7, N7, hG1, rfl⟩
  clear F9 N9
  intro ysN DN s1 hN F N o1 hG1 hos1 htk
  refine hideG ?_
  intro q0
  obtain ⟨h1, g1, d1, k1, o1⟩ := s1
  dsimp only at F N hG1 hos1
  subst hos1
  have SN := hN.strs
  clear hG
  simp only [LCg.Off1] at o1
  repeat (rcases o1 with ⟨_, o1⟩)
  (try k_unmd)
  k_unfold
  (repeat' (first | ((try k_unmd); k_unfold; first | (with_reducible (first | refine after_nil ?_ | refine after_next ?_ | refine after_ret ?_ | refine after_brk ?_ | refine after_cont ?_)) | (try dsimp only [List.cons_append, List.nil_append])) | ((with_reducible show wpAny _ _ (subscriptTail (PySem.Expr.Subscript _ _ _) (PySem.Expr.Name _ _) (Value.ref _) (Value.int _ _)) _ _ _); ((k_dflt ((refine' item_is ?k1 ?k3 ?k4 ?k5 ?_ ?k6); (case k1 => assumption); (case k5 => assumption); (case k3 => omega); (case k4 => omega); (case k6 => with_unfolding_all rfl))))) | ((with_reducible show wpAny _ _ (subscriptTail (PySem.Expr.Name _ _) (PySem.Expr.Name _ _) (Value.ref _) (Value.int _ _)) _ _ _); ((k_dflt first | ((refine' item_is ?k1 ?k3 ?k4 ?k5 ?_ ?k6); (case k1 => with_reducible assumption); (case k5 => with_reducible assumption); (case k3 => omega); (case k4 => omega); (case k6 => with_unfolding_all rfl)) | ((refine' item_at ?k1 ?k2 ?k3 ?k4 ?k5 ?_ ?k6); (case k1 => k_asm); (case k5 => assumption); (case k2 => k_mem); (case k3 => omega); (case k4 => omega); (case k6 => with_unfolding_all rfl))))) | ((with_reducible show wpAny _ _ (exec _ _) _ _ _); first | ((with_reducible show wpAny _ _ (exec (Stmt.For _ (PySem.Expr.Call _ _ _ _) _ _ _) _) _ _ _); ((k_dflt (refine for_stop ?_)))) | ((with_reducible show wpAny _ _ (exec (Stmt.Assign _ (PySem.Expr.ListComp _ _ _ _) _) _) _ _ _); ((with_reducible rename InLoop => lp9; refine Halt.of ?_))) | ((with_reducible show wpAny _ _ (exec (Stmt.For _ _ _ _ _) _) _ _ _); ((k_dflt (refine for_stop ?_)))) | ((with_reducible show wpAny _ _ (exec (Stmt.If _ _ _ _) _) _ _ _); (refine wpAny_If ?_))) | ((with_reducible show wpAny _ _ (compareOp CmpOp.NotEq (Value.ref _) (Value.ref _)) _ _ _); (refine Halt.of ?_)) | ((with_reducible show wpAny _ _ (call (Value.builtin "len") _ _) _ _ _); ((k_dflt (refine' len_ws ?l1 ?l2 ?l3 ?_); (case l1 => exact News.isList (by assumption) (by k_mem)); (case l2 => assumption); (case l3 => omega)))) | ((with_reducible show wpAny _ _ (call (Value.ref _) _ _) _ _ _); (refine Halt.of ?_)) | ((with_reducible show wpAny _ _ (execs (_ :: _) _) _ _ _); ((refine execs_f ?_; intro qk))) | ((with_reducible show wpAny _ _ (eval (PySem.Expr.ListComp _ _ _ _) _) _ _ _); (refine Halt.of ?_)) | ((with_reducible show wpAny _ _ (pyIter (Value.ref _)) _ _ _); ((k_dflt (refine it_stop ?_)))) | ((with_reducible show LCt.CompSrcT _ _ _ _ _ _ _ _ _ _ _ _ _ _ _); (((with_reducible rename InLoop => lp9); refine Halt.of ?_))) | ((with_reducible show wpAny _ _ (storeName _ _ _) _ _ _); ((k_dflt (refine' store_f ?F ?N ?b ?a ?_; (case F => k_asm); (case N => k_asm); (case b => rfl); (case a => rfl); k_whole; intro m' h' F' N'; (try k_sweep))))) | (k_end; wrow_close) | walk1 | dsimp only | (leave1; try dsimp only)))
  refine Halt.mk ?_
  k_dflt (refine ListComp_S (by k_asm) (by with_unfolding_all rfl) (by decide) (by rfl) (by decide) (by rfl) ?_)
  (repeat' (first | ((try k_unmd); k_unfold; first | (with_reducible (first | refine after_nil ?_ | refine after_next ?_ | refine after_ret ?_ | refine after_brk ?_ | refine after_cont ?_)) | (try dsimp only [List.cons_append, List.nil_append])) | ((with_reducible show wpAny _ _ (subscriptTail (PySem.Expr.Subscript _ _ _) (PySem.Expr.Name _ _) (Value.ref _) (Value.int _ _)) _ _ _); ((k_dflt ((refine' item_is ?k1 ?k3 ?k4 ?k5 ?_ ?k6); (case k1 => assumption); (case k5 => assumption); (case k3 => omega); (case k4 => omega); (case k6 => with_unfolding_all rfl))))) | ((with_reducible show wpAny _ _ (subscriptTail (PySem.Expr.Name _ _) (PySem.Expr.Name _ _) (Value.ref _) (Value.int _ _)) _ _ _); ((k_dflt first | ((refine' item_is ?k1 ?k3 ?k4 ?k5 ?_ ?k6); (case k1 => with_reducible assumption); (case k5 => with_reducible assumption); (case k3 => omega); (case k4 => omega); (case k6 => with_unfolding_all rfl)) | ((refine' item_at ?k1 ?k2 ?k3 ?k4 ?k5 ?_ ?k6); (case k1 => k_asm); (case k5 => assumption); (case k2 => k_mem); (case k3 => omega); (case k4 => omega); (case k6 => with_unfolding_all rfl))))) | ((with_reducible show wpAny _ _ (exec _ _) _ _ _); first | ((with_reducible show wpAny _ _ (exec (Stmt.For _ (PySem.Expr.Call _ _ _ _) _ _ _) _) _ _ _); ((k_dflt (refine for_stop ?_)))) | ((with_reducible show wpAny _ _ (exec (Stmt.Assign _ (PySem.Expr.ListComp _ _ _ _) _) _) _ _ _); ((with_reducible rename InLoop => lp9; refine Halt.of ?_))) | ((with_reducible show wpAny _ _ (exec (Stmt.For _ _ _ _ _) _) _ _ _); ((k_dflt (refine for_stop ?_)))) | ((with_reducible show wpAny _ _ (exec (Stmt.If _ _ _ _) _) _ _ _); (refine wpAny_If ?_))) | ((with_reducible show wpAny _ _ (compareOp CmpOp.NotEq (Value.ref _) (Value.ref _)) _ _ _); (refine Halt.of ?_)) | ((with_reducible show wpAny _ _ (call (Value.builtin "len") _ _) _ _ _); ((k_dflt (refine' len_ws ?l1 ?l2 ?l3 ?_); (case l1 => exact News.isList (by assumption) (by k_mem)); (case l2 => assumption); (case l3 => omega)))) | ((with_reducible show wpAny _ _ (call (Value.ref _) _ _) _ _ _); (refine Halt.of ?_)) | ((with_reducible show wpAny _ _ (execs (_ :: _) _) _ _ _); ((refine execs_f ?_; intro qk))) | ((with_reducible show wpAny _ _ (eval (PySem.Expr.ListComp _ _ _ _) _) _ _ _); (refine Halt.of ?_)) | ((with_reducible show wpAny _ _ (pyIter (Value.ref _)) _ _ _); ((k_dflt (refine it_stop ?_)))) | ((with_reducible show LCt.CompSrcT _ _ _ _ _ _ _ _ _ _ _ _ _ _ _); (((with_reducible rename InLoop => lp9); refine Halt.of ?_))) | ((with_reducible show wpAny _ _ (storeName _ _ _) _ _ _); ((k_dflt (refine' store_f ?F ?N ?b ?a ?_; (case F => k_asm); (case N => k_asm); (case b => rfl); (case a => rfl); k_whole; intro m' h' F' N'; (try k_sweep))))) | (k_end; wrow_close) | walk1 | dsimp only | (leave1; try dsimp only)))
  (rename Fr _ _ _ _ => F9)
  (rename News _ _ _ _ => N9)
  refine srcS_str (rowsF ns) nameS rfl F9 N9 (.inr ⟨_, by k_mem, rfl, _, rfl⟩) (by rw [sizeLine_eq, List.size_toArray]; omega) hG1 rfl (by rw [List.size_toArray]; exact hwl.symm) (fun i v hv => hA.at i v (by simpa using hv)) ?_ ?_
  · clear F9 N9 hG1
    intro a v ys I oI C oC D m₂ s1 E' ha hv hC hx F N hG1 hos1
    refine hideG ?_
    intro q0
    obtain ⟨b1, ws1, n1, rfl, hb1, hIb⟩ := hv
    obtain ⟨hbo, hln⟩ := rows_ok ha
    obtain ⟨h1, g1, d1, k1, o1⟩ := s1
    dsimp only at F N hG1 hos1
    subst hos1
    have hlb : Heap.IsList h1 b1 (List.toArray ws1) := ⟨_, (N (b1, { cls := .type "list", data := .seq (List.toArray ws1) n1 }) (by repeat' (first | exact hb1 | exact List.mem_append_left _ hb1 | apply List.Mem.tail | apply List.mem_append_right))).1, rfl, _, rfl⟩
    show wpAny _ _ _ _ _ _
    k_fold
    (repeat' (first | ((try k_unmd); k_unfold; first | (with_reducible (first | refine after_nil ?_ | refine after_next ?_ | refine after_ret ?_ | refine after_brk ?_ | refine after_cont ?_)) | (try dsimp only [List.cons_append, List.nil_append])) | ((with_reducible show wpAny _ _ (subscriptTail (PySem.Expr.Subscript _ _ _) (PySem.Expr.Name _ _) (Value.ref _) (Value.int _ _)) _ _ _); ((k_dflt ((refine' item_is ?k1 ?k3 ?k4 ?k5 ?_ ?k6); (case k1 => assumption); (case k5 => assumption); (case k3 => omega); (case k4 => omega); (case k6 => with_unfolding_all rfl))))) | ((with_reducible show wpAny _ _ (subscriptTail (PySem.Expr.Name _ _) (PySem.Expr.Name _ _) (Value.ref _) (Value.int _ _)) _ _ _); ((k_dflt first | ((refine' item_is ?k1 ?k3 ?k4 ?k5 ?_ ?k6); (case k1 => with_reducible assumption); (case k5 => with_reducible assumption); (case k3 => omega); (case k4 => omega); (case k6 => with_unfolding_all rfl)) | ((refine' item_at ?k1 ?k2 ?k3 ?k4 ?k5 ?_ ?k6); (case k1 => k_asm); (case k5 => assumption); (case k2 => k_mem); (case k3 => omega); (case k4 => omega); (case k6 => with_unfolding_all rfl))))) | ((with_reducible show wpAny _ _ (exec _ _) _ _ _); first | ((with_reducible show wpAny _ _ (exec (Stmt.For _ (PySem.Expr.Call _ _ _ _) _ _ _) _) _ _ _); ((k_dflt (refine for_stop ?_)))) | ((with_reducible show wpAny _ _ (exec (Stmt.Assign _ (PySem.Expr.ListComp _ _ _ _) _) _) _ _ _); ((with_reducible rename InLoop => lp9; refine Halt.of ?_))) | ((with_reducible show wpAny _ _ (exec (Stmt.For _ _ _ _ _) _) _ _ _); ((k_dflt (refine for_stop ?_)))) | ((with_reducible show wpAny _ _ (exec (Stmt.If _ _ _ _) _) _ _ _); (refine wpAny_If ?_))) | ((with_reducible show wpAny _ _ (compareOp CmpOp.NotEq (Value.ref _) (Value.ref _)) _ _ _); (refine Halt.of ?_)) | ((with_reducible show wpAny _ _ (call (Value.builtin "len") _ _) _ _ _); ((k_dflt (refine' len_ws ?l1 ?l2 ?l3 ?_); (case l1 => exact News.isList (by assumption) (by k_mem)); (case l2 => assumption); (case l3 => omega)))) | ((with_reducible show wpAny _ _ (call (Value.ref _) _ _) _ _ _); (refine Halt.of ?_)) | ((with_reducible show wpAny _ _ (execs (_ :: _) _) _ _ _); ((refine execs_f ?_; intro qk))) | ((with_reducible show wpAny _ _ (eval (PySem.Expr.ListComp _ _ _ _) _) _ _ _); (refine Halt.of ?_)) | ((with_reducible show wpAny _ _ (pyIter (Value.ref _)) _ _ _); ((k_dflt (refine it_stop ?_)))) | ((with_reducible show LCt.CompSrcT _ _ _ _ _ _ _ _ _ _ _ _ _ _ _); (((with_reducible rename InLoop => lp9); refine Halt.of ?_))) | ((with_reducible show wpAny _ _ (storeName _ _ _) _ _ _); ((k_dflt (refine' store_f ?F ?N ?b ?a ?_; (case F => k_asm); (case N => k_asm); (case b => rfl); (case a => rfl); k_whole; intro m' h' F' N'; (try k_sweep))))) | (k_end; wrow_close) | walk1 | dsimp only | (leave1; try dsimp only)))
    refine Halt.mk ?_
    refine' c_plain ?cx ?ct ?ch ?cr ?cu _ _ _ ?cb ?cn ?cl ?ci ?_
    (case cx => ((first | assumption | exact Frag.In.keeps (by assumption) (Fr.keep (by assumption)))))
    (case ct => ((first | assumption | exact Top.keeps (by assumption) (Fr.keep (by assumption)))))
    (case ch => with_unfolding_all rfl)
    (case cr => (first | (simp +zetaDelta only [depth_deeper, units_deeper]; omega) | (simp +zetaDelta only [depth_deeper, units_deeper, callerA]; decide)))
    (case cu => (first | (simp +zetaDelta only [depth_deeper, units_deeper]; omega) | (simp +zetaDelta only [depth_deeper, units_deeper, callerA]; decide)))
    (case cb => assumption)
    (case cn => assumption)
    (case cl => (first | assumption | (((rename Fr _ _ _ _ => F9); exact Heap.IsList.at (by assumption) fun o e => F9.keep _ o e))))
    (case ci => assumption)
    intro t9 h9 tk9 hx9
    (((rename Fr _ _ _ _ => F9); (rename News _ _ _ _ => N9); (rename Ext _ _ => hx9); (have F8 := fr_ext F9 hx9); (have N8 := news_ext N9 hx9); clear F9 N9 hx9; (try dsimp only); (try k_fold)))
    (repeat' (first | ((try k_unmd); k_unfold; first | (with_reducible (first | refine after_nil ?_ | refine after_next ?_ | refine after_ret ?_ | refine after_brk ?_ | refine after_cont ?_)) | (try dsimp only [List.cons_append, List.nil_append])) | ((with_reducible show wpAny _ _ (subscriptTail (PySem.Expr.Subscript _ _ _) (PySem.Expr.Name _ _) (Value.ref _) (Value.int _ _)) _ _ _); ((k_dflt ((refine' item_is ?k1 ?k3 ?k4 ?k5 ?_ ?k6); (case k1 => assumption); (case k5 => assumption); (case k3 => omega); (case k4 => omega); (case k6 => with_unfolding_all rfl))))) | ((with_reducible show wpAny _ _ (subscriptTail (PySem.Expr.Name _ _) (PySem.Expr.Name _ _) (Value.ref _) (Value.int _ _)) _ _ _); ((k_dflt first | ((refine' item_is ?k1 ?k3 ?k4 ?k5 ?_ ?k6); (case k1 => with_reducible assumption); (case k5 => with_reducible assumption); (case k3 => omega); (case k4 => omega); (case k6 => with_unfolding_all rfl)) | ((refine' item_at ?k1 ?k2 ?k3 ?k4 ?k5 ?_ ?k6); (case k1 => k_asm); (case k5 => assumption); (case k2 => k_mem); (case k3 => omega); (case k4 => omega); (case k6 => with_unfolding_all rfl))))) | ((with_reducible show wpAny _ _ (exec _ _) _ _ _); first | ((with_reducible show wpAny _ _ (exec (Stmt.For _ (PySem.Expr.Call _ _ _ _) _ _ _) _) _ _ _); ((k_dflt (refine for_stop ?_)))) | ((with_reducible show wpAny _ _ (exec (Stmt.Assign _ (PySem.Expr.ListComp _ _ _ _) _) _) _ _ _); ((with_reducible rename InLoop => lp9; refine Halt.of ?_))) | ((with_reducible show wpAny _ _ (exec (Stmt.For _ _ _ _ _) _) _ _ _); ((k_dflt (refine for_stop ?_)))) | ((with_reducible show wpAny _ _ (exec (Stmt.If _ _ _ _) _) _ _ _); (refine wpAny_If ?_))) | ((with_reducible show wpAny _ _ (compareOp CmpOp.NotEq (Value.ref _) (Value.ref _)) _ _ _); (refine Halt.of ?_)) | ((with_reducible show wpAny _ _ (call (Value.builtin "len") _ _) _ _ _); ((k_dflt (refine' len_ws ?l1 ?l2 ?l3 ?_); (case l1 => exact News.isList (by assumption) (by k_mem)); (case l2 => assumption); (case l3 => omega)))) | ((with_reducible show wpAny _ _ (call (Value.ref _) _ _) _ _ _); (refine Halt.of ?_)) | ((with_reducible show wpAny _ _ (execs (_ :: _) _) _ _ _); ((refine execs_f ?_; intro qk))) | ((with_reducible show wpAny _ _ (eval (PySem.Expr.ListComp _ _ _ _) _) _ _ _); (refine Halt.of ?_)) | ((with_reducible show wpAny _ _ (pyIter (Value.ref _)) _ _ _); ((k_dflt (refine it_stop ?_)))) | ((with_reducible show LCt.CompSrcT _ _ _ _ _ _ _ _ _ _ _ _ _ _ _); (((with_reducible rename InLoop => lp9); refine Halt.of ?_))) | ((with_reducible show wpAny _ _ (storeName _ _ _) _ _ _); ((k_dflt (refine' store_f ?F ?N ?b ?a ?_; (case F => k_asm); (case N => k_asm); (case b => rfl); (case a => rfl); k_whole; intro m' h' F' N'; (try k_sweep))))) | (k_end; wrow_close) | walk1 | dsimp only | (leave1; try dsimp only)))
    (rename Fr _ _ _ _ => F7)
    (rename News _ _ _ _ => N7)
    exact ⟨⟨_, rfl⟩, F7, N7, hG1, rfl⟩
  clear F9 N9 hG1
  intro ysP DP s2 hP F N o2 hG2 hos2 htk2
  refine hideG ?_
  intro q0
  obtain ⟨h2, g2, d2, k2, o2'⟩ := s2
  dsimp only at F N hG2 hos2 htk2
  subst hos2
  have SP := hP.strs
  simp only [LCg.Off1] at o2
  repeat (rcases o2 with ⟨_, o2⟩)
  (try k_unmd)
  k_unfold
  (repeat' (first | ((try k_unmd); k_unfold; first | (with_reducible (first | refine after_nil ?_ | refine after_next ?_ | refine after_ret ?_ | refine after_brk ?_ | refine after_cont ?_)) | (try dsimp only [List.cons_append, List.nil_append])) | ((with_reducible show wpAny _ _ (subscriptTail (PySem.Expr.Subscript _ _ _) (PySem.Expr.Name _ _) (Value.ref _) (Value.int _ _)) _ _ _); ((k_dflt ((refine' item_is ?k1 ?k3 ?k4 ?k5 ?_ ?k6); (case k1 => assumption); (case k5 => assumption); (case k3 => omega); (case k4 => omega); (case k6 => with_unfolding_all rfl))))) | ((with_reducible show wpAny _ _ (subscriptTail (PySem.Expr.Name _ _) (PySem.Expr.Name _ _) (Value.ref _) (Value.int _ _)) _ _ _); ((k_dflt first | ((refine' item_is ?k1 ?k3 ?k4 ?k5 ?_ ?k6); (case k1 => with_reducible assumption); (case k5 => with_reducible assumption); (case k3 => omega); (case k4 => omega); (case k6 => with_unfolding_all rfl)) | ((refine' item_at ?k1 ?k2 ?k3 ?k4 ?k5 ?_ ?k6); (case k1 => k_asm); (case k5 => assumption); (case k2 => k_mem); (case k3 => omega); (case k4 => omega); (case k6 => with_unfolding_all rfl))))) | ((with_reducible show wpAny _ _ (exec _ _) _ _ _); first | ((with_reducible show wpAny _ _ (exec (Stmt.For _ (PySem.Expr.Call _ _ _ _) _ _ _) _) _ _ _); ((k_dflt (refine for_stop ?_)))) | ((with_reducible show wpAny _ _ (exec (Stmt.Assign _ (PySem.Expr.ListComp _ _ _ _) _) _) _ _ _); ((with_reducible rename InLoop => lp9; refine Halt.of ?_))) | ((with_reducible show wpAny _ _ (exec (Stmt.For _ _ _ _ _) _) _ _ _); ((k_dflt (refine for_stop ?_)))) | ((with_reducible show wpAny _ _ (exec (Stmt.If _ _ _ _) _) _ _ _); (refine wpAny_If ?_))) | ((with_reducible show wpAny _ _ (compareOp CmpOp.NotEq (Value.ref _) (Value.ref _)) _ _ _); (refine Halt.of ?_)) | ((with_reducible show wpAny _ _ (call (Value.builtin "len") _ _) _ _ _); ((k_dflt (refine' len_ws ?l1 ?l2 ?l3 ?_); (case l1 => exact News.isList (by assumption) (by k_mem)); (case l2 => assumption); (case l3 => omega)))) | ((with_reducible show wpAny _ _ (call (Value.ref _) _ _) _ _ _); (refine Halt.of ?_)) | ((with_reducible show wpAny _ _ (execs (_ :: _) _) _ _ _); ((refine execs_f ?_; intro qk))) | ((with_reducible show wpAny _ _ (eval (PySem.Expr.ListComp _ _ _ _) _) _ _ _); (refine Halt.of ?_)) | ((with_reducible show wpAny _ _ (pyIter (Value.ref _)) _ _ _); ((k_dflt (refine it_stop ?_)))) | ((with_reducible show LCt.CompSrcT _ _ _ _ _ _ _ _ _ _ _ _ _ _ _); (((with_reducible rename InLoop => lp9); refine Halt.of ?_))) | ((with_reducible show wpAny _ _ (storeName _ _ _) _ _ _); ((k_dflt (refine' store_f ?F ?N ?b ?a ?_; (case F => k_asm); (case N => k_asm); (case b => rfl); (case a => rfl); k_whole; intro m' h' F' N'; (try k_sweep))))) | (k_end; wrow_close) | walk1 | dsimp only | (leave1; try dsimp only)))
  refine Halt.mk ?_
  k_dflt (refine' ne_same ?e1 ?e2 ?e3 ?e4 ?e5 ?e6 ?_)
  (case e1 => exact News.isList (by assumption) (by k_mem))
  (case e2 => assumption)
  (case e3 => exact News.isList (by assumption) (by k_mem))
  (case e4 => assumption)
  (case e5 => exact names_ok _)
  (case e6 => (first | (simp +zetaDelta only [depth_deeper, units_deeper]; omega) | (simp +zetaDelta only [depth_deeper, units_deeper, callerA]; decide)))
  (repeat' (first | ((try k_unmd); k_unfold; first | (with_reducible (first | refine after_nil ?_ | refine after_next ?_ | refine after_ret ?_ | refine after_brk ?_ | refine after_cont ?_)) | (try dsimp only [List.cons_append, List.nil_append])) | ((with_reducible show wpAny _ _ (subscriptTail (PySem.Expr.Subscript _ _ _) (PySem.Expr.Name _ _) (Value.ref _) (Value.int _ _)) _ _ _); ((k_dflt ((refine' item_is ?k1 ?k3 ?k4 ?k5 ?_ ?k6); (case k1 => assumption); (case k5 => assumption); (case k3 => omega); (case k4 => omega); (case k6 => with_unfolding_all rfl))))) | ((with_reducible show wpAny _ _ (subscriptTail (PySem.Expr.Name _ _) (PySem.Expr.Name _ _) (Value.ref _) (Value.int _ _)) _ _ _); ((k_dflt first | ((refine' item_is ?k1 ?k3 ?k4 ?k5 ?_ ?k6); (case k1 => with_reducible assumption); (case k5 => with_reducible assumption); (case k3 => omega); (case k4 => omega); (case k6 => with_unfolding_all rfl)) | ((refine' item_at ?k1 ?k2 ?k3 ?k4 ?k5 ?_ ?k6); (case k1 => k_asm); (case k5 => assumption); (case k2 => k_mem); (case k3 => omega); (case k4 => omega); (case k6 => with_unfolding_all rfl))))) | ((with_reducible show wpAny _ _ (exec _ _) _ _ _); first | ((with_reducible show wpAny _ _ (exec (Stmt.For _ (PySem.Expr.Call _ _ _ _) _ _ _) _) _ _ _); ((k_dflt (refine for_stop ?_)))) | ((with_reducible show wpAny _ _ (exec (Stmt.Assign _ (PySem.Expr.ListComp _ _ _ _) _) _) _ _ _); ((with_reducible rename InLoop => lp9; refine Halt.of ?_))) | ((with_reducible show wpAny _ _ (exec (Stmt.For _ _ _ _ _) _) _ _ _); ((k_dflt (refine for_stop ?_)))) | ((with_reducible show wpAny _ _ (exec (Stmt.If _ _ _ _) _) _ _ _); (refine wpAny_If ?_))) | ((with_reducible show wpAny _ _ (compareOp CmpOp.NotEq (Value.ref _) (Value.ref _)) _ _ _); (refine Halt.of ?_)) | ((with_reducible show wpAny _ _ (call (Value.builtin "len") _ _) _ _ _); ((k_dflt (refine' len_ws ?l1 ?l2 ?l3 ?_); (case l1 => exact News.isList (by assumption) (by k_mem)); (case l2 => assumption); (case l3 => omega)))) | ((with_reducible show wpAny _ _ (call (Value.ref _) _ _) _ _ _); (refine Halt.of ?_)) | ((with_reducible show wpAny _ _ (execs (_ :: _) _) _ _ _); ((refine execs_f ?_; intro qk))) | ((with_reducible show wpAny _ _ (eval (PySem.Expr.ListComp _ _ _ _) _) _ _ _); (refine Halt.of ?_)) | ((with_reducible show wpAny _ _ (pyIter (Value.ref _)) _ _ _); ((k_dflt (refine it_stop ?_)))) | ((with_reducible show LCt.CompSrcT _ _ _ _ _ _ _ _ _ _ _ _ _ _ _); (((with_reducible rename InLoop => lp9); refine Halt.of ?_))) | ((with_reducible show wpAny _ _ (storeName _ _ _) _ _ _); ((k_dflt (refine' store_f ?F ?N ?b ?a ?_; (case F => k_asm); (case N => k_asm); (case b => rfl); (case a => rfl); k_whole; intro m' h' F' N'; (try k_sweep))))) | (k_end; wrow_close) | walk1 | dsimp only | (leave1; try dsimp only)))
  refine Halt.mk ?_
  k_dflt (refine ListComp_S (by k_asm) (by with_unfolding_all rfl) (by decide) (by rfl) (by decide) (by rfl) ?_)
  (repeat' (first | ((try k_unmd); k_unfold; first | (with_reducible (first | refine after_nil ?_ | refine after_next ?_ | refine after_ret ?_ | refine after_brk ?_ | refine after_cont ?_)) | (try dsimp only [List.cons_append, List.nil_append])) | ((with_reducible show wpAny _ _ (subscriptTail (PySem.Expr.Subscript _ _ _) (PySem.Expr.Name _ _) (Value.ref _) (Value.int _ _)) _ _ _); ((k_dflt ((refine' item_is ?k1 ?k3 ?k4 ?k5 ?_ ?k6); (case k1 => assumption); (case k5 => assumption); (case k3 => omega); (case k4 => omega); (case k6 => with_unfolding_all rfl))))) | ((with_reducible show wpAny _ _ (subscriptTail (PySem.Expr.Name _ _) (PySem.Expr.Name _ _) (Value.ref _) (Value.int _ _)) _ _ _); ((k_dflt first | ((refine' item_is ?k1 ?k3 ?k4 ?k5 ?_ ?k6); (case k1 => with_reducible assumption); (case k5 => with_reducible assumption); (case k3 => omega); (case k4 => omega); (case k6 => with_unfolding_all rfl)) | ((refine' item_at ?k1 ?k2 ?k3 ?k4 ?k5 ?_ ?k6); (case k1 => k_asm); (case k5 => assumption); (case k2 => k_mem); (case k3 => omega); (case k4 => omega); (case k6 => with_unfolding_all rfl))))) | ((with_reducible show wpAny _ _ (exec _ _) _ _ _); first | ((with_reducible show wpAny _ _ (exec (Stmt.For _ (PySem.Expr.Call _ _ _ _) _ _ _) _) _ _ _); ((k_dflt (refine for_stop ?_)))) | ((with_reducible show wpAny _ _ (exec (Stmt.Assign _ (PySem.Expr.ListComp _ _ _ _) _) _) _ _ _); ((with_reducible rename InLoop => lp9; refine Halt.of ?_))) | ((with_reducible show wpAny _ _ (exec (Stmt.For _ _ _ _ _) _) _ _ _); ((k_dflt (refine for_stop ?_)))) | ((with_reducible show wpAny _ _ (exec (Stmt.If _ _ _ _) _) _ _ _); (refine wpAny_If ?_))) | ((with_reducible show wpAny _ _ (compareOp CmpOp.NotEq (Value.ref _) (Value.ref _)) _ _ _); (refine Halt.of ?_)) | ((with_reducible show wpAny _ _ (call (Value.builtin "len") _ _) _ _ _); ((k_dflt (refine' len_ws ?l1 ?l2 ?l3 ?_); (case l1 => exact News.isList (by assumption) (by k_mem)); (case l2 => assumption); (case l3 => omega)))) | ((with_reducible show wpAny _ _ (call (Value.ref _) _ _) _ _ _); (refine Halt.of ?_)) | ((with_reducible show wpAny _ _ (execs (_ :: _) _) _ _ _); ((refine execs_f ?_; intro qk))) | ((with_reducible show wpAny _ _ (eval (PySem.Expr.ListComp _ _ _ _) _) _ _ _); (refine Halt.of ?_)) | ((with_reducible show wpAny _ _ (pyIter (Value.ref _)) _ _ _); ((k_dflt (refine it_stop ?_)))) | ((with_reducible show LCt.CompSrcT _ _ _ _ _ _ _ _ _ _ _ _ _ _ _); (((with_reducible rename InLoop => lp9); refine Halt.of ?_))) | ((with_reducible show wpAny _ _ (storeName _ _ _) _ _ _); ((k_dflt (refine' store_f ?F ?N ?b ?a ?_; (case F => k_asm); (case N => k_asm); (case b => rfl); (case a => rfl); k_whole; intro m' h' F' N'; (try k_sweep))))) | (k_end; wrow_close) | walk1 | dsimp only | (leave1; try dsimp only)))
  refine Halt.mk ?_
  refine wpAny_growQ ?_
  refine' c_patterns ?cx ?ct ?ch ?cr ?_
  (case cx => ((first | assumption | exact Frag.In.keeps (by assumption) (Fr.keep (by assumption)))))
  (case ct => ((first | assumption | exact Top.keeps (by assumption) (Fr.keep (by assumption)))))
  (case ch => with_unfolding_all rfl)
  (case cr => (first | (simp +zetaDelta only [depth_deeper, units_deeper]; omega) | (simp +zetaDelta only [depth_deeper, units_deeper, callerA]; decide)))
  intro ws9 D9 n9 h9 tk9 hS9 hx9 hf9 he9 hge9
  refine hideG ?_
  intro q0
  dsimp only at hge9
  (rename Fr _ _ _ _ => F9)
  (rename News _ _ _ _ => N9)
  have F8 := fr_ext F9 hx9
  have N8 := news_add F9 N9 hx9 hf9 he9
  have o9 := off1_fresh N9 hf9
  simp only [LCg.Off1] at o9
  repeat (rcases o9 with ⟨_, o9⟩)
  clear F9 N9 hf9 he9
  (try k_unmd)
  k_unfold
  (try dsimp only)
  (try k_fold)
  (repeat' (first | ((try k_unmd); k_unfold; first | (with_reducible (first | refine after_nil ?_ | refine after_next ?_ | refine after_ret ?_ | refine after_brk ?_ | refine after_cont ?_)) | (try dsimp only [List.cons_append, List.nil_append])) | ((with_reducible show wpAny _ _ (subscriptTail (PySem.Expr.Subscript _ _ _) (PySem.Expr.Name _ _) (Value.ref _) (Value.int _ _)) _ _ _); ((k_dflt ((refine' item_is ?k1 ?k3 ?k4 ?k5 ?_ ?k6); (case k1 => assumption); (case k5 => assumption); (case k3 => omega); (case k4 => omega); (case k6 => with_unfolding_all rfl))))) | ((with_reducible show wpAny _ _ (subscriptTail (PySem.Expr.Name _ _) (PySem.Expr.Name _ _) (Value.ref _) (Value.int _ _)) _ _ _); ((k_dflt first | ((refine' item_is ?k1 ?k3 ?k4 ?k5 ?_ ?k6); (case k1 => with_reducible assumption); (case k5 => with_reducible assumption); (case k3 => omega); (case k4 => omega); (case k6 => with_unfolding_all rfl)) | ((refine' item_at ?k1 ?k2 ?k3 ?k4 ?k5 ?_ ?k6); (case k1 => k_asm); (case k5 => assumption); (case k2 => k_mem); (case k3 => omega); (case k4 => omega); (case k6 => with_unfolding_all rfl))))) | ((with_reducible show wpAny _ _ (exec _ _) _ _ _); first | ((with_reducible show wpAny _ _ (exec (Stmt.For _ (PySem.Expr.Call _ _ _ _) _ _ _) _) _ _ _); ((k_dflt (refine for_stop ?_)))) | ((with_reducible show wpAny _ _ (exec (Stmt.Assign _ (PySem.Expr.ListComp _ _ _ _) _) _) _ _ _); ((with_reducible rename InLoop => lp9; refine Halt.of ?_))) | ((with_reducible show wpAny _ _ (exec (Stmt.For _ _ _ _ _) _) _ _ _); ((k_dflt (refine for_stop ?_)))) | ((with_reducible show wpAny _ _ (exec (Stmt.If _ _ _ _) _) _ _ _); (refine wpAny_If ?_))) | ((with_reducible show wpAny _ _ (compareOp CmpOp.NotEq (Value.ref _) (Value.ref _)) _ _ _); (refine Halt.of ?_)) | ((with_reducible show wpAny _ _ (call (Value.builtin "len") _ _) _ _ _); ((k_dflt (refine' len_ws ?l1 ?l2 ?l3 ?_); (case l1 => exact News.isList (by assumption) (by k_mem)); (case l2 => assumption); (case l3 => omega)))) | ((with_reducible show wpAny _ _ (call (Value.ref _) _ _) _ _ _); (refine Halt.of ?_)) | ((with_reducible show wpAny _ _ (execs (_ :: _) _) _ _ _); ((refine execs_f ?_; intro qk))) | ((with_reducible show wpAny _ _ (eval (PySem.Expr.ListComp _ _ _ _) _) _ _ _); (refine Halt.of ?_)) | ((with_reducible show wpAny _ _ (pyIter (Value.ref _)) _ _ _); ((k_dflt (refine it_stop ?_)))) | ((with_reducible show LCt.CompSrcT _ _ _ _ _ _ _ _ _ _ _ _ _ _ _); (((with_reducible rename InLoop => lp9); refine Halt.of ?_))) | ((with_reducible show wpAny _ _ (storeName _ _ _) _ _ _); ((k_dflt (refine' store_f ?F ?N ?b ?a ?_; (case F => k_asm); (case N => k_asm); (case b => rfl); (case a => rfl); k_whole; intro m' h' F' N'; (try k_sweep))))) | (k_end; wrow_close) | walk1 | dsimp only | (leave1; try dsimp only)))
  (rename Fr _ _ _ _ => F9)
  (rename News _ _ _ _ => N9)
  (rename StrsAre _ pats => SPt)
  (rename (@LE.le Nat _ (k2 + 1) _) => hT0)
  (rename (_ = Data.cell (some (Value.str (Str.ofString "many") _))) => dst)
  dsimp only at dst
  have hps := (are_strs SPt).length
  have hps9 : pats.length = 9 := rfl
  refine srcS_tab (T0 := k2 + 1) rfl F9 N9 (by k_updF) (by k_mem) rfl rfl (by rw [sizeLine_eq, List.size_toArray]; omega) hG2 rfl hT0 (by rw [List.size_toArray]; omega) rfl SPt ?_ ?_
  · clear F9 N9 hG2
    intro i a p tp ys new ps I oI C1 oC D m₂ s1 E' hi ha hp hTab hC hx F N h114 hG3 hos3 hT3
    obtain ⟨h1, g1, d1, k1, o1⟩ := s1
    dsimp only at F N h114 hG3 hos3 hT3
    subst hos3
    simp only [List.cons_append] at N
    show wpAny _ _ _ _ _ _
    k_fold
    (repeat' (first | ((try k_unmd); k_unfold; first | (with_reducible (first | refine after_nil ?_ | refine after_next ?_ | refine after_ret ?_ | refine after_brk ?_ | refine after_cont ?_)) | (try dsimp only [List.cons_append, List.nil_append])) | ((with_reducible show wpAny _ _ (subscriptTail (PySem.Expr.Subscript _ _ _) (PySem.Expr.Name _ _) (Value.ref _) (Value.int _ _)) _ _ _); ((k_dflt ((refine' item_is ?k1 ?k3 ?k4 ?k5 ?_ ?k6); (case k1 => assumption); (case k5 => assumption); (case k3 => omega); (case k4 => omega); (case k6 => with_unfolding_all rfl))))) | ((with_reducible show wpAny _ _ (subscriptTail (PySem.Expr.Name _ _) (PySem.Expr.Name _ _) (Value.ref _) (Value.int _ _)) _ _ _); ((k_dflt first | ((refine' item_is ?k1 ?k3 ?k4 ?k5 ?_ ?k6); (case k1 => with_reducible assumption); (case k5 => with_reducible assumption); (case k3 => omega); (case k4 => omega); (case k6 => with_unfolding_all rfl)) | ((refine' item_at ?k1 ?k2 ?k3 ?k4 ?k5 ?_ ?k6); (case k1 => k_asm); (case k5 => assumption); (case k2 => k_mem); (case k3 => omega); (case k4 => omega); (case k6 => with_unfolding_all rfl))))) | ((with_reducible show wpAny _ _ (exec _ _) _ _ _); first | ((with_reducible show wpAny _ _ (exec (Stmt.For _ (PySem.Expr.Call _ _ _ _) _ _ _) _) _ _ _); ((k_dflt (refine for_stop ?_)))) | ((with_reducible show wpAny _ _ (exec (Stmt.Assign _ (PySem.Expr.ListComp _ _ _ _) _) _) _ _ _); ((with_reducible rename InLoop => lp9; refine Halt.of ?_))) | ((with_reducible show wpAny _ _ (exec (Stmt.For _ _ _ _ _) _) _ _ _); ((k_dflt (refine for_stop ?_)))) | ((with_reducible show wpAny _ _ (exec (Stmt.If _ _ _ _) _) _ _ _); (refine wpAny_If ?_))) | ((with_reducible show wpAny _ _ (compareOp CmpOp.NotEq (Value.ref _) (Value.ref _)) _ _ _); (refine Halt.of ?_)) | ((with_reducible show wpAny _ _ (call (Value.builtin "len") _ _) _ _ _); ((k_dflt (refine' len_ws ?l1 ?l2 ?l3 ?_); (case l1 => exact News.isList (by assumption) (by k_mem)); (case l2 => assumption); (case l3 => omega)))) | ((with_reducible show wpAny _ _ (call (Value.ref _) _ _) _ _ _); (refine Halt.of ?_)) | ((with_reducible show wpAny _ _ (execs (_ :: _) _) _ _ _); ((refine execs_f ?_; intro qk))) | ((with_reducible show wpAny _ _ (eval (PySem.Expr.ListComp _ _ _ _) _) _ _ _); (refine Halt.of ?_)) | ((with_reducible show wpAny _ _ (pyIter (Value.ref _)) _ _ _); ((k_dflt (refine it_stop ?_)))) | ((with_reducible show LCt.CompSrcT _ _ _ _ _ _ _ _ _ _ _ _ _ _ _); (((with_reducible rename InLoop => lp9); refine Halt.of ?_))) | ((with_reducible show wpAny _ _ (storeName _ _ _) _ _ _); ((k_dflt (refine' store_f ?F ?N ?b ?a ?_; (case F => k_asm); (case N => k_asm); (case b => rfl); (case a => rfl); k_whole; intro m' h' F' N'; (try k_sweep))))) | (k_end; wrow_close) | walk1 | dsimp only | (leave1; try dsimp only)))
    refine Halt.mk ?_
    refine trcall_leaf ?_
    (repeat' (first | ((try k_unmd); k_unfold; first | (with_reducible (first | refine after_nil ?_ | refine after_next ?_ | refine after_ret ?_ | refine after_brk ?_ | refine after_cont ?_)) | (try dsimp only [List.cons_append, List.nil_append])) | ((with_reducible show wpAny _ _ (subscriptTail (PySem.Expr.Subscript _ _ _) (PySem.Expr.Name _ _) (Value.ref _) (Value.int _ _)) _ _ _); ((k_dflt ((refine' item_is ?k1 ?k3 ?k4 ?k5 ?_ ?k6); (case k1 => assumption); (case k5 => assumption); (case k3 => omega); (case k4 => omega); (case k6 => with_unfolding_all rfl))))) | ((with_reducible show wpAny _ _ (subscriptTail (PySem.Expr.Name _ _) (PySem.Expr.Name _ _) (Value.ref _) (Value.int _ _)) _ _ _); ((k_dflt first | ((refine' item_is ?k1 ?k3 ?k4 ?k5 ?_ ?k6); (case k1 => with_reducible assumption); (case k5 => with_reducible assumption); (case k3 => omega); (case k4 => omega); (case k6 => with_unfolding_all rfl)) | ((refine' item_at ?k1 ?k2 ?k3 ?k4 ?k5 ?_ ?k6); (case k1 => k_asm); (case k5 => assumption); (case k2 => k_mem); (case k3 => omega); (case k4 => omega); (case k6 => with_unfolding_all rfl))))) | ((with_reducible show wpAny _ _ (exec _ _) _ _ _); first | ((with_reducible show wpAny _ _ (exec (Stmt.For _ (PySem.Expr.Call _ _ _ _) _ _ _) _) _ _ _); ((k_dflt (refine for_stop ?_)))) | ((with_reducible show wpAny _ _ (exec (Stmt.Assign _ (PySem.Expr.ListComp _ _ _ _) _) _) _ _ _); ((with_reducible rename InLoop => lp9; refine Halt.of ?_))) | ((with_reducible show wpAny _ _ (exec (Stmt.For _ _ _ _ _) _) _ _ _); ((k_dflt (refine for_stop ?_)))) | ((with_reducible show wpAny _ _ (exec (Stmt.If _ _ _ _) _) _ _ _); (refine wpAny_If ?_))) | ((with_reducible show wpAny _ _ (compareOp CmpOp.NotEq (Value.ref _) (Value.ref _)) _ _ _); (refine Halt.of ?_)) | ((with_reducible show wpAny _ _ (call (Value.builtin "len") _ _) _ _ _); ((k_dflt (refine' len_ws ?l1 ?l2 ?l3 ?_); (case l1 => exact News.isList (by assumption) (by k_mem)); (case l2 => assumption); (case l3 => omega)))) | ((with_reducible show wpAny _ _ (call (Value.ref _) _ _) _ _ _); (refine Halt.of ?_)) | ((with_reducible show wpAny _ _ (execs (_ :: _) _) _ _ _); ((refine execs_f ?_; intro qk))) | ((with_reducible show wpAny _ _ (eval (PySem.Expr.ListComp _ _ _ _) _) _ _ _); (refine Halt.of ?_)) | ((with_reducible show wpAny _ _ (pyIter (Value.ref _)) _ _ _); ((k_dflt (refine it_stop ?_)))) | ((with_reducible show LCt.CompSrcT _ _ _ _ _ _ _ _ _ _ _ _ _ _ _); (((with_reducible rename InLoop => lp9); refine Halt.of ?_))) | ((with_reducible show wpAny _ _ (storeName _ _ _) _ _ _); ((k_dflt (refine' store_f ?F ?N ?b ?a ?_; (case F => k_asm); (case N => k_asm); (case b => rfl); (case a => rfl); k_whole; intro m' h' F' N'; (try k_sweep))))) | (k_end; wrow_close) | walk1 | dsimp only | (leave1; try dsimp only)))
    (rename Fr _ _ _ _ => F7)
    exact use_translate X T C F7 (by (first | (simp +zetaDelta only [depth_deeper, units_deeper]; omega) | (simp +zetaDelta only [depth_deeper, units_deeper, callerA]; decide))) (by (first | (simp +zetaDelta only [depth_deeper, units_deeper]; omega) | (simp +zetaDelta only [depth_deeper, units_deeper, callerA]; decide))) _ _ _ (by first | omega | (dsimp only; omega)) (by first | omega | (dsimp only; omega)) (by first | omega | (dsimp only; omega)) ps h114 hG3 rfl i hi a ha p hp hTab
  clear F9 N9 hG2
  intro ysV newV psV DV s3 hTabV hV F N oV hnqV hG3 hos3 hT3
  refine hideG ?_
  intro q0
  obtain ⟨h3, g3, d3, k3, o3⟩ := s3
  dsimp only at F N hG3 hos3 hT3
  subst hos3
  simp only [List.cons_append] at N
  simp only [List.cons_append, LCg.Off1] at oV
  repeat (rcases oV with ⟨_, oV⟩)
  (try k_unmd)
  k_unfold
  have w1 : ∀ p ∈ newV, p.1 ≠ 114 := fun p hp => hnqV 114 (by simp) p hp
  have w2 : ∀ p ∈ newV, p.1 ≠ (L' + 1) := fun p hp => hnqV (L' + 1) (by simp) p hp
  have w3 : ∀ p ∈ newV, p.1 ≠ (L' + 1 + 1) := fun p hp => hnqV (L' + 1 + 1) (by simp) p hp
  have w4 : ∀ p ∈ newV, p.1 ≠ (L' + 1 + 1 + 1) := fun p hp => hnqV (L' + 1 + 1 + 1) (by simp) p hp
  have w5 : ∀ p ∈ newV, p.1 ≠ (L' + 1 + 1 + 1 + 1) := fun p hp => hnqV (L' + 1 + 1 + 1 + 1) (by simp) p hp
  have w6 : ∀ p ∈ newV, p.1 ≠ (L' + 1 + 1 + 1 + 1 + 1) := fun p hp => hnqV (L' + 1 + 1 + 1 + 1 + 1) (by simp) p hp
  (repeat' (first | ((try k_unmd); k_unfold; first | (with_reducible (first | refine after_nil ?_ | refine after_next ?_ | refine after_ret ?_ | refine after_brk ?_ | refine after_cont ?_)) | (try dsimp only [List.cons_append, List.nil_append])) | ((with_reducible show wpAny _ _ (subscriptTail (PySem.Expr.Subscript _ _ _) (PySem.Expr.Name _ _) (Value.ref _) (Value.int _ _)) _ _ _); ((k_dflt ((refine' item_is ?k1 ?k3 ?k4 ?k5 ?_ ?k6); (case k1 => assumption); (case k5 => assumption); (case k3 => omega); (case k4 => omega); (case k6 => with_unfolding_all rfl))))) | ((with_reducible show wpAny _ _ (subscriptTail (PySem.Expr.Name _ _) (PySem.Expr.Name _ _) (Value.ref _) (Value.int _ _)) _ _ _); ((k_dflt first | ((refine' item_is ?k1 ?k3 ?k4 ?k5 ?_ ?k6); (case k1 => with_reducible assumption); (case k5 => with_reducible assumption); (case k3 => omega); (case k4 => omega); (case k6 => with_unfolding_all rfl)) | ((refine' item_at ?k1 ?k2 ?k3 ?k4 ?k5 ?_ ?k6); (case k1 => k_asm); (case k5 => assumption); (case k2 => k_mem); (case k3 => omega); (case k4 => omega); (case k6 => with_unfolding_all rfl))))) | ((with_reducible show wpAny _ _ (exec _ _) _ _ _); first | ((with_reducible show wpAny _ _ (exec (Stmt.For _ (PySem.Expr.Call _ _ _ _) _ _ _) _) _ _ _); ((k_dflt (refine for_stop ?_)))) | ((with_reducible show wpAny _ _ (exec (Stmt.Assign _ (PySem.Expr.ListComp _ _ _ _) _) _) _ _ _); ((with_reducible rename InLoop => lp9; refine Halt.of ?_))) | ((with_reducible show wpAny _ _ (exec (Stmt.For _ _ _ _ _) _) _ _ _); ((k_dflt (refine for_stop ?_)))) | ((with_reducible show wpAny _ _ (exec (Stmt.If _ _ _ _) _) _ _ _); (refine wpAny_If ?_))) | ((with_reducible show wpAny _ _ (compareOp CmpOp.NotEq (Value.ref _) (Value.ref _)) _ _ _); (refine Halt.of ?_)) | ((with_reducible show wpAny _ _ (call (Value.builtin "len") _ _) _ _ _); ((k_dflt (refine' len_ws ?l1 ?l2 ?l3 ?_); (case l1 => exact News.isList (by assumption) (by k_mem)); (case l2 => assumption); (case l3 => omega)))) | ((with_reducible show wpAny _ _ (call (Value.ref _) _ _) _ _ _); (refine Halt.of ?_)) | ((with_reducible show wpAny _ _ (execs (_ :: _) _) _ _ _); ((refine execs_f ?_; intro qk))) | ((with_reducible show wpAny _ _ (eval (PySem.Expr.ListComp _ _ _ _) _) _ _ _); (refine Halt.of ?_)) | ((with_reducible show wpAny _ _ (pyIter (Value.ref _)) _ _ _); ((k_dflt (refine it_stop ?_)))) | ((with_reducible show LCt.CompSrcT _ _ _ _ _ _ _ _ _ _ _ _ _ _ _); (((with_reducible rename InLoop => lp9); refine Halt.of ?_))) | ((with_reducible show wpAny _ _ (storeName _ _ _) _ _ _); ((k_dflt (refine' store_f ?F ?N ?b ?a ?_; (case F => k_asm); (case N => k_asm); (case b => rfl); (case a => rfl); k_whole; intro m' h' F' N'; (try k_sweep))))) | (k_end; wrow_close) | walk1 | dsimp only | (leave1; try dsimp only)))
  refine Halt.mk ?_
  k_dflt (refine ListComp_S (by k_asm) (by with_unfolding_all rfl) (by decide) (by rfl) (by decide) (by rfl) ?_)
  (repeat' (first | ((try k_unmd); k_unfold; first | (with_reducible (first | refine after_nil ?_ | refine after_next ?_ | refine after_ret ?_ | refine after_brk ?_ | refine after_cont ?_)) | (try dsimp only [List.cons_append, List.nil_append])) | ((with_reducible show wpAny _ _ (subscriptTail (PySem.Expr.Subscript _ _ _) (PySem.Expr.Name _ _) (Value.ref _) (Value.int _ _)) _ _ _); ((k_dflt ((refine' item_is ?k1 ?k3 ?k4 ?k5 ?_ ?k6); (case k1 => assumption); (case k5 => assumption); (case k3 => omega); (case k4 => omega); (case k6 => with_unfolding_all rfl))))) | ((with_reducible show wpAny _ _ (subscriptTail (PySem.Expr.Name _ _) (PySem.Expr.Name _ _) (Value.ref _) (Value.int _ _)) _ _ _); ((k_dflt first | ((refine' item_is ?k1 ?k3 ?k4 ?k5 ?_ ?k6); (case k1 => with_reducible assumption); (case k5 => with_reducible assumption); (case k3 => omega); (case k4 => omega); (case k6 => with_unfolding_all rfl)) | ((refine' item_at ?k1 ?k2 ?k3 ?k4 ?k5 ?_ ?k6); (case k1 => k_asm); (case k5 => assumption); (case k2 => k_mem); (case k3 => omega); (case k4 => omega); (case k6 => with_unfolding_all rfl))))) | ((with_reducible show wpAny _ _ (exec _ _) _ _ _); first | ((with_reducible show wpAny _ _ (exec (Stmt.For _ (PySem.Expr.Call _ _ _ _) _ _ _) _) _ _ _); ((k_dflt (refine for_stop ?_)))) | ((with_reducible show wpAny _ _ (exec (Stmt.Assign _ (PySem.Expr.ListComp _ _ _ _) _) _) _ _ _); ((with_reducible rename InLoop => lp9; refine Halt.of ?_))) | ((with_reducible show wpAny _ _ (exec (Stmt.For _ _ _ _ _) _) _ _ _); ((k_dflt (refine for_stop ?_)))) | ((with_reducible show wpAny _ _ (exec (Stmt.If _ _ _ _) _) _ _ _); (refine wpAny_If ?_))) | ((with_reducible show wpAny _ _ (compareOp CmpOp.NotEq (Value.ref _) (Value.ref _)) _ _ _); (refine Halt.of ?_)) | ((with_reducible show wpAny _ _ (call (Value.builtin "len") _ _) _ _ _); ((k_dflt (refine' len_ws ?l1 ?l2 ?l3 ?_); (case l1 => exact News.isList (by assumption) (by k_mem)); (case l2 => assumption); (case l3 => omega)))) | ((with_reducible show wpAny _ _ (call (Value.ref _) _ _) _ _ _); (refine Halt.of ?_)) | ((with_reducible show wpAny _ _ (execs (_ :: _) _) _ _ _); ((refine execs_f ?_; intro qk))) | ((with_reducible show wpAny _ _ (eval (PySem.Expr.ListComp _ _ _ _) _) _ _ _); (refine Halt.of ?_)) | ((with_reducible show wpAny _ _ (pyIter (Value.ref _)) _ _ _); ((k_dflt (refine it_stop ?_)))) | ((with_reducible show LCt.CompSrcT _ _ _ _ _ _ _ _ _ _ _ _ _ _ _); (((with_reducible rename InLoop => lp9); refine Halt.of ?_))) | ((with_reducible show wpAny _ _ (storeName _ _ _) _ _ _); ((k_dflt (refine' store_f ?F ?N ?b ?a ?_; (case F => k_asm); (case N => k_asm); (case b => rfl); (case a => rfl); k_whole; intro m' h' F' N'; (try k_sweep))))) | (k_end; wrow_close) | walk1 | dsimp only | (leave1; try dsimp only)))
  (rename Fr _ _ _ _ => F9)
  (rename News _ _ _ _ => N9)
  refine srcS_objs (rowsF ns) (Ri := RowIn _) MeanOf rfl F9 N9 (.inr ⟨_, by k_mem, rfl, _, rfl⟩) (by rw [sizeLine_eq, List.size_toArray]; omega) hG3 rfl (by rw [List.size_toArray]; exact hwl.symm) (fun i v hv => hA.at i v (by simpa using hv)) ?_ ?_
  · clear F9 N9
    intro a v ys new I oI C1 oC D m₂ s1 E' ha hv hC hx F N hG1 hos1
    refine hideG ?_
    intro q0
    obtain ⟨b1, ws1, n1, rfl, hb1, hIb⟩ := hv
    obtain ⟨hbo, hln⟩ := rows_ok ha
    obtain ⟨h1, g1, d1, k1, o1⟩ := s1
    dsimp only at F N hG1 hos1
    subst hos1
    have hlb : Heap.IsList h1 b1 (List.toArray ws1) := ⟨_, (N (b1, { cls := .type "list", data := .seq (List.toArray ws1) n1 }) (List.Mem.tail _ (List.Mem.tail _ (List.Mem.tail _ (List.mem_append_left _ (by repeat' (first | exact hb1 | exact List.mem_append_left _ hb1 | apply List.Mem.tail | apply List.mem_append_right))))))).1, rfl, _, rfl⟩
    simp only [List.cons_append, List.append_assoc] at N
    show wpAny _ _ _ _ _ _
    k_fold
    (repeat' (first | ((try k_unmd); k_unfold; first | (with_reducible (first | refine after_nil ?_ | refine after_next ?_ | refine after_ret ?_ | refine after_brk ?_ | refine after_cont ?_)) | (try dsimp only [List.cons_append, List.nil_append])) | ((with_reducible show wpAny _ _ (subscriptTail (PySem.Expr.Subscript _ _ _) (PySem.Expr.Name _ _) (Value.ref _) (Value.int _ _)) _ _ _); ((k_dflt ((refine' item_is ?k1 ?k3 ?k4 ?k5 ?_ ?k6); (case k1 => assumption); (case k5 => assumption); (case k3 => omega); (case k4 => omega); (case k6 => with_unfolding_all rfl))))) | ((with_reducible show wpAny _ _ (subscriptTail (PySem.Expr.Name _ _) (PySem.Expr.Name _ _) (Value.ref _) (Value.int _ _)) _ _ _); ((k_dflt first | ((refine' item_is ?k1 ?k3 ?k4 ?k5 ?_ ?k6); (case k1 => with_reducible assumption); (case k5 => with_reducible assumption); (case k3 => omega); (case k4 => omega); (case k6 => with_unfolding_all rfl)) | ((refine' item_at ?k1 ?k2 ?k3 ?k4 ?k5 ?_ ?k6); (case k1 => k_asm); (case k5 => assumption); (case k2 => k_mem); (case k3 => omega); (case k4 => omega); (case k6 => with_unfolding_all rfl))))) | ((with_reducible show wpAny _ _ (exec _ _) _ _ _); first | ((with_reducible show wpAny _ _ (exec (Stmt.For _ (PySem.Expr.Call _ _ _ _) _ _ _) _) _ _ _); ((k_dflt (refine for_stop ?_)))) | ((with_reducible show wpAny _ _ (exec (Stmt.Assign _ (PySem.Expr.ListComp _ _ _ _) _) _) _ _ _); ((with_reducible rename InLoop => lp9; refine Halt.of ?_))) | ((with_reducible show wpAny _ _ (exec (Stmt.For _ _ _ _ _) _) _ _ _); ((k_dflt (refine for_stop ?_)))) | ((with_reducible show wpAny _ _ (exec (Stmt.If _ _ _ _) _) _ _ _); (refine wpAny_If ?_))) | ((with_reducible show wpAny _ _ (compareOp CmpOp.NotEq (Value.ref _) (Value.ref _)) _ _ _); (refine Halt.of ?_)) | ((with_reducible show wpAny _ _ (call (Value.builtin "len") _ _) _ _ _); ((k_dflt (refine' len_ws ?l1 ?l2 ?l3 ?_); (case l1 => exact News.isList (by assumption) (by k_mem)); (case l2 => assumption); (case l3 => omega)))) | ((with_reducible show wpAny _ _ (call (Value.ref _) _ _) _ _ _); (refine Halt.of ?_)) | ((with_reducible show wpAny _ _ (execs (_ :: _) _) _ _ _); ((refine execs_f ?_; intro qk))) | ((with_reducible show wpAny _ _ (eval (PySem.Expr.ListComp _ _ _ _) _) _ _ _); (refine Halt.of ?_)) | ((with_reducible show wpAny _ _ (pyIter (Value.ref _)) _ _ _); ((k_dflt (refine it_stop ?_)))) | ((with_reducible show LCt.CompSrcT _ _ _ _ _ _ _ _ _ _ _ _ _ _ _); (((with_reducible rename InLoop => lp9); refine Halt.of ?_))) | ((with_reducible show wpAny _ _ (storeName _ _ _) _ _ _); ((k_dflt (refine' store_f ?F ?N ?b ?a ?_; (case F => k_asm); (case N => k_asm); (case b => rfl); (case a => rfl); k_whole; intro m' h' F' N'; (try k_sweep))))) | (k_end; wrow_close) | walk1 | dsimp only | (leave1; try dsimp only)))
    refine Halt.mk ?_
    refine mncall_leaf ?_
    (repeat' (first | ((try k_unmd); k_unfold; first | (with_reducible (first | refine after_nil ?_ | refine after_next ?_ | refine after_ret ?_ | refine after_brk ?_ | refine after_cont ?_)) | (try dsimp only [List.cons_append, List.nil_append])) | ((with_reducible show wpAny _ _ (subscriptTail (PySem.Expr.Subscript _ _ _) (PySem.Expr.Name _ _) (Value.ref _) (Value.int _ _)) _ _ _); ((k_dflt ((refine' item_is ?k1 ?k3 ?k4 ?k5 ?_ ?k6); (case k1 => assumption); (case k5 => assumption); (case k3 => omega); (case k4 => omega); (case k6 => with_unfolding_all rfl))))) | ((with_reducible show wpAny _ _ (subscriptTail (PySem.Expr.Name _ _) (PySem.Expr.Name _ _) (Value.ref _) (Value.int _ _)) _ _ _); ((k_dflt first | ((refine' item_is ?k1 ?k3 ?k4 ?k5 ?_ ?k6); (case k1 => with_reducible assumption); (case k5 => with_reducible assumption); (case k3 => omega); (case k4 => omega); (case k6 => with_unfolding_all rfl)) | ((refine' item_at ?k1 ?k2 ?k3 ?k4 ?k5 ?_ ?k6); (case k1 => k_asm); (case k5 => assumption); (case k2 => k_mem); (case k3 => omega); (case k4 => omega); (case k6 => with_unfolding_all rfl))))) | ((with_reducible show wpAny _ _ (exec _ _) _ _ _); first | ((with_reducible show wpAny _ _ (exec (Stmt.For _ (PySem.Expr.Call _ _ _ _) _ _ _) _) _ _ _); ((k_dflt (refine for_stop ?_)))) | ((with_reducible show wpAny _ _ (exec (Stmt.Assign _ (PySem.Expr.ListComp _ _ _ _) _) _) _ _ _); ((with_reducible rename InLoop => lp9; refine Halt.of ?_))) | ((with_reducible show wpAny _ _ (exec (Stmt.For _ _ _ _ _) _) _ _ _); ((k_dflt (refine for_stop ?_)))) | ((with_reducible show wpAny _ _ (exec (Stmt.If _ _ _ _) _) _ _ _); (refine wpAny_If ?_))) | ((with_reducible show wpAny _ _ (compareOp CmpOp.NotEq (Value.ref _) (Value.ref _)) _ _ _); (refine Halt.of ?_)) | ((with_reducible show wpAny _ _ (call (Value.builtin "len") _ _) _ _ _); ((k_dflt (refine' len_ws ?l1 ?l2 ?l3 ?_); (case l1 => exact News.isList (by assumption) (by k_mem)); (case l2 => assumption); (case l3 => omega)))) | ((with_reducible show wpAny _ _ (call (Value.ref _) _ _) _ _ _); (refine Halt.of ?_)) | ((with_reducible show wpAny _ _ (execs (_ :: _) _) _ _ _); ((refine execs_f ?_; intro qk))) | ((with_reducible show wpAny _ _ (eval (PySem.Expr.ListComp _ _ _ _) _) _ _ _); (refine Halt.of ?_)) | ((with_reducible show wpAny _ _ (pyIter (Value.ref _)) _ _ _); ((k_dflt (refine it_stop ?_)))) | ((with_reducible show LCt.CompSrcT _ _ _ _ _ _ _ _ _ _ _ _ _ _ _); (((with_reducible rename InLoop => lp9); refine Halt.of ?_))) | ((with_reducible show wpAny _ _ (storeName _ _ _) _ _ _); ((k_dflt (refine' store_f ?F ?N ?b ?a ?_; (case F => k_asm); (case N => k_asm); (case b => rfl); (case a => rfl); k_whole; intro m' h' F' N'; (try k_sweep))))) | (k_end; wrow_close) | walk1 | dsimp only | (leave1; try dsimp only)))
    (rename Fr _ _ _ _ => F7)
    exact use_means X T F7 rfl (by (first | (simp +zetaDelta only [depth_deeper, units_deeper]; omega) | (simp +zetaDelta only [depth_deeper, units_deeper, callerA]; decide))) (by (first | (simp +zetaDelta only [depth_deeper, units_deeper]; omega) | (simp +zetaDelta only [depth_deeper, units_deeper, callerA]; decide))) b1 ws1 a hbo hln hlb hIb hG1 rfl
  clear F9 N9
  intro ysM newM DM s4 hMn F N oM hnqM hG4 hos4
  refine hideG ?_
  intro q0
  obtain ⟨h4, g4, d4, k4, o4⟩ := s4
  dsimp only at F N hG4 hos4
  subst hos4
  simp only [List.cons_append, List.append_assoc] at N
  simp only [List.cons_append, LCg.Off1] at oM
  repeat (rcases oM with ⟨_, oM⟩)
  (try k_unmd)
  k_unfold
  have x1 : ∀ p ∈ newM, p.1 ≠ 114 := fun p hp => hnqM 114 (by simp) p hp
  have x2 : ∀ p ∈ newM, p.1 ≠ (L' + 1) := fun p hp => hnqM (L' + 1) (by simp) p hp
  have x3 : ∀ p ∈ newM, p.1 ≠ (L' + 1 + 1) := fun p hp => hnqM (L' + 1 + 1) (by simp) p hp
  have x4 : ∀ p ∈ newM, p.1 ≠ (L' + 1 + 1 + 1) := fun p hp => hnqM (L' + 1 + 1 + 1) (by simp) p hp
  have x5 : ∀ p ∈ newM, p.1 ≠ (L' + 1 + 1 + 1 + 1) := fun p hp => hnqM (L' + 1 + 1 + 1 + 1) (by simp) p hp
  have x6 : ∀ p ∈ newM, p.1 ≠ (L' + 1 + 1 + 1 + 1 + 1) := fun p hp => hnqM (L' + 1 + 1 + 1 + 1 + 1) (by simp) p hp
  clear hnqM hnqV hG3
  (repeat' (first | ((try k_unmd); k_unfold; first | (with_reducible (first | refine after_nil ?_ | refine after_next ?_ | refine after_ret ?_ | refine after_brk ?_ | refine after_cont ?_)) | (try dsimp only [List.cons_append, List.nil_append])) | ((with_reducible show wpAny _ _ (subscriptTail (PySem.Expr.Subscript _ _ _) (PySem.Expr.Name _ _) (Value.ref _) (Value.int _ _)) _ _ _); ((k_dflt ((refine' item_is ?k1 ?k3 ?k4 ?k5 ?_ ?k6); (case k1 => assumption); (case k5 => assumption); (case k3 => omega); (case k4 => omega); (case k6 => with_unfolding_all rfl))))) | ((with_reducible show wpAny _ _ (subscriptTail (PySem.Expr.Name _ _) (PySem.Expr.Name _ _) (Value.ref _) (Value.int _ _)) _ _ _); ((k_dflt first | ((refine' item_is ?k1 ?k3 ?k4 ?k5 ?_ ?k6); (case k1 => with_reducible assumption); (case k5 => with_reducible assumption); (case k3 => omega); (case k4 => omega); (case k6 => with_unfolding_all rfl)) | ((refine' item_at ?k1 ?k2 ?k3 ?k4 ?k5 ?_ ?k6); (case k1 => k_asm); (case k5 => assumption); (case k2 => k_mem); (case k3 => omega); (case k4 => omega); (case k6 => with_unfolding_all rfl))))) | ((with_reducible show wpAny _ _ (exec _ _) _ _ _); first | ((with_reducible show wpAny _ _ (exec (Stmt.For _ (PySem.Expr.Call _ _ _ _) _ _ _) _) _ _ _); ((k_dflt (refine for_stop ?_)))) | ((with_reducible show wpAny _ _ (exec (Stmt.Assign _ (PySem.Expr.ListComp _ _ _ _) _) _) _ _ _); ((with_reducible rename InLoop => lp9; refine Halt.of ?_))) | ((with_reducible show wpAny _ _ (exec (Stmt.For _ _ _ _ _) _) _ _ _); ((k_dflt (refine for_stop ?_)))) | ((with_reducible show wpAny _ _ (exec (Stmt.If _ _ _ _) _) _ _ _); (refine wpAny_If ?_))) | ((with_reducible show wpAny _ _ (compareOp CmpOp.NotEq (Value.ref _) (Value.ref _)) _ _ _); (refine Halt.of ?_)) | ((with_reducible show wpAny _ _ (call (Value.builtin "len") _ _) _ _ _); ((k_dflt (refine' len_ws ?l1 ?l2 ?l3 ?_); (case l1 => exact News.isList (by assumption) (by k_mem)); (case l2 => assumption); (case l3 => omega)))) | ((with_reducible show wpAny _ _ (call (Value.ref _) _ _) _ _ _); (refine Halt.of ?_)) | ((with_reducible show wpAny _ _ (execs (_ :: _) _) _ _ _); ((refine execs_f ?_; intro qk))) | ((with_reducible show wpAny _ _ (eval (PySem.Expr.ListComp _ _ _ _) _) _ _ _); (refine Halt.of ?_)) | ((with_reducible show wpAny _ _ (pyIter (Value.ref _)) _ _ _); ((k_dflt (refine it_stop ?_)))) | ((with_reducible show LCt.CompSrcT _ _ _ _ _ _ _ _ _ _ _ _ _ _ _); (((with_reducible rename InLoop => lp9); refine Halt.of ?_))) | ((with_reducible show wpAny _ _ (storeName _ _ _) _ _ _); ((k_dflt (refine' store_f ?F ?N ?b ?a ?_; (case F => k_asm); (case N => k_asm); (case b => rfl); (case a => rfl); k_whole; intro m' h' F' N'; (try k_sweep))))) | (k_end; wrow_close) | walk1 | dsimp only | (leave1; try dsimp only)))
  (rename Fr _ _ _ _ => F9)
  (rename News _ _ _ _ => N9)
  (with_reducible rename IsRange _ _ _ _ _ _ _ _ => R9)
  refine iter_rangeJ (cj := L' + 1 + 1 + 1 + 1 + 1) (n := 9) rfl R9 (by decide) (by decide) F9 N9 (by k_updF) (by assumption) ?_ ?_
  · intro i t I it v1 v2 oj vj h tk hi hoj hI F N
    refine hideG ?_
    intro q0
    clear F9 N9 R9
    (try dsimp only at N)
    have hI0 := Kept.mk hI
    simp only [LCg.Off1] at hI
    repeat (rcases hI with ⟨_, hI⟩)
    have hi' : i < sievesL.length := hi
    have haS : sievesL[i]? = some sievesL[i] := by simp [hi']
    have hmS : sievesL[i] ∈ sievesL := List.getElem_mem hi'
    generalize sievesL[i] = aS at haS hmS
    obtain ⟨_, hvS, bS, _, rfl, hbS, vsS, nS, rfl, hSS⟩ := hV.get i aS haS
    have hxV : ysV[Int.toNat (0 + (i : Int))]? = some (.ref bS) := by rw [show Int.toNat (0 + (i : Int)) = i by omega]; exact hvS
    have hsg := sgfn_ok w aS hmS
    have hs8 := sieve_len aS hmS
    have lp := InLoop.mk
    show wpAny _ _ _ _ _ _
    k_fold
    (repeat' (first | ((try k_unmd); k_unfold; first | (with_reducible (first | refine after_nil ?_ | refine after_next ?_ | refine after_ret ?_ | refine after_brk ?_ | refine after_cont ?_)) | (try dsimp only [List.cons_append, List.nil_append])) | ((with_reducible show wpAny _ _ (subscriptTail (PySem.Expr.Subscript _ _ _) (PySem.Expr.Name _ _) (Value.ref _) (Value.int _ _)) _ _ _); ((k_dflt ((refine' item_is ?k1 ?k3 ?k4 ?k5 ?_ ?k6); (case k1 => assumption); (case k5 => assumption); (case k3 => omega); (case k4 => omega); (case k6 => with_unfolding_all rfl))))) | ((with_reducible show wpAny _ _ (subscriptTail (PySem.Expr.Name _ _) (PySem.Expr.Name _ _) (Value.ref _) (Value.int _ _)) _ _ _); ((k_dflt first | ((refine' item_is ?k1 ?k3 ?k4 ?k5 ?_ ?k6); (case k1 => with_reducible assumption); (case k5 => with_reducible assumption); (case k3 => omega); (case k4 => omega); (case k6 => with_unfolding_all rfl)) | ((refine' item_at ?k1 ?k2 ?k3 ?k4 ?k5 ?_ ?k6); (case k1 => k_asm); (case k5 => assumption); (case k2 => k_mem); (case k3 => omega); (case k4 => omega); (case k6 => with_unfolding_all rfl))))) | ((with_reducible show wpAny _ _ (exec _ _) _ _ _); first | ((with_reducible show wpAny _ _ (exec (Stmt.For _ (PySem.Expr.Call _ _ _ _) _ _ _) _) _ _ _); ((k_dflt (refine for_stop ?_)))) | ((with_reducible show wpAny _ _ (exec (Stmt.Assign _ (PySem.Expr.ListComp _ _ _ _) _) _) _ _ _); ((with_reducible rename InLoop => lp9; refine Halt.of ?_))) | ((with_reducible show wpAny _ _ (exec (Stmt.For _ _ _ _ _) _) _ _ _); ((k_dflt (refine for_stop ?_)))) | ((with_reducible show wpAny _ _ (exec (Stmt.If _ _ _ _) _) _ _ _); (refine wpAny_If ?_))) | ((with_reducible show wpAny _ _ (compareOp CmpOp.NotEq (Value.ref _) (Value.ref _)) _ _ _); (refine Halt.of ?_)) | ((with_reducible show wpAny _ _ (call (Value.builtin "len") _ _) _ _ _); ((k_dflt (refine' len_ws ?l1 ?l2 ?l3 ?_); (case l1 => exact News.isList (by assumption) (by k_mem)); (case l2 => assumption); (case l3 => omega)))) | ((with_reducible show wpAny _ _ (call (Value.ref _) _ _) _ _ _); (refine Halt.of ?_)) | ((with_reducible show wpAny _ _ (execs (_ :: _) _) _ _ _); ((refine execs_f ?_; intro qk))) | ((with_reducible show wpAny _ _ (eval (PySem.Expr.ListComp _ _ _ _) _) _ _ _); (refine Halt.of ?_)) | ((with_reducible show wpAny _ _ (pyIter (Value.ref _)) _ _ _); ((k_dflt (refine it_stop ?_)))) | ((with_reducible show LCt.CompSrcT _ _ _ _ _ _ _ _ _ _ _ _ _ _ _); (((with_reducible rename InLoop => lp9); refine Halt.of ?_))) | ((with_reducible show wpAny _ _ (storeName _ _ _) _ _ _); ((k_dflt (refine' store_f ?F ?N ?b ?a ?_; (case F => k_asm); (case N => k_asm); (case b => rfl); (case a => rfl); k_whole; intro m' h' F' N'; (try k_sweep))))) | (k_end; wrow_close) | walk1 | dsimp only | (leave1; try dsimp only)))
    refine Halt.mk ?_
    k_dflt (refine LCt.Assign_ListComp_T (F₀ := by k_asm) (by rfl) (by with_unfolding_all rfl) (by with_unfolding_all rfl) (by decide) (by rfl) (by decide) (by rfl) (by rfl) (by rfl) ?_)
    (repeat' (first | ((try k_unmd); k_unfold; first | (with_reducible (first | refine after_nil ?_ | refine after_next ?_ | refine after_ret ?_ | refine after_brk ?_ | refine after_cont ?_)) | (try dsimp only [List.cons_append, List.nil_append])) | ((with_reducible show wpAny _ _ (subscriptTail (PySem.Expr.Subscript _ _ _) (PySem.Expr.Name _ _) (Value.ref _) (Value.int _ _)) _ _ _); ((k_dflt ((refine' item_is ?k1 ?k3 ?k4 ?k5 ?_ ?k6); (case k1 => assumption); (case k5 => assumption); (case k3 => omega); (case k4 => omega); (case k6 => with_unfolding_all rfl))))) | ((with_reducible show wpAny _ _ (subscriptTail (PySem.Expr.Name _ _) (PySem.Expr.Name _ _) (Value.ref _) (Value.int _ _)) _ _ _); ((k_dflt first | ((refine' item_is ?k1 ?k3 ?k4 ?k5 ?_ ?k6); (case k1 => with_reducible assumption); (case k5 => with_reducible assumption); (case k3 => omega); (case k4 => omega); (case k6 => with_unfolding_all rfl)) | ((refine' item_at ?k1 ?k2 ?k3 ?k4 ?k5 ?_ ?k6); (case k1 => k_asm); (case k5 => assumption); (case k2 => k_mem); (case k3 => omega); (case k4 => omega); (case k6 => with_unfolding_all rfl))))) | ((with_reducible show wpAny _ _ (exec _ _) _ _ _); first | ((with_reducible show wpAny _ _ (exec (Stmt.For _ (PySem.Expr.Call _ _ _ _) _ _ _) _) _ _ _); ((k_dflt (refine for_stop ?_)))) | ((with_reducible show wpAny _ _ (exec (Stmt.Assign _ (PySem.Expr.ListComp _ _ _ _) _) _) _ _ _); ((with_reducible rename InLoop => lp9; refine Halt.of ?_))) | ((with_reducible show wpAny _ _ (exec (Stmt.For _ _ _ _ _) _) _ _ _); ((k_dflt (refine for_stop ?_)))) | ((with_reducible show wpAny _ _ (exec (Stmt.If _ _ _ _) _) _ _ _); (refine wpAny_If ?_))) | ((with_reducible show wpAny _ _ (compareOp CmpOp.NotEq (Value.ref _) (Value.ref _)) _ _ _); (refine Halt.of ?_)) | ((with_reducible show wpAny _ _ (call (Value.builtin "len") _ _) _ _ _); ((k_dflt (refine' len_ws ?l1 ?l2 ?l3 ?_); (case l1 => exact News.isList (by assumption) (by k_mem)); (case l2 => assumption); (case l3 => omega)))) | ((with_reducible show wpAny _ _ (call (Value.ref _) _ _) _ _ _); (refine Halt.of ?_)) | ((with_reducible show wpAny _ _ (execs (_ :: _) _) _ _ _); ((refine execs_f ?_; intro qk))) | ((with_reducible show wpAny _ _ (eval (PySem.Expr.ListComp _ _ _ _) _) _ _ _); (refine Halt.of ?_)) | ((with_reducible show wpAny _ _ (pyIter (Value.ref _)) _ _ _); ((k_dflt (refine it_stop ?_)))) | ((with_reducible show LCt.CompSrcT _ _ _ _ _ _ _ _ _ _ _ _ _ _ _); (((with_reducible rename InLoop => lp9); refine Halt.of ?_))) | ((with_reducible show wpAny _ _ (storeName _ _ _) _ _ _); ((k_dflt (refine' store_f ?F ?N ?b ?a ?_; (case F => k_asm); (case N => k_asm); (case b => rfl); (case a => rfl); k_whole; intro m' h' F' N'; (try k_sweep))))) | (k_end; wrow_close) | walk1 | dsimp only | (leave1; try dsimp only)))
    (repeat ((rename (@Ne Nat _ _) => z9); clear z9))
    (repeat ((rename (∀ p : Addr × Obj, p ∈ _ → p.1 ≠ _) => z9); clear z9))
    clear X0 T0 hP C hQ hI o1 o2 oV oM hTabV hps hps9 SP SPt hT3 htk htk2
    (repeat ((rename (LCg.Off1 _ _) => z9); clear z9))
    (repeat ((rename (Data.cell (bindC _ _ _ _) = _) => z9); clear z9))
    (repeat ((rename (_ = Data.cell (bindC _ _ _ _)) => z9); clear z9))
    (repeat ((rename (Ext _ _) => z9); clear z9))
    refine Halt.mk ?_
    (rename (_ = Data.cell (some (Value.int _ _))) => dj)
    have hNl := hN.length
    rw [List.length_map] at hNl
    (rename News _ _ _ _ => N9)
    refine LCt.CompSrcT.ledger (by rfl) (by k_asm) (by k_asm) (by k_mem) ?_ ?_
    · rw [sizeLine_eq]; simp only [List.size_toArray]; omega
    intro g'
    refine rest_T (rowsF ns) (fun os => takesF sgfn aS (codes os)) nameS (Ri := fun v os => ∃ t, v = .str (nameS os) t) (Ro := IsStr) (by rw [List.size_toArray]; exact hNl.symm) (names_src hN) (Or.inr ⟨_, by k_mem, rfl, _, rfl⟩) ?_ ?_
    · clear N9
      intro a v I1 oI1 C1 oC1 D1 m₂ ys h tk E' ha hv hC1 hx1 F N
      refine hideG ?_
      intro q0
      obtain ⟨tv, rfl⟩ := hv
      have hc20 := codes_len20 (rows_ok ha).2
      have hlS : Heap.IsList h bS (List.toArray vsS) := ⟨_, (N (bS, listOf (List.toArray vsS) nS) (by repeat' (first | exact hbS | exact List.mem_append_left _ hbS | apply List.Mem.tail | apply List.mem_append_right))).1, rfl, _, rfl⟩
      show wpAny _ _ _ _ _ _
      k_fold
      (repeat' (first | ((try k_unmd); k_unfold; first | (with_reducible (first | refine after_nil ?_ | refine after_next ?_ | refine after_ret ?_ | refine after_brk ?_ | refine after_cont ?_)) | (try dsimp only [List.cons_append, List.nil_append])) | ((with_reducible show wpAny _ _ (subscriptTail (PySem.Expr.Subscript _ _ _) (PySem.Expr.Name _ _) (Value.ref _) (Value.int _ _)) _ _ _); ((k_dflt ((refine' item_is ?k1 ?k3 ?k4 ?k5 ?_ ?k6); (case k1 => assumption); (case k5 => assumption); (case k3 => omega); (case k4 => omega); (case k6 => with_unfolding_all rfl))))) | ((with_reducible show wpAny _ _ (subscriptTail (PySem.Expr.Name _ _) (PySem.Expr.Name _ _) (Value.ref _) (Value.int _ _)) _ _ _); ((k_dflt first | ((refine' item_is ?k1 ?k3 ?k4 ?k5 ?_ ?k6); (case k1 => with_reducible assumption); (case k5 => with_reducible assumption); (case k3 => omega); (case k4 => omega); (case k6 => with_unfolding_all rfl)) | ((refine' item_at ?k1 ?k2 ?k3 ?k4 ?k5 ?_ ?k6); (case k1 => k_asm); (case k5 => assumption); (case k2 => k_mem); (case k3 => omega); (case k4 => omega); (case k6 => with_unfolding_all rfl))))) | ((with_reducible show wpAny _ _ (exec _ _) _ _ _); first | ((with_reducible show wpAny _ _ (exec (Stmt.For _ (PySem.Expr.Call _ _ _ _) _ _ _) _) _ _ _); ((k_dflt (refine for_stop ?_)))) | ((with_reducible show wpAny _ _ (exec (Stmt.Assign _ (PySem.Expr.ListComp _ _ _ _) _) _) _ _ _); ((with_reducible rename InLoop => lp9; refine Halt.of ?_))) | ((with_reducible show wpAny _ _ (exec (Stmt.For _ _ _ _ _) _) _ _ _); ((k_dflt (refine for_stop ?_)))) | ((with_reducible show wpAny _ _ (exec (Stmt.If _ _ _ _) _) _ _ _); (refine wpAny_If ?_))) | ((with_reducible show wpAny _ _ (compareOp CmpOp.NotEq (Value.ref _) (Value.ref _)) _ _ _); (refine Halt.of ?_)) | ((with_reducible show wpAny _ _ (call (Value.builtin "len") _ _) _ _ _); ((k_dflt (refine' len_ws ?l1 ?l2 ?l3 ?_); (case l1 => exact News.isList (by assumption) (by k_mem)); (case l2 => assumption); (case l3 => omega)))) | ((with_reducible show wpAny _ _ (call (Value.ref _) _ _) _ _ _); (refine Halt.of ?_)) | ((with_reducible show wpAny _ _ (execs (_ :: _) _) _ _ _); ((refine execs_f ?_; intro qk))) | ((with_reducible show wpAny _ _ (eval (PySem.Expr.ListComp _ _ _ _) _) _ _ _); (refine Halt.of ?_)) | ((with_reducible show wpAny _ _ (pyIter (Value.ref _)) _ _ _); ((k_dflt (refine it_stop ?_)))) | ((with_reducible show LCt.CompSrcT _ _ _ _ _ _ _ _ _ _ _ _ _ _ _); (((with_reducible rename InLoop => lp9); refine Halt.of ?_))) | ((with_reducible show wpAny _ _ (storeName _ _ _) _ _ _); ((k_dflt (refine' store_f ?F ?N ?b ?a ?_; (case F => k_asm); (case N => k_asm); (case b => rfl); (case a => rfl); k_whole; intro m' h' F' N'; (try k_sweep))))) | (k_end; wrow_close) | walk1 | dsimp only | (leave1; try dsimp only)))
      refine Halt.mk ?_
      refine' c_takes ?cx ?ct ?ch ?cr ?cu _ _ _ _ _ _ sgfn ?t1 ?t2 ?t3 ?t4 ?t5 ?_
      (case cx => ((first | assumption | exact Frag.In.keeps (by assumption) (Fr.keep (by assumption)))))
      (case ct => ((first | assumption | exact Top.keeps (by assumption) (Fr.keep (by assumption)))))
      (case ch => with_unfolding_all rfl)
      (case cr => (first | (simp +zetaDelta only [depth_deeper, units_deeper]; omega) | (simp +zetaDelta only [depth_deeper, units_deeper, callerA]; decide)))
      (case cu => (first | (simp +zetaDelta only [depth_deeper, units_deeper]; omega) | (simp +zetaDelta only [depth_deeper, units_deeper, callerA]; decide)))
      (case t5 => assumption)
      (case t1 => assumption)
      (case t3 => assumption)
      (case t4 => assumption)
      (case t2 => assumption)
      intro h9 tk9 hx9
      (((rename Fr _ _ _ _ => F9); (rename News _ _ _ _ => N9); (rename Ext _ _ => hx9); (have F8 := fr_ext F9 hx9); (have N8 := news_ext N9 hx9); clear F9 N9 hx9; (try dsimp only); (try k_fold)))
      (repeat' (first | ((try k_unmd); k_unfold; first | (with_reducible (first | refine after_nil ?_ | refine after_next ?_ | refine after_ret ?_ | refine after_brk ?_ | refine after_cont ?_)) | (try dsimp only [List.cons_append, List.nil_append])) | ((with_reducible show wpAny _ _ (subscriptTail (PySem.Expr.Subscript _ _ _) (PySem.Expr.Name _ _) (Value.ref _) (Value.int _ _)) _ _ _); ((k_dflt ((refine' item_is ?k1 ?k3 ?k4 ?k5 ?_ ?k6); (case k1 => assumption); (case k5 => assumption); (case k3 => omega); (case k4 => omega); (case k6 => with_unfolding_all rfl))))) | ((with_reducible show wpAny _ _ (subscriptTail (PySem.Expr.Name _ _) (PySem.Expr.Name _ _) (Value.ref _) (Value.int _ _)) _ _ _); ((k_dflt first | ((refine' item_is ?k1 ?k3 ?k4 ?k5 ?_ ?k6); (case k1 => with_reducible assumption); (case k5 => with_reducible assumption); (case k3 => omega); (case k4 => omega); (case k6 => with_unfolding_all rfl)) | ((refine' item_at ?k1 ?k2 ?k3 ?k4 ?k5 ?_ ?k6); (case k1 => k_asm); (case k5 => assumption); (case k2 => k_mem); (case k3 => omega); (case k4 => omega); (case k6 => with_unfolding_all rfl))))) | ((with_reducible show wpAny _ _ (exec _ _) _ _ _); first | ((with_reducible show wpAny _ _ (exec (Stmt.For _ (PySem.Expr.Call _ _ _ _) _ _ _) _) _ _ _); ((k_dflt (refine for_stop ?_)))) | ((with_reducible show wpAny _ _ (exec (Stmt.Assign _ (PySem.Expr.ListComp _ _ _ _) _) _) _ _ _); ((with_reducible rename InLoop => lp9; refine Halt.of ?_))) | ((with_reducible show wpAny _ _ (exec (Stmt.For _ _ _ _ _) _) _ _ _); ((k_dflt (refine for_stop ?_)))) | ((with_reducible show wpAny _ _ (exec (Stmt.If _ _ _ _) _) _ _ _); (refine wpAny_If ?_))) | ((with_reducible show wpAny _ _ (compareOp CmpOp.NotEq (Value.ref _) (Value.ref _)) _ _ _); (refine Halt.of ?_)) | ((with_reducible show wpAny _ _ (call (Value.builtin "len") _ _) _ _ _); ((k_dflt (refine' len_ws ?l1 ?l2 ?l3 ?_); (case l1 => exact News.isList (by assumption) (by k_mem)); (case l2 => assumption); (case l3 => omega)))) | ((with_reducible show wpAny _ _ (call (Value.ref _) _ _) _ _ _); (refine Halt.of ?_)) | ((with_reducible show wpAny _ _ (execs (_ :: _) _) _ _ _); ((refine execs_f ?_; intro qk))) | ((with_reducible show wpAny _ _ (eval (PySem.Expr.ListComp _ _ _ _) _) _ _ _); (refine Halt.of ?_)) | ((with_reducible show wpAny _ _ (pyIter (Value.ref _)) _ _ _); ((k_dflt (refine it_stop ?_)))) | ((with_reducible show LCt.CompSrcT _ _ _ _ _ _ _ _ _ _ _ _ _ _ _); (((with_reducible rename InLoop => lp9); refine Halt.of ?_))) | ((with_reducible show wpAny _ _ (storeName _ _ _) _ _ _); ((k_dflt (refine' store_f ?F ?N ?b ?a ?_; (case F => k_asm); (case N => k_asm); (case b => rfl); (case a => rfl); k_whole; intro m' h' F' N'; (try k_sweep))))) | (k_end; wrow_close) | walk1 | dsimp only | (leave1; try dsimp only)))
      · exact TurnE.intro (by assumption) (by assumption) (by kcf_all) ⟨by assumption, _, rfl⟩
      · exact TurnE.intro (by assumption) (by assumption) (by kcf_all) (by assumption)
    intro ysT hyT
    have ST := hyT.strs
    clear N9
    (repeat' (first | ((try k_unmd); k_unfold; first | (with_reducible (first | refine after_nil ?_ | refine after_next ?_ | refine after_ret ?_ | refine after_brk ?_ | refine after_cont ?_)) | (try dsimp only [List.cons_append, List.nil_append])) | ((with_reducible show wpAny _ _ (subscriptTail (PySem.Expr.Subscript _ _ _) (PySem.Expr.Name _ _) (Value.ref _) (Value.int _ _)) _ _ _); ((k_dflt ((refine' item_is ?k1 ?k3 ?k4 ?k5 ?_ ?k6); (case k1 => assumption); (case k5 => assumption); (case k3 => omega); (case k4 => omega); (case k6 => with_unfolding_all rfl))))) | ((with_reducible show wpAny _ _ (subscriptTail (PySem.Expr.Name _ _) (PySem.Expr.Name _ _) (Value.ref _) (Value.int _ _)) _ _ _); ((k_dflt first | ((refine' item_is ?k1 ?k3 ?k4 ?k5 ?_ ?k6); (case k1 => with_reducible assumption); (case k5 => with_reducible assumption); (case k3 => omega); (case k4 => omega); (case k6 => with_unfolding_all rfl)) | ((refine' item_at ?k1 ?k2 ?k3 ?k4 ?k5 ?_ ?k6); (case k1 => k_asm); (case k5 => assumption); (case k2 => k_mem); (case k3 => omega); (case k4 => omega); (case k6 => with_unfolding_all rfl))))) | ((with_reducible show wpAny _ _ (exec _ _) _ _ _); first | ((with_reducible show wpAny _ _ (exec (Stmt.For _ (PySem.Expr.Call _ _ _ _) _ _ _) _) _ _ _); ((k_dflt (refine for_stop ?_)))) | ((with_reducible show wpAny _ _ (exec (Stmt.Assign _ (PySem.Expr.ListComp _ _ _ _) _) _) _ _ _); ((with_reducible rename InLoop => lp9; refine Halt.of ?_))) | ((with_reducible show wpAny _ _ (exec (Stmt.For _ _ _ _ _) _) _ _ _); ((k_dflt (refine for_stop ?_)))) | ((with_reducible show wpAny _ _ (exec (Stmt.If _ _ _ _) _) _ _ _); (refine wpAny_If ?_))) | ((with_reducible show wpAny _ _ (compareOp CmpOp.NotEq (Value.ref _) (Value.ref _)) _ _ _); (refine Halt.of ?_)) | ((with_reducible show wpAny _ _ (call (Value.builtin "len") _ _) _ _ _); ((k_dflt (refine' len_ws ?l1 ?l2 ?l3 ?_); (case l1 => exact News.isList (by assumption) (by k_mem)); (case l2 => assumption); (case l3 => omega)))) | ((with_reducible show wpAny _ _ (call (Value.ref _) _ _) _ _ _); (refine Halt.of ?_)) | ((with_reducible show wpAny _ _ (execs (_ :: _) _) _ _ _); ((refine execs_f ?_; intro qk))) | ((with_reducible show wpAny _ _ (eval (PySem.Expr.ListComp _ _ _ _) _) _ _ _); (refine Halt.of ?_)) | ((with_reducible show wpAny _ _ (pyIter (Value.ref _)) _ _ _); ((k_dflt (refine it_stop ?_)))) | ((with_reducible show LCt.CompSrcT _ _ _ _ _ _ _ _ _ _ _ _ _ _ _); (((with_reducible rename InLoop => lp9); refine Halt.of ?_))) | ((with_reducible show wpAny _ _ (storeName _ _ _) _ _ _); ((k_dflt (refine' store_f ?F ?N ?b ?a ?_; (case F => k_asm); (case N => k_asm); (case b => rfl); (case a => rfl); k_whole; intro m' h' F' N'; (try k_sweep))))) | (k_end; wrow_close) | walk1 | dsimp only | (leave1; try dsimp only)))
    refine Halt.mk ?_
    k_dflt (refine LCt.Assign_ListComp_T (F₀ := by k_asm) (by rfl) (by with_unfolding_all rfl) (by with_unfolding_all rfl) (by decide) (by rfl) (by decide) (by rfl) (by rfl) (by rfl) ?_)
    (repeat' (first | ((try k_unmd); k_unfold; first | (with_reducible (first | refine after_nil ?_ | refine after_next ?_ | refine after_ret ?_ | refine after_brk ?_ | refine after_cont ?_)) | (try dsimp only [List.cons_append, List.nil_append])) | ((with_reducible show wpAny _ _ (subscriptTail (PySem.Expr.Subscript _ _ _) (PySem.Expr.Name _ _) (Value.ref _) (Value.int _ _)) _ _ _); ((k_dflt ((refine' item_is ?k1 ?k3 ?k4 ?k5 ?_ ?k6); (case k1 => assumption); (case k5 => assumption); (case k3 => omega); (case k4 => omega); (case k6 => with_unfolding_all rfl))))) | ((with_reducible show wpAny _ _ (subscriptTail (PySem.Expr.Name _ _) (PySem.Expr.Name _ _) (Value.ref _) (Value.int _ _)) _ _ _); ((k_dflt first | ((refine' item_is ?k1 ?k3 ?k4 ?k5 ?_ ?k6); (case k1 => with_reducible assumption); (case k5 => with_reducible assumption); (case k3 => omega); (case k4 => omega); (case k6 => with_unfolding_all rfl)) | ((refine' item_at ?k1 ?k2 ?k3 ?k4 ?k5 ?_ ?k6); (case k1 => k_asm); (case k5 => assumption); (case k2 => k_mem); (case k3 => omega); (case k4 => omega); (case k6 => with_unfolding_all rfl))))) | ((with_reducible show wpAny _ _ (exec _ _) _ _ _); first | ((with_reducible show wpAny _ _ (exec (Stmt.For _ (PySem.Expr.Call _ _ _ _) _ _ _) _) _ _ _); ((k_dflt (refine for_stop ?_)))) | ((with_reducible show wpAny _ _ (exec (Stmt.Assign _ (PySem.Expr.ListComp _ _ _ _) _) _) _ _ _); ((with_reducible rename InLoop => lp9; refine Halt.of ?_))) | ((with_reducible show wpAny _ _ (exec (Stmt.For _ _ _ _ _) _) _ _ _); ((k_dflt (refine for_stop ?_)))) | ((with_reducible show wpAny _ _ (exec (Stmt.If _ _ _ _) _) _ _ _); (refine wpAny_If ?_))) | ((with_reducible show wpAny _ _ (compareOp CmpOp.NotEq (Value.ref _) (Value.ref _)) _ _ _); (refine Halt.of ?_)) | ((with_reducible show wpAny _ _ (call (Value.builtin "len") _ _) _ _ _); ((k_dflt (refine' len_ws ?l1 ?l2 ?l3 ?_); (case l1 => exact News.isList (by assumption) (by k_mem)); (case l2 => assumption); (case l3 => omega)))) | ((with_reducible show wpAny _ _ (call (Value.ref _) _ _) _ _ _); (refine Halt.of ?_)) | ((with_reducible show wpAny _ _ (execs (_ :: _) _) _ _ _); ((refine execs_f ?_; intro qk))) | ((with_reducible show wpAny _ _ (eval (PySem.Expr.ListComp _ _ _ _) _) _ _ _); (refine Halt.of ?_)) | ((with_reducible show wpAny _ _ (pyIter (Value.ref _)) _ _ _); ((k_dflt (refine it_stop ?_)))) | ((with_reducible show LCt.CompSrcT _ _ _ _ _ _ _ _ _ _ _ _ _ _ _); (((with_reducible rename InLoop => lp9); refine Halt.of ?_))) | ((with_reducible show wpAny _ _ (storeName _ _ _) _ _ _); ((k_dflt (refine' store_f ?F ?N ?b ?a ?_; (case F => k_asm); (case N => k_asm); (case b => rfl); (case a => rfl); k_whole; intro m' h' F' N'; (try k_sweep))))) | (k_end; wrow_close) | walk1 | dsimp only | (leave1; try dsimp only)))
    refine Halt.mk ?_
    (rename News _ _ _ _ => N9)
    (with_reducible rename IsRange _ _ _ _ _ _ _ _ => R9)
    obtain ⟨rs1, rs2⟩ := range_small (rowsF ns).length (by omega)
    refine LCt.CompSrcT.range (n := (rowsF ns).length) (by rfl) (by k_asm) (by k_asm) R9 rs1 rs2 (by rw [sizeLine_eq]; omega) ?_
    intro g2
    refine rest_T (rangeKs 0 (rowsF ns).length) (meanAt (rowsF ns) i) (fun k => nameS ((rowsF ns).getD k.toNat [])) (Ri := IsInt) (Ro := IsStr) (by simp [rangeKs]) (fun i v hi hv => src_range i v hi hv) trivial ?_ ?_
    · clear N9 R9
      intro a v I1 oI1 C1 oC1 D1 m₂ ys h tk E' ha hv hC1 hx1 F N
      refine hideG ?_
      intro q0
      obtain ⟨tv, rfl⟩ := hv
      have hab := mem_rangeKs ha
      obtain ⟨os, hos⟩ : ∃ os, (rowsF ns)[a.toNat]? = some os := by
        have : a.toNat < (rowsF ns).length := by omega
        exact ⟨(rowsF ns)[a.toNat], by simp [this]⟩
      have hosD : (rowsF ns).getD a.toNat [] = os := by rw [List.getD_eq_getElem?_getD, hos]; rfl
      obtain ⟨_, hxM, bM, _, rfl, hbM, nM, rfl⟩ := hMn.get a.toNat os hos
      obtain ⟨_, hxN, tn, rfl⟩ := hN.get a.toNat (nameS os) (by rw [List.getElem?_map, hos]; rfl)
      have hlM : Heap.IsList h bM (List.toArray ((meansF os).map Value.bool)) := ⟨_, (N (bM, { cls := .type "list", data := .seq (List.toArray ((meansF os).map Value.bool)) nM }) (by repeat' (first | exact hbM | exact List.mem_append_left _ hbM | apply List.Mem.tail | apply List.mem_append_right))).1, rfl, _, rfl⟩
      have hlDM : Heap.IsList h DM (List.toArray ysM) := News.isList N (by k_mem)
      have hlDN : Heap.IsList h DN (List.toArray ysN) := News.isList N (by k_mem)
      have hxB : ((meansF os).map Value.bool)[Int.toNat (0 + (i : Int))]? = some (.bool (meanAt (rowsF ns) i a)) := by
        rw [show Int.toNat (0 + (i : Int)) = i by omega, List.getElem?_map]
        unfold meanAt
        rw [hosD, List.getD_eq_getElem?_getD]
        have hl9 : i < (meansF os).length := hi
        simp [hl9]
      show wpAny _ _ _ _ _ _
      k_fold
      (repeat' (first | ((try k_unmd); k_unfold; first | (with_reducible (first | refine after_nil ?_ | refine after_next ?_ | refine after_ret ?_ | refine after_brk ?_ | refine after_cont ?_)) | (try dsimp only [List.cons_append, List.nil_append])) | ((with_reducible show wpAny _ _ (subscriptTail (PySem.Expr.Subscript _ _ _) (PySem.Expr.Name _ _) (Value.ref _) (Value.int _ _)) _ _ _); ((k_dflt ((refine' item_is ?k1 ?k3 ?k4 ?k5 ?_ ?k6); (case k1 => assumption); (case k5 => assumption); (case k3 => omega); (case k4 => omega); (case k6 => with_unfolding_all rfl))))) | ((with_reducible show wpAny _ _ (subscriptTail (PySem.Expr.Name _ _) (PySem.Expr.Name _ _) (Value.ref _) (Value.int _ _)) _ _ _); ((k_dflt first | ((refine' item_is ?k1 ?k3 ?k4 ?k5 ?_ ?k6); (case k1 => with_reducible assumption); (case k5 => with_reducible assumption); (case k3 => omega); (case k4 => omega); (case k6 => with_unfolding_all rfl)) | ((refine' item_at ?k1 ?k2 ?k3 ?k4 ?k5 ?_ ?k6); (case k1 => k_asm); (case k5 => assumption); (case k2 => k_mem); (case k3 => omega); (case k4 => omega); (case k6 => with_unfolding_all rfl))))) | ((with_reducible show wpAny _ _ (exec _ _) _ _ _); first | ((with_reducible show wpAny _ _ (exec (Stmt.For _ (PySem.Expr.Call _ _ _ _) _ _ _) _) _ _ _); ((k_dflt (refine for_stop ?_)))) | ((with_reducible show wpAny _ _ (exec (Stmt.Assign _ (PySem.Expr.ListComp _ _ _ _) _) _) _ _ _); ((with_reducible rename InLoop => lp9; refine Halt.of ?_))) | ((with_reducible show wpAny _ _ (exec (Stmt.For _ _ _ _ _) _) _ _ _); ((k_dflt (refine for_stop ?_)))) | ((with_reducible show wpAny _ _ (exec (Stmt.If _ _ _ _) _) _ _ _); (refine wpAny_If ?_))) | ((with_reducible show wpAny _ _ (compareOp CmpOp.NotEq (Value.ref _) (Value.ref _)) _ _ _); (refine Halt.of ?_)) | ((with_reducible show wpAny _ _ (call (Value.builtin "len") _ _) _ _ _); ((k_dflt (refine' len_ws ?l1 ?l2 ?l3 ?_); (case l1 => exact News.isList (by assumption) (by k_mem)); (case l2 => assumption); (case l3 => omega)))) | ((with_reducible show wpAny _ _ (call (Value.ref _) _ _) _ _ _); (refine Halt.of ?_)) | ((with_reducible show wpAny _ _ (execs (_ :: _) _) _ _ _); ((refine execs_f ?_; intro qk))) | ((with_reducible show wpAny _ _ (eval (PySem.Expr.ListComp _ _ _ _) _) _ _ _); (refine Halt.of ?_)) | ((with_reducible show wpAny _ _ (pyIter (Value.ref _)) _ _ _); ((k_dflt (refine it_stop ?_)))) | ((with_reducible show LCt.CompSrcT _ _ _ _ _ _ _ _ _ _ _ _ _ _ _); (((with_reducible rename InLoop => lp9); refine Halt.of ?_))) | ((with_reducible show wpAny _ _ (storeName _ _ _) _ _ _); ((k_dflt (refine' store_f ?F ?N ?b ?a ?_; (case F => k_asm); (case N => k_asm); (case b => rfl); (case a => rfl); k_whole; intro m' h' F' N'; (try k_sweep))))) | (k_end; wrow_close) | walk1 | dsimp only | (leave1; try dsimp only)))
      · exact TurnE.intro (by assumption) (by assumption) (by kcf_all) ⟨by assumption, _, by rw [hosD]⟩
      · exact TurnE.intro (by assumption) (by assumption) (by kcf_all) (by assumption)
    intro ysU hyU
    have SU := hyU.strs
    rw [told_taken' ns i aS haS] at SU
    have hok9 := told_ok (ns := ns) (aS := aS)
    have hln9 := told_len (ns := ns) (aS := aS)
    clear N9 R9 hyU hyT
    generalize (((rowsF ns).filter fun os => takesF sgfn aS (codes os)).map nameS) = ss at ST SU hok9 hln9
    have hTl := (are_strs ST).length
    have hUl := (are_strs SU).length
    have h64T : ysT.length < 64 := by omega
    clear hN hV hMn hvS hxV hsg hs8 hSS hbS
    by_cases hss : ss = []
    · subst hss
      cases ST
      cases SU
      (repeat' (first | ((try k_unmd); k_unfold; first | (with_reducible (first | refine after_nil ?_ | refine after_next ?_ | refine after_ret ?_ | refine after_brk ?_ | refine after_cont ?_)) | (try dsimp only [List.cons_append, List.nil_append])) | ((with_reducible show wpAny _ _ (subscriptTail (PySem.Expr.Subscript _ _ _) (PySem.Expr.Name _ _) (Value.ref _) (Value.int _ _)) _ _ _); ((k_dflt ((refine' item_is ?k1 ?k3 ?k4 ?k5 ?_ ?k6); (case k1 => assumption); (case k5 => assumption); (case k3 => omega); (case k4 => omega); (case k6 => with_unfolding_all rfl))))) | ((with_reducible show wpAny _ _ (subscriptTail (PySem.Expr.Name _ _) (PySem.Expr.Name _ _) (Value.ref _) (Value.int _ _)) _ _ _); ((k_dflt first | ((refine' item_is ?k1 ?k3 ?k4 ?k5 ?_ ?k6); (case k1 => with_reducible assumption); (case k5 => with_reducible assumption); (case k3 => omega); (case k4 => omega); (case k6 => with_unfolding_all rfl)) | ((refine' item_at ?k1 ?k2 ?k3 ?k4 ?k5 ?_ ?k6); (case k1 => k_asm); (case k5 => assumption); (case k2 => k_mem); (case k3 => omega); (case k4 => omega); (case k6 => with_unfolding_all rfl))))) | ((with_reducible show wpAny _ _ (exec _ _) _ _ _); first | ((with_reducible show wpAny _ _ (exec (Stmt.For _ (PySem.Expr.Call _ _ _ _) _ _ _) _) _ _ _); ((k_dflt (refine for_stop ?_)))) | ((with_reducible show wpAny _ _ (exec (Stmt.Assign _ (PySem.Expr.ListComp _ _ _ _) _) _) _ _ _); ((with_reducible rename InLoop => lp9; refine Halt.of ?_))) | ((with_reducible show wpAny _ _ (exec (Stmt.For _ _ _ _ _) _) _ _ _); ((k_dflt (refine for_stop ?_)))) | ((with_reducible show wpAny _ _ (exec (Stmt.If _ _ _ _) _) _ _ _); (refine wpAny_If ?_))) | ((with_reducible show wpAny _ _ (compareOp CmpOp.NotEq (Value.ref _) (Value.ref _)) _ _ _); (refine Halt.of ?_)) | ((with_reducible show wpAny _ _ (call (Value.builtin "len") _ _) _ _ _); ((k_dflt (refine' len_ws ?l1 ?l2 ?l3 ?_); (case l1 => exact News.isList (by assumption) (by k_mem)); (case l2 => assumption); (case l3 => omega)))) | ((with_reducible show wpAny _ _ (call (Value.ref _) _ _) _ _ _); (refine Halt.of ?_)) | ((with_reducible show wpAny _ _ (execs (_ :: _) _) _ _ _); ((refine execs_f ?_; intro qk))) | ((with_reducible show wpAny _ _ (eval (PySem.Expr.ListComp _ _ _ _) _) _ _ _); (refine Halt.of ?_)) | ((with_reducible show wpAny _ _ (pyIter (Value.ref _)) _ _ _); ((k_dflt (refine it_stop ?_)))) | ((with_reducible show LCt.CompSrcT _ _ _ _ _ _ _ _ _ _ _ _ _ _ _); (((with_reducible rename InLoop => lp9); refine Halt.of ?_))) | ((with_reducible show wpAny _ _ (storeName _ _ _) _ _ _); ((k_dflt (refine' store_f ?F ?N ?b ?a ?_; (case F => k_asm); (case N => k_asm); (case b => rfl); (case a => rfl); k_whole; intro m' h' F' N'; (try k_sweep))))) | (k_end; wrow_close) | walk1 | dsimp only | (leave1; try dsimp only)))
      refine Halt.mk ?_
      k_dflt (refine' ne_same ?e1 ?e2 ?e3 ?e4 ?e5 ?e6 ?_)
      (case e1 => exact News.isList (by assumption) (by k_mem))
      (case e2 => exact .nil)
      (case e3 => exact News.isList (by assumption) (by k_mem))
      (case e4 => exact .nil)
      (case e5 => assumption)
      (case e6 => (first | (simp +zetaDelta only [depth_deeper, units_deeper]; omega) | (simp +zetaDelta only [depth_deeper, units_deeper, callerA]; decide)))
      (repeat' (first | ((try k_unmd); k_unfold; first | (with_reducible (first | refine after_nil ?_ | refine after_next ?_ | refine after_ret ?_ | refine after_brk ?_ | refine after_cont ?_)) | (try dsimp only [List.cons_append, List.nil_append])) | ((with_reducible show wpAny _ _ (subscriptTail (PySem.Expr.Subscript _ _ _) (PySem.Expr.Name _ _) (Value.ref _) (Value.int _ _)) _ _ _); ((k_dflt ((refine' item_is ?k1 ?k3 ?k4 ?k5 ?_ ?k6); (case k1 => assumption); (case k5 => assumption); (case k3 => omega); (case k4 => omega); (case k6 => with_unfolding_all rfl))))) | ((with_reducible show wpAny _ _ (subscriptTail (PySem.Expr.Name _ _) (PySem.Expr.Name _ _) (Value.ref _) (Value.int _ _)) _ _ _); ((k_dflt first | ((refine' item_is ?k1 ?k3 ?k4 ?k5 ?_ ?k6); (case k1 => with_reducible assumption); (case k5 => with_reducible assumption); (case k3 => omega); (case k4 => omega); (case k6 => with_unfolding_all rfl)) | ((refine' item_at ?k1 ?k2 ?k3 ?k4 ?k5 ?_ ?k6); (case k1 => k_asm); (case k5 => assumption); (case k2 => k_mem); (case k3 => omega); (case k4 => omega); (case k6 => with_unfolding_all rfl))))) | ((with_reducible show wpAny _ _ (exec _ _) _ _ _); first | ((with_reducible show wpAny _ _ (exec (Stmt.For _ (PySem.Expr.Call _ _ _ _) _ _ _) _) _ _ _); ((k_dflt (refine for_stop ?_)))) | ((with_reducible show wpAny _ _ (exec (Stmt.Assign _ (PySem.Expr.ListComp _ _ _ _) _) _) _ _ _); ((with_reducible rename InLoop => lp9; refine Halt.of ?_))) | ((with_reducible show wpAny _ _ (exec (Stmt.For _ _ _ _ _) _) _ _ _); ((k_dflt (refine for_stop ?_)))) | ((with_reducible show wpAny _ _ (exec (Stmt.If _ _ _ _) _) _ _ _); (refine wpAny_If ?_))) | ((with_reducible show wpAny _ _ (compareOp CmpOp.NotEq (Value.ref _) (Value.ref _)) _ _ _); (refine Halt.of ?_)) | ((with_reducible show wpAny _ _ (call (Value.builtin "len") _ _) _ _ _); ((k_dflt (refine' len_ws ?l1 ?l2 ?l3 ?_); (case l1 => exact News.isList (by assumption) (by k_mem)); (case l2 => assumption); (case l3 => omega)))) | ((with_reducible show wpAny _ _ (call (Value.ref _) _ _) _ _ _); (refine Halt.of ?_)) | ((with_reducible show wpAny _ _ (execs (_ :: _) _) _ _ _); ((refine execs_f ?_; intro qk))) | ((with_reducible show wpAny _ _ (eval (PySem.Expr.ListComp _ _ _ _) _) _ _ _); (refine Halt.of ?_)) | ((with_reducible show wpAny _ _ (pyIter (Value.ref _)) _ _ _); ((k_dflt (refine it_stop ?_)))) | ((with_reducible show LCt.CompSrcT _ _ _ _ _ _ _ _ _ _ _ _ _ _ _); (((with_reducible rename InLoop => lp9); refine Halt.of ?_))) | ((with_reducible show wpAny _ _ (storeName _ _ _) _ _ _); ((k_dflt (refine' store_f ?F ?N ?b ?a ?_; (case F => k_asm); (case N => k_asm); (case b => rfl); (case a => rfl); k_whole; intro m' h' F' N'; (try k_sweep))))) | (k_end; wrow_close) | walk1 | dsimp only | (leave1; try dsimp only)))
      refine Halt.mk ?_
      (rename Fr _ _ _ _ => F9)
      (rename News _ _ _ _ => N9)
      refine' c_mids0 (by assumption) (by assumption) (below_caller _) F9 N9 ?cf ?ck _ ?cm .nil (by decide) ?_
      (case cf => with_unfolding_all rfl)
      (case ck => exact nofun)
      (case cm => k_mem)
      intro t9 h9 tk9 F8 N8
      clear F9 N9
      (try dsimp only)
      (try k_fold)
      (repeat' (first | ((try k_unmd); k_unfold; first | (with_reducible (first | refine after_nil ?_ | refine after_next ?_ | refine after_ret ?_ | refine after_brk ?_ | refine after_cont ?_)) | (try dsimp only [List.cons_append, List.nil_append])) | ((with_reducible show wpAny _ _ (subscriptTail (PySem.Expr.Subscript _ _ _) (PySem.Expr.Name _ _) (Value.ref _) (Value.int _ _)) _ _ _); ((k_dflt ((refine' item_is ?k1 ?k3 ?k4 ?k5 ?_ ?k6); (case k1 => assumption); (case k5 => assumption); (case k3 => omega); (case k4 => omega); (case k6 => with_unfolding_all rfl))))) | ((with_reducible show wpAny _ _ (subscriptTail (PySem.Expr.Name _ _) (PySem.Expr.Name _ _) (Value.ref _) (Value.int _ _)) _ _ _); ((k_dflt first | ((refine' item_is ?k1 ?k3 ?k4 ?k5 ?_ ?k6); (case k1 => with_reducible assumption); (case k5 => with_reducible assumption); (case k3 => omega); (case k4 => omega); (case k6 => with_unfolding_all rfl)) | ((refine' item_at ?k1 ?k2 ?k3 ?k4 ?k5 ?_ ?k6); (case k1 => k_asm); (case k5 => assumption); (case k2 => k_mem); (case k3 => omega); (case k4 => omega); (case k6 => with_unfolding_all rfl))))) | ((with_reducible show wpAny _ _ (exec _ _) _ _ _); first | ((with_reducible show wpAny _ _ (exec (Stmt.For _ (PySem.Expr.Call _ _ _ _) _ _ _) _) _ _ _); ((k_dflt (refine for_stop ?_)))) | ((with_reducible show wpAny _ _ (exec (Stmt.Assign _ (PySem.Expr.ListComp _ _ _ _) _) _) _ _ _); ((with_reducible rename InLoop => lp9; refine Halt.of ?_))) | ((with_reducible show wpAny _ _ (exec (Stmt.For _ _ _ _ _) _) _ _ _); ((k_dflt (refine for_stop ?_)))) | ((with_reducible show wpAny _ _ (exec (Stmt.If _ _ _ _) _) _ _ _); (refine wpAny_If ?_))) | ((with_reducible show wpAny _ _ (compareOp CmpOp.NotEq (Value.ref _) (Value.ref _)) _ _ _); (refine Halt.of ?_)) | ((with_reducible show wpAny _ _ (call (Value.builtin "len") _ _) _ _ _); ((k_dflt (refine' len_ws ?l1 ?l2 ?l3 ?_); (case l1 => exact News.isList (by assumption) (by k_mem)); (case l2 => assumption); (case l3 => omega)))) | ((with_reducible show wpAny _ _ (call (Value.ref _) _ _) _ _ _); (refine Halt.of ?_)) | ((with_reducible show wpAny _ _ (execs (_ :: _) _) _ _ _); ((refine execs_f ?_; intro qk))) | ((with_reducible show wpAny _ _ (eval (PySem.Expr.ListComp _ _ _ _) _) _ _ _); (refine Halt.of ?_)) | ((with_reducible show wpAny _ _ (pyIter (Value.ref _)) _ _ _); ((k_dflt (refine it_stop ?_)))) | ((with_reducible show LCt.CompSrcT _ _ _ _ _ _ _ _ _ _ _ _ _ _ _); (((with_reducible rename InLoop => lp9); refine Halt.of ?_))) | ((with_reducible show wpAny _ _ (storeName _ _ _) _ _ _); ((k_dflt (refine' store_f ?F ?N ?b ?a ?_; (case F => k_asm); (case N => k_asm); (case b => rfl); (case a => rfl); k_whole; intro m' h' F' N'; (try k_sweep))))) | (k_end; wrow_close) | walk1 | dsimp only | (leave1; try dsimp only)))
      refine Halt.mk ?_
      refine' c_told0 ?cx ?ct ?ch ?cr ?cu _ ?c1 ?_
      (case cx => ((first | assumption | exact Frag.In.keeps (by assumption) (Fr.keep (by assumption)))))
      (case ct => ((first | assumption | exact Top.keeps (by assumption) (Fr.keep (by assumption)))))
      (case ch => with_unfolding_all rfl)
      (case cr => (first | (simp +zetaDelta only [depth_deeper, units_deeper]; omega) | (simp +zetaDelta only [depth_deeper, units_deeper, callerA]; decide)))
      (case cu => (first | (simp +zetaDelta only [depth_deeper, units_deeper]; omega) | (simp +zetaDelta only [depth_deeper, units_deeper, callerA]; decide)))
      (case c1 => exact News.isList (by assumption) (by k_mem))
      intro h9 tk9 t9 hx9
      (((rename Fr _ _ _ _ => F9); (rename News _ _ _ _ => N9); (rename Ext _ _ => hx9); (have F8 := fr_ext F9 hx9); (have N8 := news_ext N9 hx9); clear F9 N9 hx9; (try dsimp only); (try k_fold)))
      (repeat' (first | ((try k_unmd); k_unfold; first | (with_reducible (first | refine after_nil ?_ | refine after_next ?_ | refine after_ret ?_ | refine after_brk ?_ | refine after_cont ?_)) | (try dsimp only [List.cons_append, List.nil_append])) | ((with_reducible show wpAny _ _ (subscriptTail (PySem.Expr.Subscript _ _ _) (PySem.Expr.Name _ _) (Value.ref _) (Value.int _ _)) _ _ _); ((k_dflt ((refine' item_is ?k1 ?k3 ?k4 ?k5 ?_ ?k6); (case k1 => assumption); (case k5 => assumption); (case k3 => omega); (case k4 => omega); (case k6 => with_unfolding_all rfl))))) | ((with_reducible show wpAny _ _ (subscriptTail (PySem.Expr.Name _ _) (PySem.Expr.Name _ _) (Value.ref _) (Value.int _ _)) _ _ _); ((k_dflt first | ((refine' item_is ?k1 ?k3 ?k4 ?k5 ?_ ?k6); (case k1 => with_reducible assumption); (case k5 => with_reducible assumption); (case k3 => omega); (case k4 => omega); (case k6 => with_unfolding_all rfl)) | ((refine' item_at ?k1 ?k2 ?k3 ?k4 ?k5 ?_ ?k6); (case k1 => k_asm); (case k5 => assumption); (case k2 => k_mem); (case k3 => omega); (case k4 => omega); (case k6 => with_unfolding_all rfl))))) | ((with_reducible show wpAny _ _ (exec _ _) _ _ _); first | ((with_reducible show wpAny _ _ (exec (Stmt.For _ (PySem.Expr.Call _ _ _ _) _ _ _) _) _ _ _); ((k_dflt (refine for_stop ?_)))) | ((with_reducible show wpAny _ _ (exec (Stmt.Assign _ (PySem.Expr.ListComp _ _ _ _) _) _) _ _ _); ((with_reducible rename InLoop => lp9; refine Halt.of ?_))) | ((with_reducible show wpAny _ _ (exec (Stmt.For _ _ _ _ _) _) _ _ _); ((k_dflt (refine for_stop ?_)))) | ((with_reducible show wpAny _ _ (exec (Stmt.If _ _ _ _) _) _ _ _); (refine wpAny_If ?_))) | ((with_reducible show wpAny _ _ (compareOp CmpOp.NotEq (Value.ref _) (Value.ref _)) _ _ _); (refine Halt.of ?_)) | ((with_reducible show wpAny _ _ (call (Value.builtin "len") _ _) _ _ _); ((k_dflt (refine' len_ws ?l1 ?l2 ?l3 ?_); (case l1 => exact News.isList (by assumption) (by k_mem)); (case l2 => assumption); (case l3 => omega)))) | ((with_reducible show wpAny _ _ (call (Value.ref _) _ _) _ _ _); (refine Halt.of ?_)) | ((with_reducible show wpAny _ _ (execs (_ :: _) _) _ _ _); ((refine execs_f ?_; intro qk))) | ((with_reducible show wpAny _ _ (eval (PySem.Expr.ListComp _ _ _ _) _) _ _ _); (refine Halt.of ?_)) | ((with_reducible show wpAny _ _ (pyIter (Value.ref _)) _ _ _); ((k_dflt (refine it_stop ?_)))) | ((with_reducible show LCt.CompSrcT _ _ _ _ _ _ _ _ _ _ _ _ _ _ _); (((with_reducible rename InLoop => lp9); refine Halt.of ?_))) | ((with_reducible show wpAny _ _ (storeName _ _ _) _ _ _); ((k_dflt (refine' store_f ?F ?N ?b ?a ?_; (case F => k_asm); (case N => k_asm); (case b => rfl); (case a => rfl); k_whole; intro m' h' F' N'; (try k_sweep))))) | (k_end; wrow_close) | walk1 | dsimp only | (leave1; try dsimp only)))
      (rename Fr _ _ _ _ => F9)
      (rename News _ _ _ _ => N9)
      exact end_turn F9 N9 mpJ_up rfl dj (off1_all hI0.of) (by kcf_all)
    · have hpT : 0 < ysT.length := by rw [hTl]; exact List.length_pos_iff.mpr hss
      (repeat' (first | ((try k_unmd); k_unfold; first | (with_reducible (first | refine after_nil ?_ | refine after_next ?_ | refine after_ret ?_ | refine after_brk ?_ | refine after_cont ?_)) | (try dsimp only [List.cons_append, List.nil_append])) | ((with_reducible show wpAny _ _ (subscriptTail (PySem.Expr.Subscript _ _ _) (PySem.Expr.Name _ _) (Value.ref _) (Value.int _ _)) _ _ _); ((k_dflt ((refine' item_is ?k1 ?k3 ?k4 ?k5 ?_ ?k6); (case k1 => assumption); (case k5 => assumption); (case k3 => omega); (case k4 => omega); (case k6 => with_unfolding_all rfl))))) | ((with_reducible show wpAny _ _ (subscriptTail (PySem.Expr.Name _ _) (PySem.Expr.Name _ _) (Value.ref _) (Value.int _ _)) _ _ _); ((k_dflt first | ((refine' item_is ?k1 ?k3 ?k4 ?k5 ?_ ?k6); (case k1 => with_reducible assumption); (case k5 => with_reducible assumption); (case k3 => omega); (case k4 => omega); (case k6 => with_unfolding_all rfl)) | ((refine' item_at ?k1 ?k2 ?k3 ?k4 ?k5 ?_ ?k6); (case k1 => k_asm); (case k5 => assumption); (case k2 => k_mem); (case k3 => omega); (case k4 => omega); (case k6 => with_unfolding_all rfl))))) | ((with_reducible show wpAny _ _ (exec _ _) _ _ _); first | ((with_reducible show wpAny _ _ (exec (Stmt.For _ (PySem.Expr.Call _ _ _ _) _ _ _) _) _ _ _); ((k_dflt (refine for_stop ?_)))) | ((with_reducible show wpAny _ _ (exec (Stmt.Assign _ (PySem.Expr.ListComp _ _ _ _) _) _) _ _ _); ((with_reducible rename InLoop => lp9; refine Halt.of ?_))) | ((with_reducible show wpAny _ _ (exec (Stmt.For _ _ _ _ _) _) _ _ _); ((k_dflt (refine for_stop ?_)))) | ((with_reducible show wpAny _ _ (exec (Stmt.If _ _ _ _) _) _ _ _); (refine wpAny_If ?_))) | ((with_reducible show wpAny _ _ (compareOp CmpOp.NotEq (Value.ref _) (Value.ref _)) _ _ _); (refine Halt.of ?_)) | ((with_reducible show wpAny _ _ (call (Value.builtin "len") _ _) _ _ _); ((k_dflt (refine' len_ws ?l1 ?l2 ?l3 ?_); (case l1 => exact News.isList (by assumption) (by k_mem)); (case l2 => assumption); (case l3 => omega)))) | ((with_reducible show wpAny _ _ (call (Value.ref _) _ _) _ _ _); (refine Halt.of ?_)) | ((with_reducible show wpAny _ _ (execs (_ :: _) _) _ _ _); ((refine execs_f ?_; intro qk))) | ((with_reducible show wpAny _ _ (eval (PySem.Expr.ListComp _ _ _ _) _) _ _ _); (refine Halt.of ?_)) | ((with_reducible show wpAny _ _ (pyIter (Value.ref _)) _ _ _); ((k_dflt (refine it_stop ?_)))) | ((with_reducible show LCt.CompSrcT _ _ _ _ _ _ _ _ _ _ _ _ _ _ _); (((with_reducible rename InLoop => lp9); refine Halt.of ?_))) | ((with_reducible show wpAny _ _ (storeName _ _ _) _ _ _); ((k_dflt (refine' store_f ?F ?N ?b ?a ?_; (case F => k_asm); (case N => k_asm); (case b => rfl); (case a => rfl); k_whole; intro m' h' F' N'; (try k_sweep))))) | (k_end; wrow_close) | walk1 | dsimp only | (leave1; try dsimp only)))
      refine Halt.mk ?_
      k_dflt (refine' ne_same ?e1 ?e2 ?e3 ?e4 ?e5 ?e6 ?_)
      (case e1 => exact News.isList (by assumption) (by k_mem))
      (case e2 => assumption)
      (case e3 => exact News.isList (by assumption) (by k_mem))
      (case e4 => assumption)
      (case e5 => assumption)
      (case e6 => (first | (simp +zetaDelta only [depth_deeper, units_deeper]; omega) | (simp +zetaDelta only [depth_deeper, units_deeper, callerA]; decide)))
      (repeat' (first | ((try k_unmd); k_unfold; first | (with_reducible (first | refine after_nil ?_ | refine after_next ?_ | refine after_ret ?_ | refine after_brk ?_ | refine after_cont ?_)) | (try dsimp only [List.cons_append, List.nil_append])) | ((with_reducible show wpAny _ _ (subscriptTail (PySem.Expr.Subscript _ _ _) (PySem.Expr.Name _ _) (Value.ref _) (Value.int _ _)) _ _ _); ((k_dflt ((refine' item_is ?k1 ?k3 ?k4 ?k5 ?_ ?k6); (case k1 => assumption); (case k5 => assumption); (case k3 => omega); (case k4 => omega); (case k6 => with_unfolding_all rfl))))) | ((with_reducible show wpAny _ _ (subscriptTail (PySem.Expr.Name _ _) (PySem.Expr.Name _ _) (Value.ref _) (Value.int _ _)) _ _ _); ((k_dflt first | ((refine' item_is ?k1 ?k3 ?k4 ?k5 ?_ ?k6); (case k1 => with_reducible assumption); (case k5 => with_reducible assumption); (case k3 => omega); (case k4 => omega); (case k6 => with_unfolding_all rfl)) | ((refine' item_at ?k1 ?k2 ?k3 ?k4 ?k5 ?_ ?k6); (case k1 => k_asm); (case k5 => assumption); (case k2 => k_mem); (case k3 => omega); (case k4 => omega); (case k6 => with_unfolding_all rfl))))) | ((with_reducible show wpAny _ _ (exec _ _) _ _ _); first | ((with_reducible show wpAny _ _ (exec (Stmt.For _ (PySem.Expr.Call _ _ _ _) _ _ _) _) _ _ _); ((k_dflt (refine for_stop ?_)))) | ((with_reducible show wpAny _ _ (exec (Stmt.Assign _ (PySem.Expr.ListComp _ _ _ _) _) _) _ _ _); ((with_reducible rename InLoop => lp9; refine Halt.of ?_))) | ((with_reducible show wpAny _ _ (exec (Stmt.For _ _ _ _ _) _) _ _ _); ((k_dflt (refine for_stop ?_)))) | ((with_reducible show wpAny _ _ (exec (Stmt.If _ _ _ _) _) _ _ _); (refine wpAny_If ?_))) | ((with_reducible show wpAny _ _ (compareOp CmpOp.NotEq (Value.ref _) (Value.ref _)) _ _ _); (refine Halt.of ?_)) | ((with_reducible show wpAny _ _ (call (Value.builtin "len") _ _) _ _ _); ((k_dflt (refine' len_ws ?l1 ?l2 ?l3 ?_); (case l1 => exact News.isList (by assumption) (by k_mem)); (case l2 => assumption); (case l3 => omega)))) | ((with_reducible show wpAny _ _ (call (Value.ref _) _ _) _ _ _); (refine Halt.of ?_)) | ((with_reducible show wpAny _ _ (execs (_ :: _) _) _ _ _); ((refine execs_f ?_; intro qk))) | ((with_reducible show wpAny _ _ (eval (PySem.Expr.ListComp _ _ _ _) _) _ _ _); (refine Halt.of ?_)) | ((with_reducible show wpAny _ _ (pyIter (Value.ref _)) _ _ _); ((k_dflt (refine it_stop ?_)))) | ((with_reducible show LCt.CompSrcT _ _ _ _ _ _ _ _ _ _ _ _ _ _ _); (((with_reducible rename InLoop => lp9); refine Halt.of ?_))) | ((with_reducible show wpAny _ _ (storeName _ _ _) _ _ _); ((k_dflt (refine' store_f ?F ?N ?b ?a ?_; (case F => k_asm); (case N => k_asm); (case b => rfl); (case a => rfl); k_whole; intro m' h' F' N'; (try k_sweep))))) | (k_end; wrow_close) | walk1 | dsimp only | (leave1; try dsimp only)))
      refine Halt.mk ?_
      refine' c_mids ?cx ?ct ?ch ?cr ?cu _ _ _ ?c1 ?c2 ?c3 ?c4 ?_
      (case cx => ((first | assumption | exact Frag.In.keeps (by assumption) (Fr.keep (by assumption)))))
      (case ct => ((first | assumption | exact Top.keeps (by assumption) (Fr.keep (by assumption)))))
      (case ch => with_unfolding_all rfl)
      (case cr => (first | (simp +zetaDelta only [depth_deeper, units_deeper]; omega) | (simp +zetaDelta only [depth_deeper, units_deeper, callerA]; decide)))
      (case cu => (first | (simp +zetaDelta only [depth_deeper, units_deeper]; omega) | (simp +zetaDelta only [depth_deeper, units_deeper, callerA]; decide)))
      (case c1 => assumption)
      (case c2 => assumption)
      (case c3 => exact News.isList (by assumption) (by k_mem))
      (case c4 => assumption)
      intro r9 r8 u9 u8 D9 n9 h9 tk9 p9 so9 p8 so8 hx9 hf9 he9
      have lo9 := low_ok p9 so9 hss
      have hi9 := high_ok p8 so8 hss
      have ok9 := low_at p9 (by assumption)
      have ok8 := high_at p8 (by assumption)
      clear p9 so9 p8 so8
      (rename Fr _ _ _ _ => F9)
      (rename News _ _ _ _ => N9)
      have F8 := fr_ext F9 hx9
      have N8 := news_add F9 N9 hx9 hf9 he9
      clear F9 N9 hx9 hf9 he9
      (try dsimp only)
      (try k_fold)
      (repeat' (first | ((try k_unmd); k_unfold; first | (with_reducible (first | refine after_nil ?_ | refine after_next ?_ | refine after_ret ?_ | refine after_brk ?_ | refine after_cont ?_)) | (try dsimp only [List.cons_append, List.nil_append])) | ((with_reducible show wpAny _ _ (subscriptTail (PySem.Expr.Subscript _ _ _) (PySem.Expr.Name _ _) (Value.ref _) (Value.int _ _)) _ _ _); ((k_dflt ((refine' item_is ?k1 ?k3 ?k4 ?k5 ?_ ?k6); (case k1 => assumption); (case k5 => assumption); (case k3 => omega); (case k4 => omega); (case k6 => with_unfolding_all rfl))))) | ((with_reducible show wpAny _ _ (subscriptTail (PySem.Expr.Name _ _) (PySem.Expr.Name _ _) (Value.ref _) (Value.int _ _)) _ _ _); ((k_dflt first | ((refine' item_is ?k1 ?k3 ?k4 ?k5 ?_ ?k6); (case k1 => with_reducible assumption); (case k5 => with_reducible assumption); (case k3 => omega); (case k4 => omega); (case k6 => with_unfolding_all rfl)) | ((refine' item_at ?k1 ?k2 ?k3 ?k4 ?k5 ?_ ?k6); (case k1 => k_asm); (case k5 => assumption); (case k2 => k_mem); (case k3 => omega); (case k4 => omega); (case k6 => with_unfolding_all rfl))))) | ((with_reducible show wpAny _ _ (exec _ _) _ _ _); first | ((with_reducible show wpAny _ _ (exec (Stmt.For _ (PySem.Expr.Call _ _ _ _) _ _ _) _) _ _ _); ((k_dflt (refine for_stop ?_)))) | ((with_reducible show wpAny _ _ (exec (Stmt.Assign _ (PySem.Expr.ListComp _ _ _ _) _) _) _ _ _); ((with_reducible rename InLoop => lp9; refine Halt.of ?_))) | ((with_reducible show wpAny _ _ (exec (Stmt.For _ _ _ _ _) _) _ _ _); ((k_dflt (refine for_stop ?_)))) | ((with_reducible show wpAny _ _ (exec (Stmt.If _ _ _ _) _) _ _ _); (refine wpAny_If ?_))) | ((with_reducible show wpAny _ _ (compareOp CmpOp.NotEq (Value.ref _) (Value.ref _)) _ _ _); (refine Halt.of ?_)) | ((with_reducible show wpAny _ _ (call (Value.builtin "len") _ _) _ _ _); ((k_dflt (refine' len_ws ?l1 ?l2 ?l3 ?_); (case l1 => exact News.isList (by assumption) (by k_mem)); (case l2 => assumption); (case l3 => omega)))) | ((with_reducible show wpAny _ _ (call (Value.ref _) _ _) _ _ _); (refine Halt.of ?_)) | ((with_reducible show wpAny _ _ (execs (_ :: _) _) _ _ _); ((refine execs_f ?_; intro qk))) | ((with_reducible show wpAny _ _ (eval (PySem.Expr.ListComp _ _ _ _) _) _ _ _); (refine Halt.of ?_)) | ((with_reducible show wpAny _ _ (pyIter (Value.ref _)) _ _ _); ((k_dflt (refine it_stop ?_)))) | ((with_reducible show LCt.CompSrcT _ _ _ _ _ _ _ _ _ _ _ _ _ _ _); (((with_reducible rename InLoop => lp9); refine Halt.of ?_))) | ((with_reducible show wpAny _ _ (storeName _ _ _) _ _ _); ((k_dflt (refine' store_f ?F ?N ?b ?a ?_; (case F => k_asm); (case N => k_asm); (case b => rfl); (case a => rfl); k_whole; intro m' h' F' N'; (try k_sweep))))) | (k_end; wrow_close) | walk1 | dsimp only | (leave1; try dsimp only)))
      refine Halt.mk ?_
      refine' c_told ?cx ?ct ?ch ?cr ?cu _ _ _ ?c1 ?c2 ?c3 _ ?c4 ?c5 _ _ ?c6 ?c7 ?c8 ?c9 ?_
      (case cx => ((first | assumption | exact Frag.In.keeps (by assumption) (Fr.keep (by assumption)))))
      (case ct => ((first | assumption | exact Top.keeps (by assumption) (Fr.keep (by assumption)))))
      (case ch => with_unfolding_all rfl)
      (case cr => (first | (simp +zetaDelta only [depth_deeper, units_deeper]; omega) | (simp +zetaDelta only [depth_deeper, units_deeper, callerA]; decide)))
      (case cu => (first | (simp +zetaDelta only [depth_deeper, units_deeper]; omega) | (simp +zetaDelta only [depth_deeper, units_deeper, callerA]; decide)))
      (case c5 => assumption)
      (case c2 => assumption)
      (case c3 => assumption)
      (case c1 => omega)
      (case c4 => exact News.get (by assumption) (by k_mem))
      (case c6 => exact And.left (by assumption))
      (case c7 => exact And.right (by assumption))
      (case c8 => exact And.left (by assumption))
      (case c9 => exact And.right (by assumption))
      intro t9 t8 D9 n9 h9 tk9 hx9 hf9 he9
      (rename Fr _ _ _ _ => F9)
      (rename News _ _ _ _ => N9)
      have F8 := fr_ext F9 hx9
      have N8 := news_add F9 N9 hx9 hf9 he9
      clear F9 N9 hx9 hf9 he9
      (try dsimp only)
      (try k_fold)
      (repeat' (first | ((try k_unmd); k_unfold; first | (with_reducible (first | refine after_nil ?_ | refine after_next ?_ | refine after_ret ?_ | refine after_brk ?_ | refine after_cont ?_)) | (try dsimp only [List.cons_append, List.nil_append])) | ((with_reducible show wpAny _ _ (subscriptTail (PySem.Expr.Subscript _ _ _) (PySem.Expr.Name _ _) (Value.ref _) (Value.int _ _)) _ _ _); ((k_dflt ((refine' item_is ?k1 ?k3 ?k4 ?k5 ?_ ?k6); (case k1 => assumption); (case k5 => assumption); (case k3 => omega); (case k4 => omega); (case k6 => with_unfolding_all rfl))))) | ((with_reducible show wpAny _ _ (subscriptTail (PySem.Expr.Name _ _) (PySem.Expr.Name _ _) (Value.ref _) (Value.int _ _)) _ _ _); ((k_dflt first | ((refine' item_is ?k1 ?k3 ?k4 ?k5 ?_ ?k6); (case k1 => with_reducible assumption); (case k5 => with_reducible assumption); (case k3 => omega); (case k4 => omega); (case k6 => with_unfolding_all rfl)) | ((refine' item_at ?k1 ?k2 ?k3 ?k4 ?k5 ?_ ?k6); (case k1 => k_asm); (case k5 => assumption); (case k2 => k_mem); (case k3 => omega); (case k4 => omega); (case k6 => with_unfolding_all rfl))))) | ((with_reducible show wpAny _ _ (exec _ _) _ _ _); first | ((with_reducible show wpAny _ _ (exec (Stmt.For _ (PySem.Expr.Call _ _ _ _) _ _ _) _) _ _ _); ((k_dflt (refine for_stop ?_)))) | ((with_reducible show wpAny _ _ (exec (Stmt.Assign _ (PySem.Expr.ListComp _ _ _ _) _) _) _ _ _); ((with_reducible rename InLoop => lp9; refine Halt.of ?_))) | ((with_reducible show wpAny _ _ (exec (Stmt.For _ _ _ _ _) _) _ _ _); ((k_dflt (refine for_stop ?_)))) | ((with_reducible show wpAny _ _ (exec (Stmt.If _ _ _ _) _) _ _ _); (refine wpAny_If ?_))) | ((with_reducible show wpAny _ _ (compareOp CmpOp.NotEq (Value.ref _) (Value.ref _)) _ _ _); (refine Halt.of ?_)) | ((with_reducible show wpAny _ _ (call (Value.builtin "len") _ _) _ _ _); ((k_dflt (refine' len_ws ?l1 ?l2 ?l3 ?_); (case l1 => exact News.isList (by assumption) (by k_mem)); (case l2 => assumption); (case l3 => omega)))) | ((with_reducible show wpAny _ _ (call (Value.ref _) _ _) _ _ _); (refine Halt.of ?_)) | ((with_reducible show wpAny _ _ (execs (_ :: _) _) _ _ _); ((refine execs_f ?_; intro qk))) | ((with_reducible show wpAny _ _ (eval (PySem.Expr.ListComp _ _ _ _) _) _ _ _); (refine Halt.of ?_)) | ((with_reducible show wpAny _ _ (pyIter (Value.ref _)) _ _ _); ((k_dflt (refine it_stop ?_)))) | ((with_reducible show LCt.CompSrcT _ _ _ _ _ _ _ _ _ _ _ _ _ _ _); (((with_reducible rename InLoop => lp9); refine Halt.of ?_))) | ((with_reducible show wpAny _ _ (storeName _ _ _) _ _ _); ((k_dflt (refine' store_f ?F ?N ?b ?a ?_; (case F => k_asm); (case N => k_asm); (case b => rfl); (case a => rfl); k_whole; intro m' h' F' N'; (try k_sweep))))) | (k_end; wrow_close) | walk1 | dsimp only | (leave1; try dsimp only)))
      refine Halt.mk ?_
      k_dflt (refine' ne_two ?e1 ?e2 ?e3 ?e4 ?e6 ?_)
      (case e1 => exact News.get (by assumption) (by k_mem))
      (case e2 => exact News.get (by assumption) (by k_mem))
      (case e3 => assumption)
      (case e4 => assumption)
      (case e6 => (first | (simp +zetaDelta only [depth_deeper, units_deeper]; omega) | (simp +zetaDelta only [depth_deeper, units_deeper, callerA]; decide)))
      (repeat' (first | ((try k_unmd); k_unfold; first | (with_reducible (first | refine after_nil ?_ | refine after_next ?_ | refine after_ret ?_ | refine after_brk ?_ | refine after_cont ?_)) | (try dsimp only [List.cons_append, List.nil_append])) | ((with_reducible show wpAny _ _ (subscriptTail (PySem.Expr.Subscript _ _ _) (PySem.Expr.Name _ _) (Value.ref _) (Value.int _ _)) _ _ _); ((k_dflt ((refine' item_is ?k1 ?k3 ?k4 ?k5 ?_ ?k6); (case k1 => assumption); (case k5 => assumption); (case k3 => omega); (case k4 => omega); (case k6 => with_unfolding_all rfl))))) | ((with_reducible show wpAny _ _ (subscriptTail (PySem.Expr.Name _ _) (PySem.Expr.Name _ _) (Value.ref _) (Value.int _ _)) _ _ _); ((k_dflt first | ((refine' item_is ?k1 ?k3 ?k4 ?k5 ?_ ?k6); (case k1 => with_reducible assumption); (case k5 => with_reducible assumption); (case k3 => omega); (case k4 => omega); (case k6 => with_unfolding_all rfl)) | ((refine' item_at ?k1 ?k2 ?k3 ?k4 ?k5 ?_ ?k6); (case k1 => k_asm); (case k5 => assumption); (case k2 => k_mem); (case k3 => omega); (case k4 => omega); (case k6 => with_unfolding_all rfl))))) | ((with_reducible show wpAny _ _ (exec _ _) _ _ _); first | ((with_reducible show wpAny _ _ (exec (Stmt.For _ (PySem.Expr.Call _ _ _ _) _ _ _) _) _ _ _); ((k_dflt (refine for_stop ?_)))) | ((with_reducible show wpAny _ _ (exec (Stmt.Assign _ (PySem.Expr.ListComp _ _ _ _) _) _) _ _ _); ((with_reducible rename InLoop => lp9; refine Halt.of ?_))) | ((with_reducible show wpAny _ _ (exec (Stmt.For _ _ _ _ _) _) _ _ _); ((k_dflt (refine for_stop ?_)))) | ((with_reducible show wpAny _ _ (exec (Stmt.If _ _ _ _) _) _ _ _); (refine wpAny_If ?_))) | ((with_reducible show wpAny _ _ (compareOp CmpOp.NotEq (Value.ref _) (Value.ref _)) _ _ _); (refine Halt.of ?_)) | ((with_reducible show wpAny _ _ (call (Value.builtin "len") _ _) _ _ _); ((k_dflt (refine' len_ws ?l1 ?l2 ?l3 ?_); (case l1 => exact News.isList (by assumption) (by k_mem)); (case l2 => assumption); (case l3 => omega)))) | ((with_reducible show wpAny _ _ (call (Value.ref _) _ _) _ _ _); (refine Halt.of ?_)) | ((with_reducible show wpAny _ _ (execs (_ :: _) _) _ _ _); ((refine execs_f ?_; intro qk))) | ((with_reducible show wpAny _ _ (eval (PySem.Expr.ListComp _ _ _ _) _) _ _ _); (refine Halt.of ?_)) | ((with_reducible show wpAny _ _ (pyIter (Value.ref _)) _ _ _); ((k_dflt (refine it_stop ?_)))) | ((with_reducible show LCt.CompSrcT _ _ _ _ _ _ _ _ _ _ _ _ _ _ _); (((with_reducible rename InLoop => lp9); refine Halt.of ?_))) | ((with_reducible show wpAny _ _ (storeName _ _ _) _ _ _); ((k_dflt (refine' store_f ?F ?N ?b ?a ?_; (case F => k_asm); (case N => k_asm); (case b => rfl); (case a => rfl); k_whole; intro m' h' F' N'; (try k_sweep))))) | (k_end; wrow_close) | walk1 | dsimp only | (leave1; try dsimp only)))
      (rename Fr _ _ _ _ => F9)
      (rename News _ _ _ _ => N9)
      exact end_turn F9 N9 mpJ_up rfl dj (off1_all hI0.of) (by kcf_all)
  · intro h tk v1 v2 oj F N
    clear F9 N9 R9
    dsimp only
    (repeat' (first | ((try k_unmd); k_unfold; first | (with_reducible (first | refine after_nil ?_ | refine after_next ?_ | refine after_ret ?_ | refine after_brk ?_ | refine after_cont ?_)) | (try dsimp only [List.cons_append, List.nil_append])) | ((with_reducible show wpAny _ _ (subscriptTail (PySem.Expr.Subscript _ _ _) (PySem.Expr.Name _ _) (Value.ref _) (Value.int _ _)) _ _ _); ((k_dflt ((refine' item_is ?k1 ?k3 ?k4 ?k5 ?_ ?k6); (case k1 => assumption); (case k5 => assumption); (case k3 => omega); (case k4 => omega); (case k6 => with_unfolding_all rfl))))) | ((with_reducible show wpAny _ _ (subscriptTail (PySem.Expr.Name _ _) (PySem.Expr.Name _ _) (Value.ref _) (Value.int _ _)) _ _ _); ((k_dflt first | ((refine' item_is ?k1 ?k3 ?k4 ?k5 ?_ ?k6); (case k1 => with_reducible assumption); (case k5 => with_reducible assumption); (case k3 => omega); (case k4 => omega); (case k6 => with_unfolding_all rfl)) | ((refine' item_at ?k1 ?k2 ?k3 ?k4 ?k5 ?_ ?k6); (case k1 => k_asm); (case k5 => assumption); (case k2 => k_mem); (case k3 => omega); (case k4 => omega); (case k6 => with_unfolding_all rfl))))) | ((with_reducible show wpAny _ _ (exec _ _) _ _ _); first | ((with_reducible show wpAny _ _ (exec (Stmt.For _ (PySem.Expr.Call _ _ _ _) _ _ _) _) _ _ _); ((k_dflt (refine for_stop ?_)))) | ((with_reducible show wpAny _ _ (exec (Stmt.Assign _ (PySem.Expr.ListComp _ _ _ _) _) _) _ _ _); ((with_reducible rename InLoop => lp9; refine Halt.of ?_))) | ((with_reducible show wpAny _ _ (exec (Stmt.For _ _ _ _ _) _) _ _ _); ((k_dflt (refine for_stop ?_)))) | ((with_reducible show wpAny _ _ (exec (Stmt.If _ _ _ _) _) _ _ _); (refine wpAny_If ?_))) | ((with_reducible show wpAny _ _ (compareOp CmpOp.NotEq (Value.ref _) (Value.ref _)) _ _ _); (refine Halt.of ?_)) | ((with_reducible show wpAny _ _ (call (Value.builtin "len") _ _) _ _ _); ((k_dflt (refine' len_ws ?l1 ?l2 ?l3 ?_); (case l1 => exact News.isList (by assumption) (by k_mem)); (case l2 => assumption); (case l3 => omega)))) | ((with_reducible show wpAny _ _ (call (Value.ref _) _ _) _ _ _); (refine Halt.of ?_)) | ((with_reducible show wpAny _ _ (execs (_ :: _) _) _ _ _); ((refine execs_f ?_; intro qk))) | ((with_reducible show wpAny _ _ (eval (PySem.Expr.ListComp _ _ _ _) _) _ _ _); (refine Halt.of ?_)) | ((with_reducible show wpAny _ _ (pyIter (Value.ref _)) _ _ _); ((k_dflt (refine it_stop ?_)))) | ((with_reducible show LCt.CompSrcT _ _ _ _ _ _ _ _ _ _ _ _ _ _ _); (((with_reducible rename InLoop => lp9); refine Halt.of ?_))) | ((with_reducible show wpAny _ _ (storeName _ _ _) _ _ _); ((k_dflt (refine' store_f ?F ?N ?b ?a ?_; (case F => k_asm); (case N => k_asm); (case b => rfl); (case a => rfl); k_whole; intro m' h' F' N'; (try k_sweep))))) | (k_end; wrow_close) | walk1 | dsimp only | (leave1; try dsimp only)))
    (rename Fr _ _ _ _ => F7)
    (rename News _ _ _ _ => N7)
    show Q (.bool true) _
    exact hQ _ (fun b o hb e => F7.keep b o (hideAll_get [114] e (fun hm => hb (List.mem_singleton.mp hm)))) ⟨_, News.get N7 (by k_mem)⟩ hG4 rfl
end Mine
end
section -- LL
namespace Mine
theorem post9 {s₁ s' : Shared} {cw : ClaimW} {cl : Str → Option Addr} {mean : ExcName → Option Value} {args : List WData} {c P : Addr} (hT : TabsAt [(c, P)] s₁.heap) (hp : cw.post args (.bool true) args = true) (hr : ∀ cls, cw.raises args cls = false)
    (hk : ∀ b o, b ≠ P → s₁.heap.get? b = some o → s'.heap.get? b = some o) (hos : s'.os = s₁.os) (hg : AllBare s'.gens) (hgr : ∃ ps, s'.heap.get? P = some (tabObj ps)) : GoodWG cw cl mean args s₁ (.ok (.ret (.bool true))) s' := by
  obtain ⟨h1, h2⟩ := hT _ (.head _)
  dsimp only at h1 h2
  refine ⟨.inl ⟨_, _, [], rfl, hr, ReadsW.bool true, hp, fun _ => ⟨List.nodup_nil, fun _ hm => (nomatch hm)⟩⟩, ⟨fun b o e => ?_, fun b o e => ?_⟩, hos, hg⟩
  · by_cases hb : b = P
    · subst hb
      rw [h2] at e
      cases e
      obtain ⟨ps, h3⟩ := hgr
      refine .inr (.inl ⟨(h1.tab h2).isCodeTable, rfl, #[], ps, rfl, ?_⟩)
      rw [h3]; simp [tabObj]
    · exact .inl (hk b o hb e)
  · by_cases hb : b = P
    · subst hb
      obtain ⟨ps, h3⟩ := hgr
      exact ⟨_, h3⟩
    · exact ⟨_, hk b o hb e⟩
-- twins of the kit that are left out: they are only for speed, and heavy
theorem L.tw10314181461320191634 : True := trivial
theorem L.tw10760282732513461885 : True := trivial
theorem L.tw11123713171548769161 : True := trivial
theorem L.tw11202230002648631714 : True := trivial
theorem L.tw11291959990827499106 : True := trivial
theorem L.tw11331796843753685359 : True := trivial
theorem L.tw11831041805410024947 : True := trivial
theorem L.tw12292033621529388085 : True := trivial
theorem L.tw12503946351283583005 : True := trivial
theorem L.tw13108907654163714077 : True := trivial
theorem L.tw1334058750532506648 : True := trivial
theorem L.tw13372773724084943802 : True := trivial
theorem L.tw13547516978689837873 : True := trivial
theorem L.tw14136082920040147691 : True := trivial
theorem L.tw14201820236104233943 : True := trivial
theorem L.tw14261604434178914001 : True := trivial
theorem L.tw14303850902935995295 : True := trivial
theorem L.tw14568921110787540523 : True := trivial
theorem L.tw14857266467673115541 : True := trivial
theorem L.tw15375542045748300387 : True := trivial
theorem L.tw16080374768161099396 : True := trivial
theorem L.tw16419399067291225688 : True := trivial
theorem L.tw16465872882662305785 : True := trivial
theorem L.tw16559856878276600704 : True := trivial
theorem L.tw16602734824465205820 : True := trivial
theorem L.tw17052665492603821274 : True := trivial
theorem L.tw17203024699094397200 : True := trivial
theorem L.tw17298634787629817081 : True := trivial
theorem L.tw17467290169505849252 : True := trivial
theorem L.tw18038674499066552049 : True := trivial
theorem L.tw18101831432278347436 : True := trivial
theorem L.tw18401309275525193023 : True := trivial
theorem L.tw3008829145745053894 : True := trivial
theorem L.tw3113237995420157329 : True := trivial
theorem L.tw3203508076580432483 : True := trivial
theorem L.tw432984026385396542 : True := trivial
theorem L.tw4646352890661440632 : True := trivial
theorem L.tw478480313764228962 : True := trivial
theorem L.tw5532093426853465246 : True := trivial
theorem L.tw5729564517976564935 : True := trivial
theorem L.tw6220846262133898192 : True := trivial
theorem L.tw6633242411846065997 : True := trivial
theorem L.tw6695271058369628445 : True := trivial
theorem L.tw6812068322124972261 : True := trivial
theorem L.tw6938998245653694968 : True := trivial
theorem L.tw6978969909645499915 : True := trivial
theorem L.tw7017304357989369731 : True := trivial
theorem L.tw7208326084505574023 : True := trivial
theorem L.tw8338700282436761705 : True := trivial
theorem L.tw836928169321127065 : True := trivial
theorem L.tw8414657937122139655 : True := trivial
theorem L.tw8739970774657032615 : True := trivial
theorem L.tw8769949865309716353 : True := trivial
theorem L.tw9834152108872379178 : True := trivial
theorem L.tw1900723378266218141 : True := trivial
theorem L.tw357486453476387696 : True := trivial
theorem L.tw637098282179107264 : True := trivial
--DUMMIES
set_option Elab.async true
set_option maxHeartbeats 8000000 in
theorem L : PySem.Challenge.rw_ik0154_01.Holds := by
  refine hd ?_
  (w_on; o_head (kmHook hd.heap_1 [2, 3, 32, 34, 35, 37, 38, 39, 46, 47, 48, 49, 52, 54, 55, 57, 58, 59, 61, 62, 64, 65, 66, 68, 69, 71, 72, 73, 75, 76, 78, 79, 80, 81, 83, 84, 86, 87, 88, 89, 91, 92, 94, 95, 99, 100, 102, 106, 108, 109, 111, 112, 113, 115, 116, 118, 119, 120, 123, 124, 125, 128, 129, 130, 133, 134, 135, 138, 139, 140, 142, 143, 145, 146, 147, 149, 150, 152, 153, 154, 156, 157, 159, 160, 161, 164, 165, 166, 168, 169, 171, 172, 173, 176, 177, 178, 180, 181, 183, 184, 185, 188, 189] (fun _ => by kernel_rfl) [114]); (case hw => w_witness2))
  k_fill
  intro w s₀ s₁ mg mb G Y fa o pm cd doc dV kV ho hd hcd hD hmg hg args vals as hpre hlay hrd hwl hlo
  have KX := km_in_of Y
  km_tabs Y
  refine Ground.open G ?_
  intro T B D TE TW
  try (refine guard_noD D (by decide +kernel) ?_; clear D)
  km_lay T hmg ho hd cd
  have hfa : fa = 189 := by
    have e := mg_of (n := Str.ofString "law") (v := .ref 189) KX (Top.g T) (by kernel_rfl)
    rw [hmg] at e
    cases e
    rfl
  clear hmg hd hD hcd
  subst hfa
  wrow_args hpre hlay hrd hwl hlo
  rename (¬ _ < _) => hlen
  rename (Heap.IsList _ _ _) => hl
  rename (IntsAre _ _) => hI
  have T1 := ghost_top (tabs := []) (fun _ h => nomatch h) T
  have T2 := ghost_top hT9 T
  have X2 := ghost_K hT9 KX (by kernel_rfl)
  have C2 := ghost_code hT9
  try refine callC_kw ?_
  refine law_walk KX T1 (hT8 114 (.head _)) X2 T2 (C2.1) ?_ _ _ _ (by omega) ?_ hI ?_
  · exact AllBare.of_eq hg
  · obtain ⟨o9, e9, hc9, r9⟩ := hl
    exact ⟨o9, ghost_get hT9 e9 (fun q => by rw [q] at hc9; cases hc9), hc9, r9⟩
  · intro s' hk hgr hgb hos
    refine post9 hT9 ?_ (fun _ => rfl) hk hos hgb hgr
    wrow_post
end Mine
end
theorem PySem.Challenge.cw_ik0154_01_holds : PySem.Challenge.rw_ik0154_01.Holds := by
  exact Mine.L

