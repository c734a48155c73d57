import PyProof.Rows.All
import Wide.All
import OpenK.AllK
import Wide.FinOn
import PySem.Challenge.RW_mr0033_01
open PySem PySem.W PyProof.Rows PySem.Calls
set_option Elab.async false
set_option maxRecDepth 100000
namespace Mine
set_option maxHeartbeats 8000000 in
open_top hd for PySem.Challenge.rw_mr0033_01
end Mine
namespace Mine
section
def recOf (s : Stmt) : DefRec := match s with
  | .FunctionDef name a b _ _ _ sc _ _ pos => ⟨name, a, b, sc, pos⟩
  | _ => ⟨"", { posonlyargs := [], args := [], vararg := none, kwonlyargs := [], kw_defaults := [], kwarg := none, defaults := [] }, [], { kind := .module, names := [], isGenerator := false, isCoroutine := false, more := [] }, ⟨0,0,0,0⟩⟩
def stAt (n : Nat) : Stmt := PySem.Challenge.pw_mr0033_01.main.body.getD n (.Pass ⟨0,0,0,0⟩)
abbrev dAdd : DefRec := recOf (stAt 1)
abbrev dCnt : DefRec := recOf (stAt 2)
abbrev dDiff : DefRec := recOf (stAt 4)
abbrev dPiles : DefRec := recOf (stAt 6)
abbrev dLaid : DefRec := recOf (stAt 7)
abbrev dGone : DefRec := recOf (stAt 8)
abbrev dCome : DefRec := recOf (stAt 9)
abbrev dMet : DefRec := recOf (stAt 10)
abbrev dThings : DefRec := recOf (stAt 11)
abbrev dLaw : DefRec := recOf (stAt 12)
def recs : List DefRec := [dAdd, dCnt, dDiff, dPiles, dLaid, dGone, dCome, dMet, dThings, dLaw]

/-- the state of a frame -/
abbrev Ext (h h' : Heap) : Prop := ∀ b o, h.get? b = some o → h'.get? b = some o
def put (σ : Str → Option Value) (x : Str) (v : Value) : Str → Option Value := fun y => if y = x then some v else σ y
theorem put_eq {σ : Str → Option Value} {x : Str} {v : Value} : put σ x v x = some v := by simp [put]
theorem put_ne {σ : Str → Option Value} {x y : Str} {v : Value} (h : y ≠ x) : put σ x v y = σ y := by simp [put, h]

def fence (env : Env) (cs : List (Str × Addr)) (mu : List (Addr × Obj)) : List Addr := env.locals :: (cs.map (·.2) ++ mu.map (·.1))
structure LS (g : Heap) (env : Env) (cs : List (Str × Addr)) (h : Heap) (σ : Str → Option Value) (mu : List (Addr × Obj)) : Prop where
  ns : ∃ m, h.Ns env.locals m ∧ ∀ x, env.kindOf x = some .local → m x = σ x
  cl : ∀ x c, (x, c) ∈ cs → h.IsCell c (σ x)
  sep : ∀ x c, (x, c) ∈ cs → env.kindOf x = some .cell ∧ env.cells.lookup x = some c
  led : ∀ p ∈ mu, h.get? p.1 = some p.2
  keep : Ext g h
  nd : (fence env cs mu).Nodup
  off : ∀ a ∈ fence env cs mu, g.get? a = none

section
variable {g : Heap} {env : Env} {cs : List (Str × Addr)} {h h' : Heap} {σ : Str → Option Value} {mu mu' : List (Addr × Obj)} {x : Str} {v : Value} {c a : Addr} {o o' : Obj}
theorem fence_loc : env.locals ∈ fence env cs mu := List.mem_cons_self
theorem fence_cell (hx : (x, c) ∈ cs) : c ∈ fence env cs mu := List.mem_cons_of_mem _ (List.mem_append_left _ (List.mem_map.mpr ⟨_, hx, rfl⟩))
theorem fence_mu {p : Addr × Obj} (hp : p ∈ mu) : p.1 ∈ fence env cs mu := List.mem_cons_of_mem _ (List.mem_append_right _ (List.mem_map.mpr ⟨_, hp, rfl⟩))
theorem fence_split (ha : a ∈ fence env cs mu) : a = env.locals ∨ (∃ x, (x, a) ∈ cs) ∨ ∃ o, (a, o) ∈ mu := by
  rcases List.mem_cons.mp ha with rfl | ha
  · exact .inl rfl
  · rcases List.mem_append.mp ha with ha | ha
    · obtain ⟨⟨y, c⟩, hx, rfl⟩ := List.mem_map.mp ha; exact .inr (.inl ⟨y, hx⟩)
    · obtain ⟨⟨b, o⟩, hp, rfl⟩ := List.mem_map.mp ha; exact .inr (.inr ⟨o, hp⟩)
theorem LS.ext (F : LS g env cs h σ mu) (e : Ext h h') : LS g env cs h' σ mu :=
  ⟨let ⟨m, a, b⟩ := F.ns; ⟨m, a.keeps e, b⟩, fun x c q => (F.cl x c q).keeps e, F.sep, fun p hp => e _ _ (F.led p hp), fun b o q => e _ _ (F.keep b o q), F.nd, F.off⟩
theorem LS.live (F : LS g env cs h σ mu) (ha : a ∈ fence env cs mu) : ∃ o, h.get? a = some o := by
  rcases fence_split ha with rfl | ⟨x, hx⟩ | ⟨o, hp⟩
  · obtain ⟨m, ⟨o, es, ep, ho, _⟩, _⟩ := F.ns; exact ⟨o, ho⟩
  · obtain ⟨o, ho, _⟩ := F.cl x a hx; exact ⟨o, ho⟩
  · exact ⟨_, F.led _ hp⟩
theorem LS.ne_of_g (F : LS g env cs h σ mu) (hb : g.get? a = some o) : a ∉ fence env cs mu := fun ha => by rw [F.off a ha] at hb; cases hb
theorem LS.fresh (F : LS g env cs h σ mu) (hb : h.get? a = none) : a ∉ fence env cs mu := fun ha => by
  obtain ⟨o, ho⟩ := F.live ha; rw [hb] at ho; cases ho
theorem LS.loc_ne_cell (F : LS g env cs h σ mu) (hx : (x, c) ∈ cs) : env.locals ≠ c := fun e =>
  (List.nodup_cons.mp F.nd).1 (List.mem_append_left _ (List.mem_map.mpr ⟨_, hx, e.symm⟩))
theorem LS.loc_ne_mu (F : LS g env cs h σ mu) (hx : (a, o) ∈ mu) : env.locals ≠ a := fun e =>
  (List.nodup_cons.mp F.nd).1 (List.mem_append_right _ (List.mem_map.mpr ⟨_, hx, e.symm⟩))
theorem LS.cell_ne_mu (F : LS g env cs h σ mu) (hx : (x, c) ∈ cs) (hm : (a, o) ∈ mu) : c ≠ a := fun e =>
  (List.nodup_append.mp (List.nodup_cons.mp F.nd).2).2.2 c (List.mem_map.mpr ⟨_, hx, rfl⟩) a (List.mem_map.mpr ⟨_, hm, rfl⟩) e
theorem LS.cell_inj (F : LS g env cs h σ mu) {y : Str} {d : Addr} (hx : (x, c) ∈ cs) (hy : (y, d) ∈ cs) (e : c = d) : x = y := by
  have nd := (List.nodup_append.mp (List.nodup_cons.mp F.nd).2).1
  clear F
  induction cs with
  | nil => cases hx
  | cons p r ih =>
    obtain ⟨hp, hr⟩ := List.nodup_cons.mp nd
    rcases List.mem_cons.mp hx with q | hx'
    · rcases List.mem_cons.mp hy with q' | hy'
      · rw [← q] at q'; cases q'; rfl
      · rw [← q] at hp; exact absurd (List.mem_map.mpr ⟨_, hy', e.symm⟩) hp
    · rcases List.mem_cons.mp hy with q' | hy'
      · rw [← q'] at hp; exact absurd (List.mem_map.mpr ⟨_, hx', e⟩) hp
      · exact ih hx' hy' hr
theorem LS.setL (F : LS g env cs h σ mu) (hk : env.kindOf x = some .local) (hn : ∀ m, h.Ns env.locals m → (∀ x, env.kindOf x = some .local → m x = σ x) → h'.Ns env.locals (fun y => if y = x then some v else m y))
    (hs : Heap.SameBut env.locals h h') : LS g env cs h' (put σ x v) mu := by
  obtain ⟨m, hm, hσ⟩ := F.ns
  refine ⟨⟨_, hn m hm hσ, fun y hy => ?_⟩, fun y c hc => ?_, F.sep, fun p hp => (hs.2 _ (Ne.symm (F.loc_ne_mu hp))).trans (F.led p hp), fun b o e => (hs.2 b ?_).trans (F.keep b o e), F.nd, F.off⟩
  · unfold put; by_cases q : y = x
    · simp [q]
    · simp [q, hσ y hy]
  · have hne : y ≠ x := fun q => by rw [q] at hc; have := (F.sep x c hc).1; rw [hk] at this; cases this
    rw [put_ne hne]
    exact (F.cl y c hc).sameBut hs (Ne.symm (F.loc_ne_cell hc))
  · exact fun q => F.ne_of_g e (q ▸ fence_loc)
theorem LS.setC (F : LS g env cs h σ mu) (hx : (x, c) ∈ cs) (hv : h'.IsCell c (some v)) (hs : Heap.SameBut c h h') : LS g env cs h' (put σ x v) mu := by
  obtain ⟨m, hm, hσ⟩ := F.ns
  refine ⟨⟨m, hm.sameBut hs (F.loc_ne_cell hx), fun y hy => ?_⟩, fun y d hd => ?_, F.sep, fun p hp => (hs.2 _ (Ne.symm (F.cell_ne_mu hx hp))).trans (F.led p hp), fun b o e => (hs.2 b ?_).trans (F.keep b o e), F.nd, F.off⟩
  · have hne : y ≠ x := fun q => by rw [q] at hy; have := (F.sep x c hx).1; rw [hy] at this; cases this
    rw [put_ne hne]; exact hσ y hy
  · by_cases q : y = x
    · subst q
      have h1 := (F.sep y d hd).2; rw [(F.sep y c hx).2] at h1; cases h1
      rw [put_eq]; exact hv
    · rw [put_ne q]
      exact (F.cl y d hd).sameBut hs (fun e => q (F.cell_inj hd hx e))
  · exact fun q => F.ne_of_g e (q ▸ fence_cell hx)
theorem LS.push (F : LS g env cs h σ mu) (o : Obj) (hf : o.isFreed = false := by rfl) : LS g env cs (h.push o) σ ((h.objs.size, o) :: mu) := by
  have F' := F.ext (h' := h.push o) fun b o' e => Heap.get?_push_of_some _ e
  have hn : h.get? h.objs.size = none := Heap.get?_none_of_le (Nat.le_refl _)
  have hfr : h.objs.size ∉ fence env cs mu := F.fresh hn
  refine ⟨F'.ns, F'.cl, F.sep, fun p hp => ?_, F'.keep, ?_, fun a ha => ?_⟩
  · rcases List.mem_cons.mp hp with rfl | hp
    · exact Heap.get?_push_size _ hf
    · exact F'.led p hp
  · unfold fence at hfr ⊢
    refine List.nodup_cons.mpr ⟨fun q => ?_, ?_⟩
    · rcases List.mem_append.mp q with q | q
      · exact (List.nodup_cons.mp F.nd).1 (List.mem_append_left _ q)
      · rcases List.mem_cons.mp q with q | q
        · exact hfr (q ▸ List.mem_cons_self)
        · exact (List.nodup_cons.mp F.nd).1 (List.mem_append_right _ q)
    · have n1 := List.nodup_append.mp (List.nodup_cons.mp F.nd).2
      refine List.nodup_append.mpr ⟨n1.1, List.nodup_cons.mpr ⟨fun q => hfr (List.mem_cons_of_mem _ (List.mem_append_right _ q)), n1.2.1⟩, fun a ha b hb e => ?_⟩
      rcases List.mem_cons.mp hb with q | q
      · have e' : a = h.objs.size := e.trans q
        exact hfr (List.mem_cons_of_mem _ (List.mem_append_left _ (e' ▸ ha)))
      · exact n1.2.2 a ha b q e
  · rcases fence_split ha with rfl | ⟨x, hx⟩ | ⟨o', hp⟩
    · exact F.off _ fence_loc
    · exact F.off _ (fence_cell hx)
    · rcases List.mem_cons.mp hp with q | hp
      · cases q
        cases hq : g.get? h.objs.size with
        | none => rfl
        | some o'' => have := F.keep _ _ hq; rw [hn] at this; cases this
      · exact F.off _ (fence_mu hp)
theorem fence_same (e : mu'.map (·.1) = mu.map (·.1)) : fence env cs mu' = fence env cs mu := by unfold fence; rw [e]
/-- one object of the ledger is turned -/
theorem LS.upd {pre post : List (Addr × Obj)} (F : LS g env cs h σ (pre ++ (a, o) :: post)) (hs : Heap.SameBut a h h') (ho : h'.get? a = some o') : LS g env cs h' σ (pre ++ (a, o') :: post) := by
  have hm : (a, o) ∈ pre ++ (a, o) :: post := List.mem_append_right _ List.mem_cons_self
  have hf : fence env cs (pre ++ (a, o') :: post) = fence env cs (pre ++ (a, o) :: post) := fence_same (by simp)
  obtain ⟨m, hn, hσ⟩ := F.ns
  have nd : ((pre ++ (a, o) :: post).map (·.1)).Nodup := (List.nodup_append.mp (List.nodup_cons.mp F.nd).2).2.1
  refine ⟨⟨m, hn.sameBut hs (F.loc_ne_mu hm), hσ⟩, fun y c hc => (F.cl y c hc).sameBut hs (F.cell_ne_mu hc hm), F.sep, fun p hp => ?_, fun b ob e => (hs.2 b ?_).trans (F.keep b ob e), hf ▸ F.nd, hf ▸ F.off⟩
  · rw [List.map_append, List.map_cons] at nd
    have n1 := List.nodup_append.mp nd
    have n2 := List.nodup_cons.mp n1.2.1
    rcases List.mem_append.mp hp with q | q
    · have hne : p.1 ≠ a := fun e => n1.2.2 p.1 (List.mem_map.mpr ⟨_, q, rfl⟩) a List.mem_cons_self e
      exact (hs.2 _ hne).trans (F.led p (List.mem_append_left _ q))
    · rcases List.mem_cons.mp q with rfl | q
      · exact ho
      · have hne : p.1 ≠ a := fun e => n2.1 (List.mem_map.mpr ⟨_, q, e⟩)
        exact (hs.2 _ hne).trans (F.led p (List.mem_append_right _ (List.mem_cons_of_mem _ q)))
  · intro q; subst q; exact F.ne_of_g e (fence_mu hm)
theorem LS.sub (F : LS g env cs h σ mu) (hs : List.Sublist mu' mu) : LS g env cs h σ mu' := by
  have hsub : List.Sublist (fence env cs mu') (fence env cs mu) := by
    unfold fence
    exact (List.Sublist.append (List.Sublist.refl _) (hs.map _)).cons_cons _
  exact ⟨F.ns, F.cl, F.sep, fun p hp => F.led p (hs.subset hp), F.keep, F.nd.sublist hsub, fun a ha => F.off a (hsub.subset ha)⟩
theorem LS.tail {p : Addr × Obj} (F : LS g env cs h σ (p :: mu)) : LS g env cs h σ mu := F.sub (List.sublist_cons_self _ _)
/-- the base anew: all that stands, but the fence -/
theorem LS.rebase (F : LS g env cs h σ mu) : ∃ g', Ext g g' ∧ LS g' env cs h σ mu ∧ (∀ b o, b ∉ fence env cs mu → h.get? b = some o → g'.get? b = some o) ∧ (∀ b o, g'.get? b = some o → h.get? b = some o) ∧ g'.objs.size = h.objs.size :=
  ⟨hideAll h (fence env cs mu), fun b o e => hideAll_get _ (F.keep b o e) (F.ne_of_g e),
    ⟨F.ns, F.cl, F.sep, F.led, fun _ _ e => of_hideAll _ e, F.nd, fun _ ha => hideAll_none _ ha⟩, fun _ _ hb e => hideAll_get _ e hb, fun _ _ e => of_hideAll _ e, hideAll_size _ _⟩
end
end
section
def bis : List Str := ["min", "len", "sum", "range", "isinstance", "bool", "int", "list", "sorted", "tuple", "zip", "ValueError"]
/-- the ground: the module's names and the defs -/
structure Gd (mg mb : Str → Option Value) (h : Heap) : Prop where
  g : h.Ns mainGlobals mg
  b : h.Ns builtinsNs mb
  nolimit : h.NoLimit
  fn : ∀ d ∈ recs, ∃ a o pm code doc, mg d.name = some (.ref a) ∧ h.get? a = some o ∧ o.data = .func (docDef d.name d.params d.body d.scope pm code doc) ∧ h.CodeRec code d.name
  bi : ∀ x ∈ bis, mg x = none ∧ mb x = bootBuiltins x
theorem Gd.keeps {mg mb : Str → Option Value} {h h' : Heap} (G : Gd mg mb h) (e : Ext h h') : Gd mg mb h' :=
  ⟨G.g.keeps e, G.b.keeps e, G.nolimit.keeps e, fun d hd => let ⟨a, o, pm, c, doc, h1, h2, h3, h4⟩ := G.fn d hd; ⟨a, o, pm, c, doc, h1, e _ _ h2, h3, h4.keeps e⟩, G.bi⟩

section
variable {M : Model} {A : Around} {E : Value → Shared → Prop} {s : Shared} {g : Heap} {env : Env} {cs : List (Str × Addr)} {σ : Str → Option Value} {mu : List (Addr × Obj)} {x : Str} {pos : Pos} {v : Value} {Q : Value → Shared → Prop} {mg mb : Str → Option Value}
theorem nL (F : LS g env cs s.heap σ mu) (hv : σ x = some v) (h : Q v s) (hk : env.scope.kind = .function := by rfl) (hl : env.kindOf x = some .local := by rfl) (hd : (x == ("__debug__" : Str)) = false := by decide) :
    wpAny M A (eval (.Name x pos) env) Q E s := by
  obtain ⟨m, hm, hσ⟩ := F.ns
  exact wpAny_Name (wpAny_loadName_local hk hl hm ((hσ x hl).trans hv) h) hd
theorem nC (F : LS g env cs s.heap σ mu) (hv : σ x = some v) (h : Q v s) (hc : ∃ c, (x, c) ∈ cs) (hk : env.scope.kind = .function := by rfl) (hd : (x == ("__debug__" : Str)) = false := by decide) :
    wpAny M A (eval (.Name x pos) env) Q E s := by
  obtain ⟨c, hc⟩ := hc
  obtain ⟨h1, h2⟩ := F.sep x c hc
  exact wpAny_Name (wpAny_loadName_cell hk h1 h2 (hv ▸ F.cl x c hc) h) hd
theorem nLld (F : LS g env cs s.heap σ mu) (hv : σ x = some v) (h : Q v s) (hk : env.scope.kind = .function := by rfl) (hl : env.kindOf x = some .local := by rfl) :
    wpAny M A (loadName env x) Q E s := by
  obtain ⟨m, hm, hσ⟩ := F.ns
  exact wpAny_loadName_local hk hl hm ((hσ x hl).trans hv) h
theorem nF {c : Addr} (F : LS g env cs s.heap σ mu) (hc : env.cells.lookup x = some c) (hv : g.IsCell c (some v)) (h : Q v s) (hk : env.scope.kind = .function := by rfl) (hl : env.kindOf x = some .free := by rfl)
    (hd : (x == ("__debug__" : Str)) = false := by decide) (hn : (x == ("__classdict__" : Str)) = false := by decide) : wpAny M A (eval (.Name x pos) env) Q E s :=
  wpAny_Name (wpAny_loadName_free hk hl hc (hv.keeps F.keep) h hn) hd
theorem nB (G : Gd mg mb g) (F : LS g env cs s.heap σ mu) (hv : bootBuiltins x = some v) (h : Q v s) (hb : x ∈ bis := by decide) (hk : env.scope.kind = .function := by rfl) (hl : env.kindOf x = some .globalImplicit := by rfl)
    (hd : (x == ("__debug__" : Str)) = false := by decide) (hg : env.globals = mainGlobals := by rfl) (hbn : env.builtins = builtinsNs := by rfl) : wpAny M A (eval (.Name x pos) env) Q E s := by
  have G' := G.keeps F.keep
  exact Name_function_global hk hl (loadGlobal_builtin (env := env) (hg ▸ G'.g) (G.bi x hb).1 (hbn ▸ G'.b) ((G.bi x hb).2.trans hv) h) hd
theorem nG (d : DefRec) (G : Gd mg mb g) (F : LS g env cs s.heap σ mu) (hd : d ∈ recs) (e : d.name = x) (h : ∀ fa, mg d.name = some (.ref fa) → Q (.ref fa) s) (hk : env.scope.kind = .function := by rfl) (hl : env.kindOf x = some .globalImplicit := by rfl)
    (hdb : (x == ("__debug__" : Str)) = false := by decide) (hg : env.globals = mainGlobals := by rfl) : wpAny M A (eval (.Name x pos) env) Q E s := by
  have G' := G.keeps F.keep
  obtain ⟨a, o, pm, c, doc, h1, _⟩ := G.fn d hd
  exact Name_function_global hk hl (loadGlobal_global (env := env) (hg ▸ G'.g) (e ▸ h1) (h a h1)) hdb
/-- a call of a def by its name -/
theorem cDef (d : DefRec) {e : Expr} {rest : List Expr} {p : Pos} (G : Gd mg mb g) (F : LS g env cs s.heap σ mu) (hd : d ∈ recs) (en : d.name = x)
    (h : ∀ fa, mg d.name = some (.ref fa) → wpAny M A (spliced (backTo pos (starEach (e :: rest) env))) (fun vs s₁ => Ext g s₁.heap ∧ codeAny M A (.call (.ref fa) ⟨vs, []⟩) (fun r s' => match r with | .ok (.ret v) => Q v s' | .ok _ => False | .error e => E e s') s₁) E s)
    (hk : env.scope.kind = .function := by rfl) (hl : env.kindOf x = some .globalImplicit := by rfl) (he : starEach (e :: rest) env = (false, eval e env) :: starEach rest env := by rfl)
    (he' : eval (.Call (.Name x p) (e :: rest) [] pos) env = (do callWith pos (← eval (.Name x p) env) [] (backTo pos (starEach (e :: rest) env)) (backToKw pos (keywordEach [] env))) := by rfl)
    (hdb : (x == ("__debug__" : Str)) = false := by decide) (hg : env.globals = mainGlobals := by rfl) : wpAny M A (eval (.Call (.Name x p) (e :: rest) [] pos) env) Q E s := by
  refine Call_ (nG d G F hd en (fun fa hfa => ?_) hk hl hdb hg) he'
  obtain ⟨a, o, pm, c, doc, h1, h2, h3, h4⟩ := G.fn d hd
  have : fa = a := by rw [h1] at hfa; cases hfa; rfl
  subst this
  exact callWith_def h3 (wpAny_mono (h fa h1) (fun vs s₁ hh => ⟨hh.1 _ _ h2, wpAny_call hh.2⟩) fun _ _ x => x) he
end

section
variable {M : Model} {A : Around} {E : Value → Shared → Prop} {s : Shared} {g : Heap} {env : Env} {cs : List (Str × Addr)} {σ : Str → Option Value} {mu : List (Addr × Obj)} {x : Str} {v : Value} {Q : Unit → Shared → Prop}
theorem sL (F : LS g env cs s.heap σ mu) (h : ∀ h' tk, LS g env cs h' (put σ x v) mu → Q () { s with heap := h', toks := tk }) (hk : env.scope.kind = .function := by rfl) (hl : env.kindOf x = some .local := by rfl) :
    wpAny M A (storeName env x v) Q E s := by
  obtain ⟨m, hm, hσ⟩ := F.ns
  refine wpAny_storeName_local hl hm (fun h' hn hs => h h' _ (F.setL hl (fun m' hm' hσ' => ?_) hs)) (by rw [hk]; rfl)
  obtain ⟨o, es, ep, ho, a1, a2, a3⟩ := hm
  obtain ⟨o', es', ep', ho', b1, b2, b3⟩ := hm'
  rw [ho] at ho'; cases ho'
  rw [a1] at b1; cases b1
  have : m = m' := funext fun y => (a3 y).symm.trans (b3 y)
  rw [← this]; exact hn
theorem sC (F : LS g env cs s.heap σ mu) (hc : ∃ c, (x, c) ∈ cs) (h : ∀ h' tk, LS g env cs h' (put σ x v) mu → Q () { s with heap := h', toks := tk }) (hk : env.scope.kind = .function := by rfl) :
    wpAny M A (storeName env x v) Q E s := by
  obtain ⟨c, hc⟩ := hc
  obtain ⟨h1, h2⟩ := F.sep x c hc
  exact wpAny_storeName_cell hk h1 h2 (F.cl x c hc) fun h' hv hs => h h' _ (F.setC hc hv hs)
theorem sN (F : LS g env cs s.heap σ mu) (hx : env.kindOf x = some .local ∨ ∃ c, (x, c) ∈ cs) (h : ∀ h' tk, LS g env cs h' (put σ x v) mu → Q () { s with heap := h', toks := tk }) (hk : env.scope.kind = .function := by rfl) :
    wpAny M A (storeName env x v) Q E s := by
  rcases hx with hl | hc
  · exact sL F h hk hl
  · exact sC F hc h hk
end

theorem LS.turn {g : Heap} {env : Env} {cs : List (Str × Addr)} {h h' : Heap} {σ : Str → Option Value} {mu : List (Addr × Obj)} {a : Addr} {o o' : Obj} (F : LS g env cs h σ ((a, o) :: mu))
    (hs : ∀ b ob, b ≠ a → h.get? b = some ob → h'.get? b = some ob) (ho : h'.get? a = some o') : LS g env cs h' σ ((a, o') :: mu) := by
  have hm : (a, o) ∈ (a, o) :: mu := List.mem_cons_self
  have hf : fence env cs ((a, o') :: mu) = fence env cs ((a, o) :: mu) := fence_same rfl
  obtain ⟨m, hn, hσ⟩ := F.ns
  have nd : (((a, o) :: mu).map (·.1)).Nodup := (List.nodup_append.mp (List.nodup_cons.mp F.nd).2).2.1
  refine ⟨⟨m, let ⟨oo, es, ep, ho, r⟩ := hn; ⟨oo, es, ep, hs _ _ (F.loc_ne_mu hm) ho, r⟩, hσ⟩, fun y c hc => let ⟨oo, h1, h2⟩ := F.cl y c hc; ⟨oo, hs _ _ (F.cell_ne_mu hc hm) h1, h2⟩, F.sep, fun p hp => ?_, fun b ob e => hs b ob ?_ (F.keep b ob e), hf ▸ F.nd, hf ▸ F.off⟩
  · rcases List.mem_cons.mp hp with rfl | q
    · exact ho
    · have hne : p.1 ≠ a := fun e => (List.nodup_cons.mp nd).1 (List.mem_map.mpr ⟨_, q, e⟩)
      exact hs _ _ hne (F.led p (List.mem_cons_of_mem _ q))
  · intro q; subst q; exact F.ne_of_g e (fence_mu hm)

/-- one more object under watch -/
theorem LS.watch {g : Heap} {env : Env} {cs : List (Str × Addr)} {h : Heap} {σ : Str → Option Value} {mu : List (Addr × Obj)} {a : Addr} {o : Obj} (F : LS g env cs h σ mu) (ho : h.get? a = some o) (hf : a ∉ fence env cs mu) (hg : g.get? a = none) :
    LS g env cs h σ ((a, o) :: mu) := by
  refine ⟨F.ns, F.cl, F.sep, fun p hp => ?_, F.keep, ?_, fun b hb => ?_⟩
  · rcases List.mem_cons.mp hp with rfl | hp
    · exact ho
    · exact F.led p hp
  · unfold fence at hf ⊢
    refine List.nodup_cons.mpr ⟨fun q => ?_, ?_⟩
    · rcases List.mem_append.mp q with q | q
      · exact (List.nodup_cons.mp F.nd).1 (List.mem_append_left _ q)
      · rcases List.mem_cons.mp q with q | q
        · exact hf (q ▸ List.mem_cons_self)
        · exact (List.nodup_cons.mp F.nd).1 (List.mem_append_right _ q)
    · have n1 := List.nodup_append.mp (List.nodup_cons.mp F.nd).2
      refine List.nodup_append.mpr ⟨n1.1, List.nodup_cons.mpr ⟨fun q => hf (List.mem_cons_of_mem _ (List.mem_append_right _ q)), n1.2.1⟩, fun x hx y hy e => ?_⟩
      rcases List.mem_cons.mp hy with q | q
      · have e' : x = a := e.trans q
        exact hf (List.mem_cons_of_mem _ (List.mem_append_left _ (e' ▸ hx)))
      · exact n1.2.2 x hx y q e
  · rcases fence_split hb with rfl | ⟨x, hx⟩ | ⟨o', hp⟩
    · exact F.off _ fence_loc
    · exact F.off _ (fence_cell hx)
    · rcases List.mem_cons.mp hp with q | hp
      · cases q; exact hg
      · exact F.off _ (fence_mu hp)

section
variable {prog : Program} {w : World} {A : Around} {E : Value → Shared → Prop} {s : Shared} {env : Env} {cs : List (Str × Addr)} {g₀ : Heap} {σ₀ : Str → Option Value} {mu₀ : List (Addr × Obj)}
/-- what a turn leaves -/
def Left (s : Shared) (env : Env) (cs : List (Str × Addr)) (g : Heap) (I : Addr) (oI : Obj) (J : Heap → (Str → Option Value) → List (Addr × Obj) → Prop) (s₃ : Shared) : Prop :=
  ∃ g' σ' mu' h' tk', s₃ = { s with heap := h', toks := tk' } ∧ Ext g g' ∧ LS g' env cs h' σ' ((I, oI) :: mu') ∧ J g' σ' mu'
theorem forW {Q : Flow → Shared → Prop} {x : Str} {px : Pos} {body : List Stmt} {I : Addr} {fp : List Addr} {n : Nat} {P : Nat → Value → Prop} {St : Nat → Heap → Prop}
    (hx : env.kindOf x = some .local ∨ ∃ c, (x, c) ∈ cs) (W : Walks prog w A I fp [I] n P St) (hlive : ∀ i h, St i h → ∃ o, h.get? I = some o)
    (J : Nat → Heap → (Str → Option Value) → List (Addr × Obj) → Prop)
    (F₀ : LS g₀ env cs s.heap σ₀ mu₀) (hI : I ∉ fence env cs mu₀) (hIg : g₀.get? I = none) (hfp : ∀ b ∈ fp, b = I ∨ ∃ o, g₀.get? b = some o) (hst : St 0 s.heap) (hJ : J 0 g₀ σ₀ mu₀)
    (turn : ∀ i v g σ mu oI h tk E', i < n → P i v → Ext g₀ g → J i g σ mu → LS g env cs h (put σ x v) ((I, oI) :: mu) →
      wpAny (model prog w) A (execs body env) (fun f s₃ => match f with
        | .next | .cont => Left s env cs g I oI (J (i + 1)) s₃
        | .brk => Q .next s₃
        | .ret v => Q (.ret v) s₃) E' { s with heap := h, toks := tk })
    (done : ∀ g σ mu h tk, Ext g₀ g → J n g σ mu → LS g env cs h σ mu → Q .next { s with heap := h, toks := tk })
    (hk : env.scope.kind = .function := by rfl) :
    codeAny (model prog w) A (.forLoop (.Name x px) (.ref I) body [] env) (fun r s' => match r with | .ok f => Q f s' | .error e => cameBackBy (model prog w) A env E e s') s := by
  obtain ⟨o₀, ho₀⟩ := hlive _ _ hst
  refine codeAny_forLoop_any (fun k s' => ∃ i g σ mu oI h tk, k = n + 1 - i ∧ i ≤ n ∧ s' = { s with heap := h, toks := tk } ∧ Ext g₀ g ∧ J i g σ mu ∧ LS g env cs h σ ((I, oI) :: mu) ∧ St i h) ?_ (n + 1)
    ⟨0, g₀, σ₀, mu₀, o₀, s.heap, s.toks, rfl, Nat.zero_le _, rfl, fun _ _ e => e, hJ, F₀.watch ho₀ hI hIg, hst⟩
  rintro k s' ⟨i, g, σ, mu, oI, h, tk, rfl, hi, rfl, hg, hJ', F, hst'⟩
  have fr : ∀ {h' : Heap} {i : Nat}, St i h → ∀ (h'' : Heap), (∀ b ∈ fp, ∀ o, h.get? b = some o → h''.get? b = some o) → St i h'' := fun hs h'' hk => W.frame _ _ _ hs hk
  by_cases hlt : i < n
  · refine W.item i _ _ _ hlt hst' fun v h₁ tk₁ hP hst₁ hk₁ => ?_
    obtain ⟨o₁, ho₁⟩ := hlive _ _ hst₁
    have F₁ := F.turn (fun b ob hb e => hk₁ b ob (by simpa using hb) e) ho₁
    refine wpAny_pure ?_
    refine wpAny_assign_Name (sN F₁ hx (fun h₂ tk₂ F₂ => ?_) hk)
    refine wpAny_mono (turn i v g σ mu o₁ h₂ tk₂ _ hlt hP hg hJ' F₂) (fun f s₃ hf => ?_) fun _ _ e => e
    have fin : Left s env cs g I o₁ (J (i + 1)) s₃ → ∃ m, m < n + 1 - i ∧ ∃ i g σ mu oI h tk, m = n + 1 - i ∧ i ≤ n ∧ s₃ = { s with heap := h, toks := tk } ∧ Ext g₀ g ∧ J i g σ mu ∧ LS g env cs h σ ((I, oI) :: mu) ∧ St i h := by
      rintro ⟨g', σ', mu', h', tk', rfl, hg', F', hJ''⟩
      refine ⟨n + 1 - (i + 1), by omega, i + 1, g', σ', mu', o₁, h', tk', rfl, hlt, rfl, fun b o e => hg' _ _ (hg b o e), hJ'', F', ?_⟩
      refine W.frame _ _ _ hst₁ fun b hb o e => ?_
      rcases hfp b hb with rfl | ⟨ob, hob⟩
      · have := F'.led _ List.mem_cons_self
        rw [ho₁] at e; cases e; exact this
      · have h1 := F₁.keep b ob (hg b ob hob)
        rw [h1] at e; cases e
        exact F'.keep b _ (hg' _ _ (hg b _ hob))
    cases f with
    | next => exact fin hf
    | cont => exact fin hf
    | brk => exact hf
    | ret v => exact hf
  · have hin : i = n := by omega
    subst hin
    refine W.done _ _ _ hst' fun h₁ tk₁ hk₁ => ?_
    refine wpAny_execs_nil ?_
    have F₁ : LS g env cs h₁ σ mu := by
      have T := F.tail
      obtain ⟨m, hn, hσ⟩ := T.ns
      have hm : (I, oI) ∈ (I, oI) :: mu := List.mem_cons_self
      have hne : ∀ b ∈ fence env cs mu, b ≠ I := fun b hb q => by
        subst q
        rcases fence_split hb with e | ⟨y, hy⟩ | ⟨o', ho'⟩
        · exact F.loc_ne_mu hm e.symm
        · exact F.cell_ne_mu hy hm rfl
        · have nd : (((b, oI) :: mu).map (·.1)).Nodup := (List.nodup_append.mp (List.nodup_cons.mp F.nd).2).2.1
          exact (List.nodup_cons.mp nd).1 (List.mem_map.mpr ⟨_, ho', rfl⟩)
      refine ⟨⟨m, let ⟨oo, es, ep, ho, r⟩ := hn; ⟨oo, es, ep, hk₁ _ _ (by simpa using hne _ fence_loc) ho, r⟩, hσ⟩, fun y c hc => let ⟨oo, h1, h2⟩ := T.cl y c hc; ⟨oo, hk₁ _ _ (by simpa using hne _ (fence_cell hc)) h1, h2⟩, T.sep,
        fun p hp => hk₁ _ _ (by simpa using hne _ (fence_mu hp)) (T.led p hp), fun b o e => hk₁ _ _ ?_ (T.keep b o e), T.nd, T.off⟩
      have := F.ne_of_g e
      simp only [List.mem_singleton]
      intro q; subst q; exact this (fence_mu hm)
    exact done g σ mu h₁ tk₁ hg hJ' F₁
end
end
section
def Okk (A : Around) (k : Nat) : Prop := A.handled = none ∧ A.depth + k < recursionLimit ∧ A.units + 8 * k + 200 < cLine
theorem Okk.deeper {A : Around} {k : Nat} {env : Env} (h : Okk A (k + 1)) : Okk (A.deeper env) k := by
  obtain ⟨h1, h2, h3⟩ := h
  refine ⟨h1, ?_, ?_⟩
  · show A.depth + 1 + k < recursionLimit; omega
  · show A.units + 3 + 8 * k + 200 < cLine; omega
theorem Okk.hh {A : Around} {k : Nat} (h : Okk A k) : A.handled = none := h.1
theorem Okk.room {A : Around} {k : Nat} (h : Okk A k) : A.depth < recursionLimit := Nat.lt_of_le_of_lt (Nat.le_add_right _ _) h.2.1
theorem Okk.units {A : Around} {k : Nat} (h : Okk A k) : A.units + 200 < cLine := by have := h.2.2; omega

theorem LS.congr {g : Heap} {env : Env} {cs : List (Str × Addr)} {h : Heap} {σ σ' : Str → Option Value} {mu : List (Addr × Obj)} (F : LS g env cs h σ mu) (e : ∀ x, σ x = σ' x) : LS g env cs h σ' mu := by
  have : σ = σ' := funext e
  rw [← this]; exact F
theorem LS.ofFr {g : Heap} {env : Env} {h : Heap} {m : Str → Option Value} (F : Fr g env.locals h m) : LS g env [] h m [] :=
  ⟨⟨m, F.ns, fun _ _ => rfl⟩, (fun _ _ h => nomatch h), (fun _ _ h => nomatch h), (fun _ h => nomatch h), F.keep, by unfold fence; simp, fun a ha => by
    unfold fence at ha
    simp at ha
    subst ha
    exact Heap.get?_none_of_le F.above⟩

section
variable {prog : Program} {w : World} {A : Around} {s : Shared} {R : Result → Shared → Prop} {mg mb : Str → Option Value} {fa : Addr}
/-- into a def without cells -/
theorem enter (d : DefRec) {args : List Value} {binds : List (Str × Value)} (hd : d ∈ recs) (G : Gd mg mb s.heap) (hf : mg d.name = some (.ref fa)) (hroom : A.depth < recursionLimit)
    (hbind : ∀ pm cd doc, bindArgs (docDef d.name d.params d.body d.scope pm cd doc) ⟨args, []⟩ = pure binds) (hloc : ∀ x ∈ binds, d.scope.names.lookup x.1 = some .local)
    (h : ∀ L cd h₁ tk, LS s.heap (envOf d.name d.scope L fa cd) [] h₁ (fun x => binds.reverse.lookup x) [] →
      wpAny (model prog w) (A.deeper (envOf d.name d.scope L fa cd)) (execs d.body (envOf d.name d.scope L fa cd)) (fun f s' => R (.ok (.ret (match f with | .ret v => v | _ => .none))) s') (fun _ _ => False) { s with heap := h₁, toks := tk })
    (hco : d.scope.isCoroutine = false := by rfl) (hgen : d.scope.isGenerator = false := by rfl) (hk : d.scope.kind = .function := by rfl) (hcell : ∀ x ∈ d.scope.names, x.2 ≠ .cell := by decide) :
    codeAny (model prog w) A (.call (.ref fa) ⟨args, []⟩) R s := by
  obtain ⟨a, o, pm, c, doc, h1, h2, h3, h4⟩ := G.fn d hd
  have : fa = a := by rw [h1] at hf; cases hf; rfl
  subst this
  exact call_plain_ret hroom h2 h3 G.nolimit h4 (hbind pm c doc) hloc (fun h₁ F => h _ c h₁ _ (LS.ofFr F)) hco hgen hk hcell
end

section
variable {prog : Program} {w : World} {A : Around} {E : Value → Shared → Prop} {s : Shared} {env : Env} {cs : List (Str × Addr)} {g₀ : Heap} {σ₀ : Str → Option Value} {mu₀ : List (Addr × Obj)} {K : Type} [DecidableEq K] {knd : KeyKind prog w K}
theorem LS.extBut {g : Heap} {h h' : Heap} {σ : Str → Option Value} {mu : List (Addr × Obj)} {a : Addr} (F : LS g env cs h σ mu) (hs : ∀ b ob, b ≠ a → h.get? b = some ob → h'.get? b = some ob) (hf : a ∉ fence env cs mu) (hg : g.get? a = none) : LS g env cs h' σ mu := by
  obtain ⟨m, hn, hσ⟩ := F.ns
  have hne : ∀ b ∈ fence env cs mu, b ≠ a := fun b hb q => hf (q ▸ hb)
  refine ⟨⟨m, let ⟨oo, es, ep, ho, r⟩ := hn; ⟨oo, es, ep, hs _ _ (hne _ fence_loc) ho, r⟩, hσ⟩, fun y c hc => let ⟨oo, h1, h2⟩ := F.cl y c hc; ⟨oo, hs _ _ (hne _ (fence_cell hc)) h1, h2⟩, F.sep,
        fun p hp => hs _ _ (hne _ (fence_mu hp)) (F.led p hp), fun b o e => hs _ _ ?_ (F.keep b o e), F.nd, F.off⟩
  intro q; subst q; rw [hg] at e; cases e
theorem head_off {g : Heap} {h : Heap} {σ : Str → Option Value} {mu : List (Addr × Obj)} {I : Addr} {oI : Obj} (F : LS g env cs h σ ((I, oI) :: mu)) : I ∉ fence env cs mu := fun hb => by
  have hm : (I, oI) ∈ (I, oI) :: mu := List.mem_cons_self
  rcases fence_split hb with e | ⟨y, hy⟩ | ⟨o', ho'⟩
  · exact F.loc_ne_mu hm e.symm
  · exact F.cell_ne_mu hy hm rfl
  · have nd : (((I, oI) :: mu).map (·.1)).Nodup := (List.nodup_append.mp (List.nodup_cons.mp F.nd).2).2.1
    exact (List.nodup_cons.mp nd).1 (List.mem_map.mpr ⟨_, ho', rfl⟩)
theorem forItems {Q : Flow → Shared → Prop} {xk xv : Str} {pk pv pt : Pos} {x1 : Nat} {body : List Stmt} {it d : Addr} {kvs : List (K × Value)} {ep : Nat}
    (hh : A.handled = none) (hxk : env.kindOf xk = some .local) (hxv : env.kindOf xv = some .local)
    (J : Nat → Heap → (Str → Option Value) → List (Addr × Obj) → Prop)
    (F₀ : LS g₀ env cs s.heap σ₀ mu₀) (hI : it ∉ fence env cs mu₀) (hIg : g₀.get? it = none) (hit : IsItemIter s.heap it d 0 kvs.length ep .none .none) (hd : g₀.DictAt knd d kvs ep) (hJ : J 0 g₀ σ₀ mu₀)
    (turn : ∀ i k v key g σ mu oI h tk E', kvs[i]? = some (k, v) → knd.is k key = true → Ext g₀ g → J i g σ mu → LS g env cs h (put (put σ xk key) xv v) ((it, oI) :: mu) →
      wpAny (model prog w) A (execs body env) (fun f s₃ => match f with
        | .next | .cont => Left s env cs g it oI (J (i + 1)) s₃
        | .brk => Q .next s₃
        | .ret v => Q (.ret v) s₃) E' { s with heap := h, toks := tk })
    (done : ∀ g σ mu h tk, Ext g₀ g → J kvs.length g σ mu → LS g env cs h σ mu → Q .next { s with heap := h, toks := tk })
    (hk : env.scope.kind = .function := by rfl) :
    codeAny (model prog w) A (.forLoop (.Tuple [.Name xk pk, .Name xv pv] x1 pt) (.ref it) body [] env) (fun r s' => match r with | .ok f => Q f s' | .error e => cameBackBy (model prog w) A env E e s') s := by
  refine codeAny_forLoop_any (fun n s' => ∃ i g σ mu ok ov oI h tk, n = kvs.length + 1 - i ∧ i ≤ kvs.length ∧ s' = { s with heap := h, toks := tk } ∧ Ext g₀ g ∧ J i g σ mu ∧ LS g env cs h σ ((it, oI) :: mu) ∧ IsItemIter h it d i kvs.length ep ok ov) ?_ (kvs.length + 1)
    ⟨0, g₀, σ₀, mu₀, _, _, _, s.heap, s.toks, rfl, Nat.zero_le _, rfl, fun _ _ e => e, hJ, F₀.watch hit hI hIg, hit⟩
  rintro n s' ⟨i, g, σ, mu, ok, ov, oI, H, tk, rfl, hi, rfl, hg, hJ', F, hit'⟩
  have hdH : H.DictAt knd d kvs ep := (hd.keep hg).keep F.keep
  cases hv : kvs[i]? with
  | none =>
    have hsz : i = kvs.length := Nat.le_antisymm hi (by simpa using hv)
    subst hsz
    refine wpAny_pyNext_items_end hh hit' hdH hv fun h₁ he₁ => wpAny_execs_nil ?_
    exact done g σ mu h₁ tk hg hJ' (F.tail.extBut he₁ (head_off F) (F.off _ (fence_mu List.mem_cons_self)))
  | some kv =>
    obtain ⟨k, v⟩ := kv
    have hlt : i < kvs.length := (List.getElem?_eq_some_iff.mp hv).1
    have hiH : it < H.objs.size := Heap.lt_size hit'
    refine wpAny_pyNext_items_item hit' hdH hv fun key h₁ hkey heo ht₁ hz₁ hk₁ => ?_
    have F₁ := F.turn (fun b ob hb e => hk₁ b ob hb e) heo
    refine wpAny_letOwnedTupleGo_items heo fun h₂ he₂ hs₂ => ?_
    replace hs₂ : Heap.SameBut it h₁ h₂ := hs₂
    obtain ⟨o₂, F₂, hb₂⟩ : ∃ o₂, LS g env cs h₂ σ ((it, o₂) :: mu) ∧ (∀ h : Heap, h.get? it = some o₂ → IsItemIter h it d (i + 1) kvs.length ep key v) := ⟨_, F₁.turn (fun b ob hb e => hs₂.extBut b ob hb e) he₂, fun _ e => e⟩
    have ht₂ : h₂.IsTuple H.objs.size #[key, v] := ⟨_, (hs₂.2 _ (Nat.ne_of_gt hiH)).trans ht₁, rfl, _, rfl⟩
    refine wpAny_assign_Tuple hh ht₂ rfl rfl fun h₃ hx₃ => ?_
    replace hx₃ : Heap.ExtBut h₂.objs.size h₂ h₃ := hx₃
    have hn₂ : h₂.get? h₂.objs.size = none := Heap.get?_none_of_le (Nat.le_refl _)
    have F₃ := F₂.extBut (h' := h₃) (fun b o hb e => hx₃ b o hb e) (F₂.fresh hn₂) (by
      cases q : g.get? h₂.objs.size with
      | none => rfl
      | some o => have := F₂.keep _ _ q; rw [hn₂] at this; cases this)
    show wpAny _ _ (do holding [v] (assign (.Name xk pk) env key); do holding [] (assign (.Name xv pv) env v); pure ()) _ _ _
    refine wpAny_bind (wpAny_holding (wpAny_assign_Name (sL (s := { s with heap := h₃, toks := tk }) F₃ (fun h₄ tk₄ F₄ => ?_) hk hxk)))
    refine wpAny_bind (wpAny_holding (wpAny_assign_Name (sL (s := { s with heap := h₄, toks := tk₄ }) F₄ (fun h₅ tk₅ F₅ => wpAny_pure ?_) hk hxv)))
    refine wpAny_mono (turn i k v key g σ mu o₂ h₅ tk₅ _ hv hkey hg hJ' F₅) (fun f s₃ hf => ?_) fun _ _ e => e
    have fin : Left s env cs g it o₂ (J (i + 1)) s₃ → ∃ m, m < kvs.length + 1 - i ∧ ∃ i g σ mu ok ov oI h tk, m = kvs.length + 1 - i ∧ i ≤ kvs.length ∧ s₃ = { s with heap := h, toks := tk } ∧ Ext g₀ g ∧ J i g σ mu ∧ LS g env cs h σ ((it, oI) :: mu) ∧ IsItemIter h it d i kvs.length ep ok ov := by
      rintro ⟨g', σ', mu', h', tk', rfl, hg', F', hJ''⟩
      exact ⟨kvs.length + 1 - (i + 1), by omega, i + 1, g', σ', mu', key, v, _, h', tk', rfl, hlt, rfl, fun b o e => hg' _ _ (hg b o e), hJ'', F', hb₂ _ (F'.led _ List.mem_cons_self)⟩
    cases f with
    | next => exact fin hf
    | cont => exact fin hf
    | brk => exact hf
    | ret v => exact hf
end
end
section
/-- a dict of ints under ints -/
def Tab (prog : Program) (w : World) (h : Heap) (a : Addr) (ts : List (Int × Int)) : Prop :=
  (a == sysModules) = false ∧ ∃ vals : List (Int × Int × Tok), h.DictOf (intKind prog w) a (intPairs vals) ∧ vals.map (fun x => (x.1, x.2.1)) = ts
theorem Tab.keep {prog : Program} {w : World} {h h' : Heap} {a : Addr} {ts : List (Int × Int)} (T : Tab prog w h a ts) (e : Ext h h') : Tab prog w h' a ts :=
  ⟨T.1, let ⟨vals, a, b⟩ := T.2; ⟨vals, a.keep e, b⟩⟩
local macro_rules | `(tactic| walk_at "lk") => `(tactic| first | exact put_eq | (refine (put_ne (by decide)).trans ?_; walk_at "lk") | assumption | rfl)
theorem one_bind (a : Str) (va : Value) (x : Str) : ([(a, va)] : List (Str × Value)).reverse.lookup x = put (fun _ => none) a va x := by
  unfold put
  by_cases h : x = a
  · subst h; simp
  · have h1 : (x == a) = false := by simpa using h
    simp [List.lookup, h1, h]
theorem two_binds (a b : Str) (va vb : Value) (x : Str) : ([(a, va), (b, vb)] : List (Str × Value)).reverse.lookup x = put (put (fun _ => none) a va) b vb x := by
  unfold put
  by_cases h : x = b
  · subst h; simp
  · have h1 : (x == b) = false := by simpa using h
    by_cases h' : x = a
    · subst h'; simp [List.lookup, h1, h]
    · have h2 : (x == a) = false := by simpa using h'
      simp [List.lookup, h1, h2, h, h']
theorem loc1 {sc : Scope} {a : Str} {va : Value} (h : sc.names.lookup a = some .local) : ∀ x ∈ ([(a, va)] : List (Str × Value)), sc.names.lookup x.1 = some .local := by
  intro x hx; rw [List.mem_singleton.mp hx]; exact h
theorem loc2 {sc : Scope} {a b : Str} {va vb : Value} (h : sc.names.lookup a = some .local) (h' : sc.names.lookup b = some .local) : ∀ x ∈ ([(a, va), (b, vb)] : List (Str × Value)), sc.names.lookup x.1 = some .local := by
  intro x hx
  rcases List.mem_cons.mp hx with rfl | hx
  · exact h
  · rw [List.mem_singleton.mp hx]; exact h'
theorem eval_Call_Name (x : Str) (p : Pos) (args : List Expr) (pos : Pos) (env : Env) : eval (.Call (.Name x p) args [] pos) env = (do callWith pos (← eval (.Name x p) env) [] (backTo pos (starEach args env)) (backToKw pos (keywordEach [] env))) := rfl
section
variable {M : Model} {A : Around} {E : Value → Shared → Prop} {s : Shared} {g : Heap} {env : Env} {cs : List (Str × Addr)} {σ : Str → Option Value} {mu : List (Addr × Obj)} {x : Str} {p pos : Pos} {e₁ e₂ : Expr} {Q : Value → Shared → Prop} {mg mb : Str → Option Value}
theorem bC1 {id : String} (G : Gd mg mb g) (F : LS g env cs s.heap σ mu) (hv : bootBuiltins x = some (.builtin id)) (h : wpAny M A (eval e₁ env) (fun v s₁ => wpAny M A (call (.builtin id) [v]) Q E s₁) E s)
    (hb : x ∈ bis := by decide) (hk : env.scope.kind = .function := by rfl) (hl : env.kindOf x = some .globalImplicit := by rfl) (hd : (x == ("__debug__" : Str)) = false := by decide) (hg : env.globals = mainGlobals := by rfl) (hbn : env.builtins = builtinsNs := by rfl)
    (h1 : starEach [e₁] env = (false, eval e₁ env) :: starEach [] env := by rfl) : wpAny M A (eval (.Call (.Name x p) [e₁] [] pos) env) Q E s :=
  Call_ (nB G F hv (PyProof.Rows.callWith_builtin1 (PyProof.Rows.args_cons (wpAny_mono h (fun v s₁ hh => PyProof.Rows.args_nil hh) fun _ _ x => x) h1) h1) hb hk hl hd hg hbn) (eval_Call_Name ..)
theorem bC2 {id : String} (G : Gd mg mb g) (F : LS g env cs s.heap σ mu) (hv : bootBuiltins x = some (.builtin id)) (h : wpAny M A (eval e₁ env) (fun v s₁ => wpAny M A (eval e₂ env) (fun u s₂ => wpAny M A (call (.builtin id) [v, u]) Q E s₂) E s₁) E s)
    (hb : x ∈ bis := by decide) (hk : env.scope.kind = .function := by rfl) (hl : env.kindOf x = some .globalImplicit := by rfl) (hd : (x == ("__debug__" : Str)) = false := by decide) (hg : env.globals = mainGlobals := by rfl) (hbn : env.builtins = builtinsNs := by rfl)
    (h1 : starEach [e₁, e₂] env = (false, eval e₁ env) :: starEach [e₂] env := by rfl) (h2 : starEach [e₂] env = (false, eval e₂ env) :: starEach [] env := by rfl) : wpAny M A (eval (.Call (.Name x p) [e₁, e₂] [] pos) env) Q E s :=
  Call_ (nB G F hv (PyProof.Rows.callWith_builtin1 (PyProof.Rows.args_cons (wpAny_mono h (fun v s₁ hh => PyProof.Rows.args_cons (wpAny_mono hh (fun u s₂ hh' => PyProof.Rows.args_nil hh') fun _ _ x => x) h2) fun _ _ x => x) h1) h1 (by rw [h2]; rfl)) hb hk hl hd hg hbn) (eval_Call_Name ..)
theorem tC1 {T : String} (G : Gd mg mb g) (F : LS g env cs s.heap σ mu) (hv : bootBuiltins x = some (.type T)) (h : wpAny M A (eval e₁ env) (fun v s₁ => wpAny M A (call (.type T) [v]) Q E s₁) E s)
    (hb : x ∈ bis := by decide) (hk : env.scope.kind = .function := by rfl) (hl : env.kindOf x = some .globalImplicit := by rfl) (hd : (x == ("__debug__" : Str)) = false := by decide) (hg : env.globals = mainGlobals := by rfl) (hbn : env.builtins = builtinsNs := by rfl)
    (h1 : starEach [e₁] env = (false, eval e₁ env) :: starEach [] env := by rfl) : wpAny M A (eval (.Call (.Name x p) [e₁] [] pos) env) Q E s := by
  refine Call_ (nB G F hv ?_ hb hk hl hd hg hbn) (eval_Call_Name ..)
  rw [h1]
  exact PySem.callWith_type rfl (Calls.evalArgs_plain (Calls.spliced_cons (wpAny_mono h (fun v s₁ hh => Calls.spliced_nil hh) fun _ _ x => x)))
theorem tC2 {T : String} (G : Gd mg mb g) (F : LS g env cs s.heap σ mu) (hv : bootBuiltins x = some (.type T)) (h : wpAny M A (eval e₁ env) (fun v s₁ => wpAny M A (eval e₂ env) (fun u s₂ => wpAny M A (call (.type T) [v, u]) Q E s₂) E s₁) E s)
    (hb : x ∈ bis := by decide) (hk : env.scope.kind = .function := by rfl) (hl : env.kindOf x = some .globalImplicit := by rfl) (hd : (x == ("__debug__" : Str)) = false := by decide) (hg : env.globals = mainGlobals := by rfl) (hbn : env.builtins = builtinsNs := by rfl)
    (h1 : starEach [e₁, e₂] env = (false, eval e₁ env) :: starEach [e₂] env := by rfl) (h2 : starEach [e₂] env = (false, eval e₂ env) :: starEach [] env := by rfl) : wpAny M A (eval (.Call (.Name x p) [e₁, e₂] [] pos) env) Q E s := by
  refine Call_ (nB G F hv ?_ hb hk hl hd hg hbn) (eval_Call_Name ..)
  rw [h1, h2]
  exact PySem.callWith_type rfl (Calls.evalArgs_plain (Calls.spliced_cons (wpAny_mono h (fun v s₁ hh => Calls.spliced_cons (wpAny_mono hh (fun u s₂ hh' => Calls.spliced_nil hh') fun _ _ x => x)) fun _ _ x => x)))
end
section
variable {M : Model} {A : Around} {E : Value → Shared → Prop} {s : Shared} {env : Env} {Q : Bool → Shared → Prop} {whole : Sem Value}
theorem tCall {f : Expr} {args : List Expr} {kws : List Keyword} {pos : Pos} (h : wpAny M A whole (fun v s₁ => wpAny M A (truthy v) Q E s₁) E s) : wpAny M A (isTrue (.Call f args kws pos) env whole) Q E s :=
  wpAny_isTrue_value (e := .Call f args kws pos) h rfl
theorem tName {x : Str} {pos : Pos} (h : wpAny M A whole (fun v s₁ => wpAny M A (truthy v) Q E s₁) E s) : wpAny M A (isTrue (.Name x pos) env whole) Q E s :=
  wpAny_isTrue_value (e := .Name x pos) h rfl
end
section
variable {prog : Program} {w : World} {A : Around} {E : Value → Shared → Prop} {s : Shared} {R : Result → Shared → Prop} {mg mb : Str → Option Value} {fa d : Addr} {ts : List (Int × Int)}
theorem none_of_ext {g h : Heap} (e : Ext g h) {a : Addr} (hn : h.get? a = none) : g.get? a = none := by
  cases q : g.get? a with
  | none => rfl
  | some o => have := e _ _ q; rw [hn] at this; cases this
theorem size_none (h : Heap) : h.get? h.objs.size = none := Heap.get?_none_of_le (Nat.le_refl _)
variable {env : Env} {cs : List (Str × Addr)} {g : Heap} {σ : Str → Option Value} {mu : List (Addr × Obj)} {K : Type} [DecidableEq K] {knd : KeyKind prog w K} {kvs : List (K × Value)}
/-- «for y in x.values(): ..» -/
theorem forVals {Q : Flow → Shared → Prop} {x y : Str} {p1 ap cp py pos : Pos} {body : List Stmt} (F : LS g env cs s.heap σ mu) (hh : A.handled = none) (hx : σ x = some (.ref d)) (hd : g.DictOf knd d kvs) (hds : (d == sysModules) = false)
    (J : Nat → Heap → (Str → Option Value) → List (Addr × Obj) → Prop) (hJ : J 0 g σ mu)
    (turn : ∀ i k v g' σ' mu' I oI h tk E', kvs[i]? = some (k, v) → Ext g g' → J i g' σ' mu' → LS g' env cs h (put σ' y v) ((I, oI) :: mu') →
      wpAny (model prog w) A (execs body env) (fun f s₃ => match f with
        | .next | .cont => Left s env cs g' I oI (J (i + 1)) s₃
        | .brk => Q .next s₃
        | .ret v => Q (.ret v) s₃) E' { s with heap := h, toks := tk })
    (done : ∀ g' σ' mu' h tk, Ext g g' → J kvs.length g' σ' mu' → LS g' env cs h σ' mu' → Q .next { s with heap := h, toks := tk })
    (hk : env.scope.kind = .function := by rfl) (hl : env.kindOf x = some .local := by rfl) (hy : env.kindOf y = some .local := by rfl) (hline : (ap.endLine == cp.line) = true := by rfl) (hxd : (x == ("__debug__" : Str)) = false := by decide)
    (hbase : attributeBase (.Name x p1) "values" env (eval (.Name x p1) env) = eval (.Name x p1) env := by rfl)
    (hs : ∀ z, foldedSetIterable (.Call (.Attribute (.Name x p1) "values" ap) [] [] cp) env z = pure z := by intro _; rfl) :
    wpAny (model prog w) A (exec (.For (.Name y py) (.Call (.Attribute (.Name x p1) "values" ap) [] [] cp) body [] pos) env) Q E s := by
  obtain ⟨ep, hd₀⟩ := hd.dictAt
  refine wpAny_For ?_ hs
  have hds' := hd.keep F.keep
  refine wpAny_Call_method (T := "dict") (id := "dict.values") hbase rfl hline PySem.F.plainAttrs_dict PySem.F.slot_dict_values PySem.F.type_dict_values (nL F hx ⟨hds'.typeIs, hds'.mapOf.noDict, ?_⟩ hk hl hxd)
  show wpAny _ _ (callWith _ (.builtin "dict.values") [.ref d] [] []) _ _ _
  refine method_meetsIn PySem.F.slot_dict_values PySem.F.entry_dict_values rfl (PyProof.Rows.evalArgs_none ⟨rfl, hds'.typeIs, PySem.F.args_dict_values_1 _, _, meets_dict_values knd d hds, ⟨_, hds'⟩, ?_⟩)
  show wpAny _ _ (pyIter (.ref s.heap.objs.size)) _ _ _
  have F₁ := (F.push { cls := .type "dict_values", data := .fields #[.ref d] }).tail
  refine wpAny_pyIter_values (knd := knd) (d := d) (kvs := kvs) (ep := ep) ⟨_, Heap.get?_push_size _ rfl, rfl, rfl⟩ ((hd₀.keep F.keep).push _) ?_
  generalize s.heap.push { cls := .type "dict_values", data := .fields #[.ref d] } = H at F₁ ⊢
  have hne : d ≠ H.objs.size := Nat.ne_of_lt ((hd₀.keep F₁.keep).lt_size)
  have F₂ := F₁.ext (h' := H.push { cls := .type "dict_valueiterator", data := .fields #[.ref d, .int 0 0, .int kvs.length 0, .int ep 0] }) fun b o e => Heap.get?_push_of_some _ e
  refine forW (s := { s with heap := H.push { cls := .type "dict_valueiterator", data := .fields #[.ref d, .int 0 0, .int kvs.length 0, .int ep 0] } }) (.inl hy) (Walks.dictValues (knd := knd) hh H.objs.size d hne kvs ep) (fun i h st => let ⟨o, ho, _⟩ := st.1; ⟨o, ho⟩) J F₂ (F₁.fresh (size_none H)) (none_of_ext F₁.keep (size_none H))
    (fun b hb => ?_) ⟨⟨_, Heap.get?_push_size _ rfl, rfl, rfl⟩, (hd₀.keep F₁.keep).push _⟩ hJ (fun i v g' σ' mu' oI h tk E' hi hP hg hJ' F' => ?_) (fun g' σ' mu' h tk hg hJ' F' => done g' σ' mu' h tk hg hJ' F') hk
  · rcases List.mem_cons.mp hb with rfl | hb
    · exact .inl rfl
    · rw [List.mem_singleton.mp hb]
      obtain ⟨o, es, ho, _⟩ := hd₀
      exact .inr ⟨o, ho⟩
  · obtain ⟨k, hkv⟩ := hP
    exact turn i k v g' σ' mu' _ oI h tk E' hkv hg hJ' F'
theorem forIts {Q : Flow → Shared → Prop} {x xk xv : Str} {p1 ap cp pk pv pt pos : Pos} {x1 : Nat} {body : List Stmt} (F : LS g env cs s.heap σ mu) (hh : A.handled = none) (hx : σ x = some (.ref d)) (hd : g.DictOf knd d kvs) (hds : (d == sysModules) = false)
    (J : Nat → Heap → (Str → Option Value) → List (Addr × Obj) → Prop) (hJ : J 0 g σ mu)
    (turn : ∀ i k v key g' σ' mu' I oI h tk E', kvs[i]? = some (k, v) → knd.is k key = true → Ext g g' → J i g' σ' mu' → LS g' env cs h (put (put σ' xk key) xv v) ((I, oI) :: mu') →
      wpAny (model prog w) A (execs body env) (fun f s₃ => match f with
        | .next | .cont => Left s env cs g' I oI (J (i + 1)) s₃
        | .brk => Q .next s₃
        | .ret v => Q (.ret v) s₃) E' { s with heap := h, toks := tk })
    (done : ∀ g' σ' mu' h tk, Ext g g' → J kvs.length g' σ' mu' → LS g' env cs h σ' mu' → Q .next { s with heap := h, toks := tk })
    (hk : env.scope.kind = .function := by rfl) (hl : env.kindOf x = some .local := by rfl) (hy : env.kindOf xk = some .local := by rfl) (hy' : env.kindOf xv = some .local := by rfl) (hline : (ap.endLine == cp.line) = true := by rfl) (hxd : (x == ("__debug__" : Str)) = false := by decide)
    (hbase : attributeBase (.Name x p1) "items" env (eval (.Name x p1) env) = eval (.Name x p1) env := by rfl)
    (hs : ∀ z, foldedSetIterable (.Call (.Attribute (.Name x p1) "items" ap) [] [] cp) env z = pure z := by intro _; rfl) :
    wpAny (model prog w) A (exec (.For (.Tuple [.Name xk pk, .Name xv pv] x1 pt) (.Call (.Attribute (.Name x p1) "items" ap) [] [] cp) body [] pos) env) Q E s := by
  obtain ⟨ep, hd₀⟩ := hd.dictAt
  refine wpAny_For ?_ hs
  have hds' := hd.keep F.keep
  refine wpAny_Call_items (knd := knd) hds hds' hbase hline (fun Q' hq => nL F hx hq hk hl hxd) ?_
  show wpAny _ _ (pyIter (.ref s.heap.objs.size)) _ _ _
  have F₁ := (F.push { cls := .type "dict_items", data := .fields #[.ref d] }).tail
  refine wpAny_pyIter_items (knd := knd) (d := d) (kvs := kvs) (ep := ep) ⟨_, Heap.get?_push_size _ rfl, rfl, rfl⟩ ((hd₀.keep F.keep).push _) ?_
  generalize s.heap.push { cls := .type "dict_items", data := .fields #[.ref d] } = H at F₁ ⊢
  have F₂ := F₁.ext (h' := H.push { cls := .type "dict_itemiterator", data := .fields #[.none, .bool false, .ref d, .int 0 0, .int kvs.length 0, .int ep 0, .none, .none] }) fun b o e => Heap.get?_push_of_some _ e
  exact forItems (s := { s with heap := H.push { cls := .type "dict_itemiterator", data := .fields #[.none, .bool false, .ref d, .int 0 0, .int kvs.length 0, .int ep 0, .none, .none] } }) (knd := knd) hh hy hy' J F₂ (F₁.fresh (size_none H)) (none_of_ext F₁.keep (size_none H))
    (Heap.get?_push_size _ rfl) hd₀ hJ (fun i k v key g' σ' mu' oI h tk E' h1 h2 h3 h4 h5 => turn i k v key g' σ' mu' _ oI h tk E' h1 h2 h3 h4 h5) (fun g' σ' mu' h tk hg hJ' F' => done g' σ' mu' h tk hg hJ' F') hk
end
section
variable {prog : Program} {w : World} {A : Around} {E : Value → Shared → Prop} {s : Shared} {R : Result → Shared → Prop} {mg mb : Str → Option Value} {fa d : Addr} {ts : List (Int × Int)}
theorem map_sum_take (l : List (Int × Int × Tok)) (i : Nat) (x : Int × Int × Tok) (hx : l[i]? = some x) : ((l.take (i + 1)).map (·.2.1)).sum = ((l.take i).map (·.2.1)).sum + x.2.1 := by
  rw [List.take_add_one, hx]; simp
theorem intPairs_get {K : Type} [DecidableEq K] (vals : List (K × Int × Tok)) (i : Nat) (k : K) (v : Value) (h : (intPairs vals)[i]? = some (k, v)) : ∃ n t, v = .int n t ∧ vals[i]? = some (k, n, t) := by
  unfold intPairs at h
  rw [List.getElem?_map] at h
  cases q : vals[i]? with
  | none => rw [q] at h; cases h
  | some x => rw [q] at h; obtain ⟨a, b, c⟩ := x; cases h; exact ⟨_, _, rfl, rfl⟩
theorem cnt_spec (G : Gd mg mb s.heap) (hA : Okk A 1) (hf : mg dCnt.name = some (.ref fa)) (T : Tab prog w s.heap d ts)
    (k : ∀ h tk t, Ext s.heap h → R (.ok (.ret (.int (ts.map (·.2)).sum t))) { s with heap := h, toks := tk }) :
    codeAny (model prog w) A (.call (.ref fa) ⟨[.ref d], []⟩) R s := by
  obtain ⟨hds, vals, hd, rfl⟩ := T
  refine enter dCnt (binds := [("callers", .ref d)]) (by unfold recs; simp) G hf hA.room (fun _ _ _ => rfl) (loc1 rfl) fun L cd h₁ tk F => ?_
  replace F := F.congr (one_bind _ _)
  have hA' := hA.deeper (env := envOf dCnt.name dCnt.scope L fa cd)
  refine wpAny_execs_cons (wpAny_Assign_Name (wpAny_Constant_int (sL F fun h₂ tk₂ F => ?_)))
  dsimp only
  refine wpAny_execs_cons (forVals F hA'.hh (by walk_at "lk") hd hds (fun i g σ mu => ∃ t, σ "nc" = some (.int ((vals.take i).map (·.2.1)).sum t) ∧ mu = []) ⟨_, put_eq, rfl⟩ ?_ ?_)
  · rintro i k v g σ mu I oI h tk E' hkv hg ⟨t, hnc, rfl⟩ F
    obtain ⟨n, tn, rfl, hv⟩ := intPairs_get _ _ _ _ hkv
    refine wpAny_execs_cons (wpAny_AugAssign_Name (nLld F (by walk_at "lk") (nL F (by walk_at "lk") (iadd_int (sL F fun h' tk' F => ?_)))))
    exact wpAny_execs_nil ⟨_, _, _, _, _, rfl, fun _ _ e => e, F, _, by rw [map_sum_take _ _ _ hv]; exact put_eq, rfl⟩
  · rintro g σ mu h tk hg ⟨t, hnc, rfl⟩ F
    refine wpAny_execs_cons (wpAny_Return_some (nL F hnc ?_))
    have e : (vals.take (intPairs vals).length).map (·.2.1) = (vals.map (fun x => (x.1, x.2.1))).map (·.2) := by
      rw [show (intPairs vals).length = vals.length from by simp [intPairs], List.take_length, List.map_map]; rfl
    dsimp only
    rw [e]
    exact k h _ _ fun b o q => F.keep _ _ (hg _ _ q)
end
end
section
local macro_rules | `(tactic| walk_at "lk") => `(tactic| first | exact put_eq | (refine (put_ne (by decide)).trans ?_; walk_at "lk") | assumption | rfl)
def bump (acc : List (Int × Int)) (k v : Int) : List (Int × Int) := if acc.any (fun p => decide (p.1 = k)) then acc.map (fun p => if p.1 = k then (p.1, p.2 + v) else p) else acc ++ [(k, v)]
def addT (ts us : List (Int × Int)) : List (Int × Int) := us.foldl (fun acc p => bump acc p.1 p.2) ts
abbrev strip (vals : List (Int × Int × Tok)) : List (Int × Int) := vals.map (fun x => (x.1, x.2.1))
def setV (vals : List (Int × Int × Tok)) (k v : Int) (t : Tok) : List (Int × Int × Tok) := if vals.any (fun x => decide (x.1 = k)) then vals.map (fun x => if x.1 = k then (x.1, v, t) else x) else vals ++ [(k, v, t)]
theorem stored_intPairs (vals : List (Int × Int × Tok)) (k v : Int) (t : Tok) : stored (intPairs vals) k (.int v t) = intPairs (setV vals k v t) := by
  unfold stored setV intPairs
  have e : ((vals.map fun x => (x.1, Value.int x.2.1 x.2.2)).any fun kv => decide (kv.1 = k)) = vals.any fun x => decide (x.1 = k) := by
    rw [List.any_map]; rfl
  rw [e]
  cases vals.any fun x => decide (x.1 = k) with
  | true =>
    simp only [if_true, List.map_map]
    refine List.map_congr_left fun x _ => ?_
    simp only [Function.comp]
    split <;> simp [*]
  | false => simp
theorem strip_any (vals : List (Int × Int × Tok)) (k : Int) : ((strip vals).any fun p => decide (p.1 = k)) = vals.any fun x => decide (x.1 = k) := by
  unfold strip; rw [List.any_map]; rfl
theorem strip_setV_new {vals : List (Int × Int × Tok)} {k v : Int} {t : Tok} (h : (vals.any fun x => decide (x.1 = k)) = false) : strip (setV vals k v t) = strip vals ++ [(k, v)] := by
  unfold setV; rw [h]; simp
theorem strip_bump_new {vals : List (Int × Int × Tok)} {k v : Int} {t : Tok} (h : (vals.any fun x => decide (x.1 = k)) = false) : strip (setV vals k v t) = bump (strip vals) k v := by
  rw [strip_setV_new h]; unfold bump; rw [strip_any, h]; simp
theorem uniq_key {vals : List (Int × Int × Tok)} {x y : Int × Int × Tok} (hnd : (vals.map (·.1)).Nodup) (hx : x ∈ vals) (hy : y ∈ vals) (e : x.1 = y.1) : x = y := by
  induction vals with
  | nil => cases hx
  | cons z r ih =>
    obtain ⟨h1, h2⟩ := List.nodup_cons.mp hnd
    rcases List.mem_cons.mp hx with q | hx'
    · rcases List.mem_cons.mp hy with q' | hy'
      · rw [q, q']
      · exact absurd (show z.1 ∈ r.map (·.1) from List.mem_map.mpr ⟨_, hy', by rw [← q]; exact e.symm⟩) h1
    · rcases List.mem_cons.mp hy with q' | hy'
      · exact absurd (show z.1 ∈ r.map (·.1) from List.mem_map.mpr ⟨x, hx', by rw [← q']; exact e⟩) h1
      · exact ih h2 hx' hy'
theorem strip_bump_old {vals : List (Int × Int × Tok)} {k v n : Int} {t t' : Tok} (hnd : (vals.map (·.1)).Nodup) (h : vals.find? (fun x => decide (x.1 = k)) = some (k, n, t')) : strip (setV vals k (n + v) t) = bump (strip vals) k v := by
  have ha : (vals.any fun x => decide (x.1 = k)) = true := by
    rw [List.any_eq_true]; exact ⟨_, List.mem_of_find?_eq_some h, by simp⟩
  have hm := List.mem_of_find?_eq_some h
  unfold bump setV
  rw [strip_any, ha]
  simp only [if_true]
  unfold strip
  rw [List.map_map, List.map_map]
  refine List.map_congr_left fun x hx => ?_
  simp only [Function.comp]
  by_cases e : x.1 = k
  · have : x = (k, n, t') := uniq_key hnd hx hm e
    subst this
    simp
  · simp [e]
theorem setV_length (vals : List (Int × Int × Tok)) (k v : Int) (t : Tok) : (setV vals k v t).length ≤ vals.length + 1 := by
  unfold setV; split <;> simp
theorem Tab.at {prog : Program} {w : World} {h h' : Heap} {a : Addr} {ts : List (Int × Int)} (T : Tab prog w h a ts) (e : ∀ o, h.get? a = some o → h'.get? a = some o) : Tab prog w h' a ts := by
  obtain ⟨h1, vals, ⟨o, es, ep, ho, r⟩, h3⟩ := T
  exact ⟨h1, vals, ⟨o, es, ep, e _ ho, r⟩, h3⟩
theorem keys_intPairs (vals : List (Int × Int × Tok)) : (intPairs vals).map (·.1) = vals.map (·.1) := by unfold intPairs; rw [List.map_map]; rfl
theorem dictOf_nodup {prog : Program} {w : World} {h : Heap} {a : Addr} {vals : List (Int × Int × Tok)} (hd : h.DictOf (intKind prog w) a (intPairs vals)) : (vals.map (·.1)).Nodup := by
  obtain ⟨o, es, ep, _, _, _, _, _, hn⟩ := hd; rw [keys_intPairs] at hn; exact hn
theorem length_intPairs (vals : List (Int × Int × Tok)) : (intPairs vals).length = vals.length := by simp [intPairs]
theorem sl : sizeLine = 16777216 := rfl
section
variable {prog : Program} {w : World} {A : Around} {E : Value → Shared → Prop} {s : Shared} {R : Result → Shared → Prop} {mg mb : Str → Option Value} {fa d d' : Addr} {ts us : List (Int × Int)}
theorem find_of_valueAt {vals : List (Int × Int × Tok)} {k : Int} {v : Value} (h : valueAt (intPairs vals) k = some v) : ∃ n t, v = .int n t ∧ vals.find? (fun x => decide (x.1 = k)) = some (k, n, t) := by
  rw [valueAt_intPairs] at h
  cases q : vals.find? (fun x => decide (x.1 = k)) with
  | none => rw [q] at h; cases h
  | some x =>
    rw [q] at h
    obtain ⟨a, b, c⟩ := x
    have := List.find?_some q
    simp at this
    subst this
    cases h; exact ⟨b, c, rfl, rfl⟩
theorem any_of_valueAt {vals : List (Int × Int × Tok)} {k : Int} (h : valueAt (intPairs vals) k = none) : (vals.any fun x => decide (x.1 = k)) = false := by
  rw [valueAt_intPairs] at h
  cases q : vals.find? (fun x => decide (x.1 = k)) with
  | some x => rw [q] at h; cases h
  | none =>
    rw [List.find?_eq_none] at q
    rw [List.any_eq_false]
    exact q
set_option maxHeartbeats 1000000 in
theorem add_spec (G : Gd mg mb s.heap) (hA : Okk A 1) (hf : mg dAdd.name = some (.ref fa)) (T : Tab prog w s.heap d ts) (U : Tab prog w s.heap d' us) (hsz : ts.length + us.length ≤ 1000)
    (k : ∀ h tk r, Ext s.heap h → s.heap.get? r = none → Tab prog w h r (addT ts us) → R (.ok (.ret (.ref r))) { s with heap := h, toks := tk }) :
    codeAny (model prog w) A (.call (.ref fa) ⟨[.ref d, .ref d'], []⟩) R s := by
  obtain ⟨hds, vals, hd, rfl⟩ := T
  obtain ⟨hds', vals', hd', rfl⟩ := U
  have hnd := dictOf_nodup hd
  have hsz' : vals.length + vals'.length ≤ 1000 := by simpa using hsz
  refine enter dAdd (binds := [("target", .ref d), ("source", .ref d')]) (by unfold recs; simp) G hf hA.room (fun _ _ _ => rfl) (loc2 rfl rfl) fun L cd h₁ tk F => ?_
  replace F := F.congr (two_binds _ _ _ _)
  have hA' := hA.deeper (env := envOf dAdd.name dAdd.scope L fa cd)
  have F' := F.push { cls := .type "dict", data := .dict #[] }
  have hD0 : Obj.IsDictOf (intKind prog w) { cls := .type "dict", data := .dict #[] } (intPairs []) := by
    obtain ⟨o, es, ep, ho, r⟩ := Heap.DictOf.new (knd := intKind prog w) h₁
    rw [Heap.get?_push_size _ rfl] at ho; cases ho
    exact ⟨es, ep, r⟩
  have hDs : (h₁.objs.size == sysModules) = false := beq_false_of_ne (Nat.ne_of_gt (modules_low (G.keeps F.keep).nolimit))
  have hDf : s.heap.get? h₁.objs.size = none := none_of_ext F.keep (size_none h₁)
  refine wpAny_execs_cons (wpAny_Assign_Name (wpAny_Dict_empty (sL F' fun h₂ tk₂ F => ?_)))
  clear F'
  generalize h₁.objs.size = D at F hDs hDf
  generalize ({ cls := .type "dict", data := .dict #[] } : Obj) = o₀ at F hD0
  dsimp only
  refine wpAny_execs_cons (forIts F hA'.hh (by walk_at "lk") hd hds (fun i g σ mu => ∃ oD vs, σ "new_callers" = some (.ref D) ∧ σ "source" = some (.ref d') ∧ mu = [(D, oD)] ∧ Obj.IsDictOf (intKind prog w) oD (intPairs vs) ∧ strip vs = (strip vals).take i) ⟨_, [], by walk_at "lk", by walk_at "lk", rfl, hD0, rfl⟩ ?_ ?_)
  · rintro i k v key g σ mu I oI h tk E' hkv hkey hg ⟨oD, vs, hs1, hs2, rfl, hI, hvs⟩ F
    obtain ⟨n, tn, rfl, hv⟩ := intPairs_get _ _ _ _ hkv
    have hm : h.DictOf (intKind prog w) D (intPairs vs) := Heap.dictOf_iff.mpr ⟨oD, F.led (D, oD) (by simp), hI⟩
    have hlt : i < vals.length := (List.getElem?_eq_some_iff.mp hv).1
    have hlen : vs.length = i := by have := congrArg List.length hvs; simp at this; omega
    have hno : (vs.any fun x => decide (x.1 = k)) = false := by
      rw [← strip_any, hvs]
      rw [List.any_eq_false]
      intro p hp hc
      have hpk : p.1 = k := by simpa using hc
      obtain ⟨j, hj, hjp⟩ := List.mem_take_iff_getElem.mp hp
      have hj1 : j < i := by omega
      have hj2 : j < vals.length := by omega
      have e1 : (vals.map (·.1))[j]'(by simp; omega) = k := by
        have : (strip vals)[j]'(by simp; omega) = p := hjp
        rw [← hpk, ← this]; simp [strip]
      have e2 : (vals.map (·.1))[i]'(by simp; omega) = k := by
        obtain ⟨_, hvi⟩ := List.getElem?_eq_some_iff.mp hv
        simp [hvi]
      exact List.pairwise_iff_getElem.mp hnd j i (by simp; omega) (by simp; omega) hj1 (e1.trans e2.symm)
    refine wpAny_execs_cons (wpAny_Assign_Subscript (nL F (by walk_at "lk") (nL F (by walk_at "lk") (nL F (by walk_at "lk") (wpAny_setItem_pairs hkey hm (fun h' hm' hs' => ?_) (by rw [length_intPairs, sl]; omega))))))
    dsimp only
    rw [stored_intPairs] at hm'
    obtain ⟨o', ho', hI'⟩ := Heap.dictOf_iff.mp hm'
    have F' := LS.upd (pre := [(I, oI)]) (post := []) F hs' ho'
    refine wpAny_execs_nil ⟨g, _, _, h', _, rfl, fun _ _ e => e, F', o', _, by walk_at "lk", by walk_at "lk", rfl, hI', ?_⟩
    rw [strip_setV_new hno, hvs, List.take_add_one]
    simp [strip, hv]
  · rintro g σ mu h tk hg ⟨oD, vs, hs1, hs2, rfl, hI, hvs⟩ F
    rw [length_intPairs, show (strip vals).take vals.length = strip vals from List.take_of_length_le (by simp)] at hvs
    have hg' : Ext s.heap g := hg
    dsimp only
    refine wpAny_execs_cons (forIts F hA'.hh (by walk_at "lk") (hd'.keep hg) hds' (fun i g σ mu => ∃ oD vs, σ "new_callers" = some (.ref D) ∧ mu = [(D, oD)] ∧ Obj.IsDictOf (intKind prog w) oD (intPairs vs) ∧ strip vs = addT (strip vals) ((strip vals').take i) ∧ vs.length ≤ vals.length + i) ⟨oD, vs, hs1, rfl, hI, by simp [addT, hvs], by have := congrArg List.length hvs; simp at this; omega⟩ ?_ ?_)
    · rintro i k v key g' σ' mu' I oI h tk E' hkv hkey hg₂ ⟨oD, vs, hs1, rfl, hI, hvs, hvl⟩ F
      obtain ⟨n, tn, rfl, hv⟩ := intPairs_get _ _ _ _ hkv
      have hm : h.DictOf (intKind prog w) D (intPairs vs) := Heap.dictOf_iff.mpr ⟨oD, F.led (D, oD) (by simp), hI⟩
      have hlt : i < vals'.length := (List.getElem?_eq_some_iff.mp hv).1
      have hnd' := dictOf_nodup hm
      have hstep : addT (strip vals) ((strip vals').take (i + 1)) = bump (addT (strip vals) ((strip vals').take i)) k n := by
        unfold addT
        rw [List.take_add_one]
        simp [strip, hv]
      refine wpAny_execs_cons (wpAny_If (wpAny_isTrue_Compare1 (nL F (by walk_at "lk") (nL F (by walk_at "lk") (wpAny_in_of hkey hDs hm.mapOf (wpAny_truthy_bool ?_))))))
      cases hvk : valueAt (intPairs vs) k with
      | none =>
        simp only [Option.isSome_none, Bool.false_eq_true, if_false]
        refine wpAny_execs_cons (wpAny_Assign_Subscript (nL F (by walk_at "lk") (nL F (by walk_at "lk") (nL F (by walk_at "lk") (wpAny_setItem_pairs hkey hm (fun h' hm' hs' => ?_) (by rw [length_intPairs, sl]; omega))))))
        dsimp only
        rw [stored_intPairs] at hm'
        obtain ⟨o', ho', hI'⟩ := Heap.dictOf_iff.mp hm'
        have F' := LS.upd (pre := [(I, oI)]) (post := []) F hs' ho'
        refine wpAny_execs_nil (wpAny_execs_nil ⟨g', _, _, h', _, rfl, fun _ _ e => e, F', o', _, by walk_at "lk", rfl, hI', ?_, ?_⟩)
        · rw [strip_bump_new (any_of_valueAt hvk), hvs, hstep]
        · have := setV_length vs k n tn; omega
      | some v₀ =>
        obtain ⟨n₀, t₀, rfl, hfind⟩ := find_of_valueAt hvk
        simp only [Option.isSome_some, if_true]
        have G' := G.keeps (fun b o e => hg₂ _ _ (hg _ _ e))
        refine wpAny_execs_cons (wpAny_If (tCall (bC2 G' F boot_isinstance (nL F (by walk_at "lk") (nB G' F boot_tuple ?_)))))
        refine PySem.IsiPair.int_tuple (wpAny_truthy_bool ?_)
        simp only [Bool.false_eq_true, if_false]
        refine wpAny_execs_cons (wpAny_AugAssign_Subscript ?_)
        refine nL F (by walk_at "lk") ?_
        refine nL F (by walk_at "lk") ?_
        refine wpAny_getItem_of hkey hm.mapOf hvk ?_
        refine nL F (by walk_at "lk") ?_
        refine iadd_int ?_
        refine wpAny_setItem_pairs hkey hm (fun h' hm' hs' => ?_) (by rw [length_intPairs, sl]; omega)
        dsimp only
        rw [stored_intPairs] at hm'
        obtain ⟨o', ho', hI'⟩ := Heap.dictOf_iff.mp hm'
        have F' := LS.upd (pre := [(I, oI)]) (post := []) F hs' ho'
        refine wpAny_execs_nil (wpAny_execs_nil (wpAny_execs_nil ⟨g', _, _, h', _, rfl, fun _ _ e => e, F', o', _, by walk_at "lk", rfl, hI', ?_, ?_⟩))
        · rw [strip_bump_old hnd' hfind, hvs, hstep]
        · refine Nat.le_trans (setV_length _ _ _ _) ?_; omega
    · rintro g' σ' mu' h tk hg₂ ⟨oD, vs, hs1, rfl, hI, hvs, hvl⟩ F
      rw [length_intPairs, show (strip vals').take vals'.length = strip vals' from List.take_of_length_le (by simp)] at hvs
      refine wpAny_execs_cons (wpAny_Return_some (nL F hs1 ?_))
      dsimp only
      exact k h _ D (fun b o e => F.keep _ _ (hg₂ _ _ (hg _ _ e))) hDf ⟨hDs, vs, Heap.dictOf_iff.mpr ⟨oD, F.led (D, oD) (by simp), hI⟩, hvs⟩
end
end
section
local macro_rules | `(tactic| walk_at "lk") => `(tactic| first | exact put_eq | (refine (put_ne (by decide)).trans ?_; walk_at "lk") | assumption | rfl)
/-- a plain list of ints -/
def NL (h : Heap) (a : Addr) (ns : List Int) : Prop := ∃ vs n, IsL h a vs.toArray n ∧ IntsAre vs ns
theorem NL.at {h h' : Heap} {a : Addr} {ns : List Int} (T : NL h a ns) (e : ∀ o, h.get? a = some o → h'.get? a = some o) : NL h' a ns := let ⟨vs, n, h1, h2⟩ := T; ⟨vs, n, e _ h1, h2⟩
theorem NL.keep {h h' : Heap} {a : Addr} {ns : List Int} (T : NL h a ns) (e : Ext h h') : NL h' a ns := T.at (e a)
theorem three_binds (a b c : Str) (va vb vc : Value) (x : Str) : ([(a, va), (b, vb), (c, vc)] : List (Str × Value)).reverse.lookup x = put (put (put (fun _ => none) a va) b vb) c vc x := by
  have e : ([(a, va), (b, vb), (c, vc)] : List (Str × Value)).reverse = (c, vc) :: [(a, va), (b, vb)].reverse := by simp
  rw [e]
  by_cases h : x = c
  · subst h; simp [put]
  · have h1 : (x == c) = false := by simpa using h
    rw [put_ne h, List.lookup_cons, h1]
    exact two_binds a b va vb x
theorem loc3 {sc : Scope} {a b c : Str} {va vb vc : Value} (h : sc.names.lookup a = some .local) (h' : sc.names.lookup b = some .local) (h'' : sc.names.lookup c = some .local) : ∀ x ∈ ([(a, va), (b, vb), (c, vc)] : List (Str × Value)), sc.names.lookup x.1 = some .local := by
  intro x hx
  rcases List.mem_cons.mp hx with rfl | hx
  · exact h
  · exact loc2 h' h'' x hx
section
variable {prog : Program} {w : World} {A : Around} {E : Value → Shared → Prop} {s : Shared} {env : Env} {cs : List (Str × Addr)} {g : Heap} {σ : Str → Option Value} {mu : List (Addr × Obj)}
/-- «for y in ..» over a list that stands -/
theorem forList {Q : Flow → Shared → Prop} {y : Str} {py : Pos} {l : Addr} {items : Array Value} {body : List Stmt} (F : LS g env cs s.heap σ mu) (hh : A.handled = none) (hl : g.IsList l items) (hy : env.kindOf y = some .local ∨ ∃ c, (y, c) ∈ cs)
    (J : Nat → Heap → (Str → Option Value) → List (Addr × Obj) → Prop) (hJ : J 0 g σ mu)
    (turn : ∀ i v g' σ' mu' I oI h tk E', items[i]? = some v → Ext g g' → J i g' σ' mu' → LS g' env cs h (put σ' y v) ((I, oI) :: mu') →
      wpAny (model prog w) A (execs body env) (fun f s₃ => match f with
        | .next | .cont => Left s env cs g' I oI (J (i + 1)) s₃
        | .brk => Q .next s₃
        | .ret v => Q (.ret v) s₃) E' { s with heap := h, toks := tk })
    (done : ∀ g' σ' mu' h tk, Ext g g' → J items.size g' σ' mu' → LS g' env cs h σ' mu' → Q .next { s with heap := h, toks := tk })
    (hk : env.scope.kind = .function := by rfl) :
    wpAny (model prog w) A (pyIter (.ref l)) (fun it s₂ => codeAny (model prog w) A (.forLoop (.Name y py) it body [] env) (fun r s' => match r with | .ok f => Q f s' | .error e => cameBackBy (model prog w) A env E e s') s₂) E s := by
  refine wpAny_pyIter_list (hl.at fun o e => F.keep _ _ e) ?_
  have hls : s.heap.IsList l items := hl.at fun o e => F.keep _ _ e
  obtain ⟨ol, hol, _⟩ := id hl
  have hne : l ≠ s.heap.objs.size := Nat.ne_of_lt (Heap.lt_size (F.keep _ _ hol))
  have F₂ := F.ext (h' := s.heap.push { cls := .type "list_iterator", data := .fields #[.ref l, .int 0 0] }) fun b o e => Heap.get?_push_of_some _ e
  refine forW (s := { s with heap := s.heap.push { cls := .type "list_iterator", data := .fields #[.ref l, .int 0 0] } }) hy (Walks.list hh s.heap.objs.size l hne items) (fun i h st => let ⟨o, ho, _⟩ := st.1; ⟨o, ho⟩) J F₂ (F.fresh (size_none s.heap)) (none_of_ext F.keep (size_none s.heap))
    (fun b hb => ?_) ⟨⟨_, Heap.get?_push_size _ rfl, rfl, rfl⟩, hls.at fun o e => Heap.get?_push_of_some _ e⟩ hJ (fun i v g' σ' mu' oI h tk E' hi hP hg hJ' F' => turn i v g' σ' mu' _ oI h tk E' hP hg hJ' F') (fun g' σ' mu' h tk hg hJ' F' => done g' σ' mu' h tk hg hJ' F') hk
  rcases List.mem_cons.mp hb with rfl | hb
  · exact .inl rfl
  · rw [List.mem_singleton.mp hb]; exact .inr ⟨ol, hol⟩
end
section
variable {prog : Program} {w : World} {A : Around} {E : Value → Shared → Prop} {s : Shared} {R : Result → Shared → Prop} {mg mb : Str → Option Value} {fa d l : Addr} {ts us : List (Int × Int)} {ns : List Int} {c : Int} {tc : Tok}
theorem addT_one (ts : List (Int × Int)) (k v : Int) : addT ts [(k, v)] = bump ts k v := rfl
theorem bump_length (ts : List (Int × Int)) (k v : Int) : (bump ts k v).length ≤ ts.length + 1 := by unfold bump; split <;> simp
theorem newDict_is (prog : Program) (w : World) : Obj.IsDictOf (intKind prog w) { cls := .type "dict", data := .dict #[] } [] := by
  obtain ⟨o, es, ep, ho, r⟩ := Heap.DictOf.new (knd := intKind prog w) {}
  rw [Heap.get?_push_size _ rfl] at ho; cases ho
  exact ⟨es, ep, r⟩
set_option maxHeartbeats 1000000 in
theorem laid_spec (G : Gd mg mb s.heap) (hA : Okk A 2) (hf : mg dLaid.name = some (.ref fa)) (T : Tab prog w s.heap d ts) (N : NL s.heap l ns) (hsz : ts.length + ns.length ≤ 900)
    (k : ∀ h tk r, Ext s.heap h → (s.heap.get? r = none ∨ r = d) → Tab prog w h r (ns.foldl (fun a n => bump a n c) ts) → R (.ok (.ret (.ref r))) { s with heap := h, toks := tk }) :
    codeAny (model prog w) A (.call (.ref fa) ⟨[.ref d, .ref l, .int c tc], []⟩) R s := by
  obtain ⟨vs, nl, hl, hI⟩ := N
  refine enter dLaid (binds := [("table", .ref d), ("sizes", .ref l), ("count", .int c tc)]) (by unfold recs; simp) G hf hA.room (fun _ _ _ => rfl) (loc3 rfl rfl rfl) fun L cd h₁ tk F => ?_
  replace F := F.congr (three_binds _ _ _ _ _ _)
  have hA' := hA.deeper (env := envOf dLaid.name dLaid.scope L fa cd)
  refine wpAny_execs_cons (wpAny_Assign_Name (nL F (by walk_at "lk") (sL F fun h₂ tk₂ F => ?_)))
  dsimp only
  refine wpAny_execs_cons (wpAny_For (nL F (by walk_at "lk") (forList F hA'.hh hl.isList (.inl rfl) (fun i g σ mu => ∃ r, σ "laid" = some (.ref r) ∧ σ "count" = some (.int c tc) ∧ mu = [] ∧ (s.heap.get? r = none ∨ r = d) ∧ Tab prog w g r ((ns.take i).foldl (fun a n => bump a n c) ts) ∧ ((ns.take i).foldl (fun a n => bump a n c) ts).length ≤ ts.length + i) ⟨d, by walk_at "lk", by walk_at "lk", rfl, .inr rfl, T, by simp⟩ ?_ ?_)))
  · rintro i v g σ mu I oI h tk E' hv hg ⟨r, hs1, hs2, rfl, hr, T, hlen⟩ F
    obtain ⟨n, t, rfl, hn⟩ := hI.at i v (by simpa using hv)
    have hi : i < ns.length := (List.getElem?_eq_some_iff.mp hn).1
    have G' := G.keeps hg
    refine wpAny_execs_cons (wpAny_Assign_Name (cDef dAdd G' F (by unfold recs; simp) rfl fun fa' hfa' => ?_))
    refine args_cons (nL F (by walk_at "lk") (args_cons ?_))
    have F' := F.push { cls := .type "dict", data := .dict #[] }
    refine wpAny_Dict_walk (knd := intKind prog w) rfl rfl (by simp) (by decide) (pairTrees_cons_walk (nL F' (by walk_at "lk") (nL F' (by walk_at "lk") (pairTrees_nil_walk (display_done_int rfl (by simp [intKeyPairs]) (Heap.dictOf_iff.mpr ⟨_, Heap.get?_push_size _ rfl, newDict_is prog w⟩) fun h' hm hs => ?_)))))
    have hDs : (h.objs.size == sysModules) = false := beq_false_of_ne (Nat.ne_of_gt (modules_low (G'.keeps F.keep).nolimit))
    obtain ⟨o', ho', hI'⟩ := Heap.dictOf_iff.mp hm
    have F'' := LS.upd (pre := []) (post := _) F' hs ho'
    have U : Tab prog w h' h.objs.size [(n, c)] := ⟨hDs, [(n, c, tc)], hm, rfl⟩
    refine args_nil ⟨F''.keep, ?_⟩
    dsimp only
    refine add_spec (G'.keeps F''.keep) hA' hfa' (T.keep F''.keep) U (by simp; omega) fun h₃ tk₃ r' hx hr' T' => ?_
    dsimp only
    rw [addT_one] at T'
    have F₃ := F''.tail.ext hx
    obtain ⟨g', hgg, F₅, hfr, _, _⟩ := F₃.rebase
    refine sL F₅ fun h₄ tk₄ F₄ => ?_
    have hstep : (ns.take (i + 1)).foldl (fun a n => bump a n c) ts = bump ((ns.take i).foldl (fun a n => bump a n c) ts) n c := by
      rw [List.take_add_one, hn]; simp
    refine wpAny_execs_nil ⟨g', _, _, h₄, _, rfl, hgg, F₄, r', by walk_at "lk", by walk_at "lk", rfl, .inl (none_of_ext (fun b o e => F''.keep _ _ (hg _ _ e)) hr'), ?_, ?_⟩
    · rw [hstep]; exact T'.at fun o e => hfr _ _ (F''.tail.fresh hr') e
    · rw [hstep]; have := bump_length ((ns.take i).foldl (fun a n => bump a n c) ts) n c; omega
  · rintro g σ mu h tk hg ⟨r, hs1, hs2, rfl, hr, T, hlen⟩ F
    refine wpAny_execs_cons (wpAny_Return_some (nL F hs1 ?_))
    dsimp only
    rw [show vs.toArray.size = ns.length by simp [hI.length], List.take_length] at T
    exact k h _ r (fun b o e => F.keep _ _ (hg _ _ e)) hr (T.keep F.keep)
end
end
section
local macro_rules | `(tactic| walk_at "lk") => `(tactic| first | exact put_eq | (refine (put_ne (by decide)).trans ?_; walk_at "lk") | assumption | rfl)
abbrev lobj (vs : List Value) (n : Nat) : Obj := { cls := .type "list", dict := none, data := .seq vs.toArray n, slots := #[] }
def eqI (n : Int) : Value → Bool
  | .int m _ => m == n
  | _ => false
theorem eqI_gives {vs : List Value} {ns : List Int} (hI : IntsAre vs ns) (n : Int) (t : Tok) : ∀ y, y ∈ vs.toArray → MeetsSeq.EqGives y (.int n t) (eqI n y) := by
  intro y hy
  obtain ⟨m, u, rfl⟩ := hI.all y (by simpa using hy)
  exact MeetsSeq.EqGives.int m n u t
theorem eqI_any : ∀ {vs : List Value} {ns : List Int}, IntsAre vs ns → ∀ n, vs.any (eqI n) = ns.contains n
  | _, _, .nil, n => rfl
  | _, _, .cons m t h, n => by
    rw [List.any_cons, List.contains_cons, eqI_any h n]
    congr 1
    show (m == n) = (n == m)
    rw [Bool.eq_iff_iff, beq_iff_eq, beq_iff_eq]; exact eq_comm
theorem eqI_count : ∀ {vs : List Value} {ns : List Int}, IntsAre vs ns → ∀ n, vs.countP (eqI n) = ns.count n
  | _, _, .nil, n => rfl
  | _, _, .cons m t h, n => by
    rw [List.countP_cons, List.count_cons, eqI_count h n]
    rfl
theorem IsL_push {h : Heap} {D : Addr} {vs : List Value} {n : Nat} {v : Value} (hl : IsL h D vs.toArray n) : ∃ n', (h.update D (Obj.mapSeq fun xs => xs.push v)).get? D = some (lobj (vs ++ [v]) n') := by
  have := hl.update (fun xs => xs.push v)
  rw [List.push_toArray] at this
  exact ⟨_, this⟩
theorem SameBut_update (h : Heap) (a : Addr) (f : Obj → Obj) : Heap.SameBut a h (h.update a f) := Heap.SameBut.update ..
section
variable {prog : Program} {w : World} {A : Around} {E : Value → Shared → Prop} {s : Shared} {env : Env} {x : Str} {p1 ap cp pos : Pos} {e : Expr} {D : Addr}
/-- «x.append(e)», a statement -/
theorem sAppend {Q : Flow → Shared → Prop} {items₀ : Array Value} {n₀ : Nat} (ho : ∀ Q' : Value → Shared → Prop, Q' (.ref D) s → wpAny (model prog w) A (eval (.Name x p1) env) Q' E s) (hl₀ : IsL s.heap D items₀ n₀)
    (h : wpAny (model prog w) A (eval e env) (fun v s₁ => ∃ items n, items.size ≤ sizeLine ∧ IsL s₁.heap D items n ∧ Q .next { s₁ with heap := s₁.heap.update D (Obj.mapSeq fun xs => xs.push v) }) E s)
    (hi : interactive env = false := by rfl) (hs : swapsWith (.Call (.Attribute (.Name x p1) "append" ap) [e] [] cp) none pos.line env = pure false := by rfl)
    (hbase : attributeBase (.Name x p1) "append" env (eval (.Name x p1) env) = eval (.Name x p1) env := by rfl) (hline : (ap.endLine == cp.line) = true := by rfl)
    (he : starEach [e] env = (false, eval e env) :: starEach [] env := by rfl) :
    wpAny (model prog w) A (exec (.Expr (.Call (.Attribute (.Name x p1) "append" ap) [e] [] cp) pos) env) Q E s := by
  refine wpAny_Expr (wpAny_Call_method (T := "list") (id := "list.append") hbase (by rw [he]; rfl) hline PySem.F.plainAttrs_list PySem.F.slot_list_append PySem.F.type_list_append (ho _ ⟨⟨_, hl₀, rfl⟩, fun a ha => ⟨_, by cases ha; exact hl₀, rfl⟩, ?_⟩)) hi hs
  rw [he]
  exact PySem.P.append_list h
/-- «x.count(e)» of a list of ints -/
theorem mCount {Q : Value → Shared → Prop} {o : Expr} (hbase : attributeBase o "count" env (eval o env) = eval o env) (he : starEach [e] env = (false, eval e env) :: starEach [] env) (hline : (ap.endLine == cp.line) = true)
    (h : wpAny (model prog w) A (eval o env) (fun ov s₁ => ∃ D ns, ov = .ref D ∧ NL s₁.heap D ns ∧ wpAny (model prog w) A (eval e env) (fun v s₂ => ∃ n t, v = .int n t ∧ NL s₂.heap D ns ∧ Q (.int (ns.count n : Nat) s₂.toks) { s₂ with toks := s₂.toks + 1 }) E s₁) E s) :
    wpAny (model prog w) A (eval (.Call (.Attribute o "count" ap) [e] [] cp) env) Q E s := by
  refine wpAny_Call_method (T := "list") (id := "list.count") hbase (by rw [he]; rfl) hline PySem.F.plainAttrs_list PySem.F.slot_list_count PySem.F.type_list_count (wpAny_mono h (fun ov s₁ h₁ => ?_) fun _ _ x => x)
  obtain ⟨D, ns, rfl, ⟨vs, n, hl, hI⟩, h₂⟩ := h₁
  refine ⟨⟨_, hl, rfl⟩, fun a ha => ⟨_, by cases ha; exact hl, rfl⟩, ?_⟩
  rw [he]
  refine PySem.P.count_list (wpAny_mono h₂ (fun v s₂ h₃ => ?_) fun _ _ x => x)
  obtain ⟨m, t, rfl, ⟨vs', n', hl', hI'⟩, hq⟩ := h₃
  refine ⟨_, _, eqI m, hl', eqI_gives hI' m t, ?_⟩
  rw [show vs'.toArray.toList = vs' from rfl, eqI_count hI']
  exact hq
theorem notIn_NL {Q : Value → Shared → Prop} {ns : List Int} {n : Int} {t : Tok} (hl : NL s.heap D ns) (h : Q (.bool (!ns.contains n)) s) : wpAny (model prog w) A (compareOp .NotIn (.int n t) (.ref D)) Q E s := by
  obtain ⟨vs, m, hl, hI⟩ := hl
  refine PySem.SeqRoads2.notIn_list (eqI n) (eqI_gives hI n t) hl ?_
  rw [List.any_toArray, eqI_any hI]; exact h
theorem in_NL {Q : Value → Shared → Prop} {ns : List Int} {n : Int} {t : Tok} (hl : NL s.heap D ns) (h : Q (.bool (ns.contains n)) s) : wpAny (model prog w) A (compareOp .In (.int n t) (.ref D)) Q E s := by
  obtain ⟨vs, m, hl, hI⟩ := hl
  refine PySem.SeqRoads2.in_list (eqI n) (eqI_gives hI n t) hl ?_
  rw [List.any_toArray, eqI_any hI]; exact h
end
/-- a plain list of plain lists of ints -/
def RL (h : Heap) (a : Addr) (rs : List (List Int)) : Prop := ∃ (as : List Addr) (n : Nat), IsL h a (as.map Value.ref).toArray n ∧ as.length = rs.length ∧ ∀ (i : Nat) (b : Addr) (r : List Int), as[i]? = some b → rs[i]? = some r → NL h b r
theorem RL.keep {h h' : Heap} {a : Addr} {rs : List (List Int)} (T : RL h a rs) (e : Ext h h') : RL h' a rs :=
  let ⟨as, n, h1, h2, h3⟩ := T; ⟨as, n, e _ _ h1, h2, fun i b r x y => (h3 i b r x y).keep e⟩
def meet1 (m : List Int) (x : Int) : List Int := if m.contains x then m else m ++ [x]
def metL (rs : List (List Int)) : List Int := rs.foldl (fun m r => r.foldl meet1 m) []
theorem meet1_t {m : List Int} {x : Int} (h : m.contains x = true) : meet1 m x = m := by unfold meet1; rw [h]; simp
theorem meet1_f {m : List Int} {x : Int} (h : m.contains x = false) : meet1 m x = m ++ [x] := by unfold meet1; rw [h]; simp
theorem meet1_length (m : List Int) (x : Int) : (meet1 m x).length ≤ m.length + 1 := by unfold meet1; split <;> simp
theorem meetF_length (r m : List Int) : (r.foldl meet1 m).length ≤ m.length + r.length := by
  induction r generalizing m with
  | nil => simp
  | cons x r ih => rw [List.foldl_cons]; have := ih (meet1 m x); have := meet1_length m x; simp; omega
theorem metR_length (rs : List (List Int)) (m : List Int) : (rs.foldl (fun m r => r.foldl meet1 m) m).length ≤ m.length + rs.flatten.length := by
  induction rs generalizing m with
  | nil => simp
  | cons r rs ih => rw [List.foldl_cons]; have := ih (r.foldl meet1 m); have := meetF_length r m; simp only [List.flatten_cons, List.length_append]; omega
section
variable {prog : Program} {w : World} {A : Around} {E : Value → Shared → Prop} {s : Shared} {R : Result → Shared → Prop} {mg mb : Str → Option Value} {fa l : Addr} {rs : List (List Int)}
theorem take_flat_le (rs : List (List Int)) (i : Nat) : ((rs.take i).flatten).length ≤ rs.flatten.length := by
  have : rs.flatten = (rs.take i).flatten ++ (rs.drop i).flatten := by rw [← List.flatten_append, List.take_append_drop]
  rw [this, List.length_append]; omega
set_option maxHeartbeats 1000000 in
theorem met_spec (G : Gd mg mb s.heap) (hA : Okk A 1) (hf : mg dMet.name = some (.ref fa)) (N : RL s.heap l rs) (hsz : rs.flatten.length ≤ 1000)
    (k : ∀ h tk r, Ext s.heap h → s.heap.get? r = none → NL h r (metL rs) → R (.ok (.ret (.ref r))) { s with heap := h, toks := tk }) :
    codeAny (model prog w) A (.call (.ref fa) ⟨[.ref l], []⟩) R s := by
  obtain ⟨as, nl, hl, hlen, hrow⟩ := N
  refine enter dMet (binds := [("rows", .ref l)]) (by unfold recs; simp) G hf hA.room (fun _ _ _ => rfl) (loc1 rfl) fun L cd h₁ tk F => ?_
  replace F := F.congr (one_bind _ _)
  have hA' := hA.deeper (env := envOf dMet.name dMet.scope L fa cd)
  have hDf : s.heap.get? h₁.objs.size = none := none_of_ext F.keep (size_none h₁)
  have F' := F.push (lobj [] 0)
  refine wpAny_execs_cons (wpAny_Assign_Name (List_ (spliced_nil (wpAny_newObj_type (sL F' fun h₂ tk₂ F => ?_)))))
  clear F'
  generalize h₁.objs.size = D at F hDf
  dsimp only
  refine wpAny_execs_cons (wpAny_For (nL F (by walk_at "lk") (forList F hA'.hh hl.isList (.inl rfl) (fun i g σ mu => ∃ vs n ms, σ "met" = some (.ref D) ∧ mu = [(D, lobj vs n)] ∧ IntsAre vs ms ∧ ms = metL (rs.take i)) ⟨[], 0, [], by walk_at "lk", rfl, .nil, rfl⟩ ?_ ?_)))
  · rintro i v g σ mu I oI h tk E' hv hg ⟨vs, n, ms, hs1, rfl, hms, rfl⟩ F
    obtain ⟨b, hb, rfl⟩ : ∃ b, as[i]? = some b ∧ v = .ref b := by
      simp only [List.getElem?_toArray, List.getElem?_map] at hv
      cases q : as[i]? with
      | none => rw [q] at hv; cases hv
      | some b => rw [q] at hv; exact ⟨b, rfl, (Option.some.inj hv).symm⟩
    have hi : i < rs.length := by have := (List.getElem?_eq_some_iff.mp hb).1; omega
    obtain ⟨ws, nw, hlw, hIw⟩ := (hrow i b rs[i] hb (by simp [hi])).keep hg
    have hstep : metL (rs.take (i + 1)) = (rs[i]).foldl meet1 (metL (rs.take i)) := by
      unfold metL; rw [← List.take_append_getElem hi, List.foldl_append]; rfl
    refine wpAny_execs_cons (wpAny_For (nL F (by walk_at "lk") (forList F hA'.hh hlw.isList (.inl rfl) (fun j g' σ mu => ∃ vs n ms, σ "met" = some (.ref D) ∧ mu = [(I, oI), (D, lobj vs n)] ∧ IntsAre vs ms ∧ ms = ((rs[i]).take j).foldl meet1 (metL (rs.take i))) ⟨vs, n, _, by walk_at "lk", rfl, hms, by simp⟩ ?_ ?_)))
    · rintro j v g' σ' mu I' oI' h tk E' hv hg' ⟨vs, n, ms, hs1, rfl, hms, rfl⟩ F
      obtain ⟨m, t, rfl, hm⟩ := hIw.at j v (by simpa using hv)
      have hN : IsL h D vs.toArray n := F.led (D, lobj vs n) (by simp)
      have hbig : vs.length ≤ 1000 := by
        have h1 := hms.length
        have h2 := meetF_length ((rs[i]).take j) (metL (rs.take i))
        have h3 := metR_length (rs.take i) []
        have h4 : ((rs[i]).take j).length ≤ (rs[i]).length := by simp; omega
        have h5 := take_flat_le rs (i + 1)
        have h6 : (rs.take (i + 1)).flatten.length = (rs.take i).flatten.length + (rs[i]).length := by rw [← List.take_append_getElem hi, List.flatten_append, List.length_append]; simp
        simp only [List.length_nil, Nat.zero_add] at h3
        change (metL (rs.take i)).length ≤ _ at h3
        omega
      have hst : ((rs[i]).take (j + 1)).foldl meet1 (metL (rs.take i)) = meet1 (((rs[i]).take j).foldl meet1 (metL (rs.take i))) m := by
        rw [List.take_add_one, hm]; simp
      refine wpAny_execs_cons (wpAny_If (wpAny_isTrue_Compare1 (nL F (by walk_at "lk") (nL F (by walk_at "lk") (notIn_NL ⟨vs, n, hN, hms⟩ (wpAny_truthy_bool ?_))))))
      cases hc : (((rs[i]).take j).foldl meet1 (metL (rs.take i))).contains m with
      | true =>
        simp only [Bool.not_true, Bool.false_eq_true, if_false]
        refine wpAny_execs_nil (wpAny_execs_nil ⟨g', _, _, h, _, rfl, fun _ _ e => e, F, vs, n, _, by walk_at "lk", rfl, hms, ?_⟩)
        rw [hst, meet1_t hc]
      | false =>
        simp only [Bool.not_false, if_true]
        refine wpAny_execs_cons (sAppend (D := D) (fun Q' hq => nL F (by walk_at "lk") hq) hN (nL F (by walk_at "lk") ⟨_, _, by rw [sl]; simp; omega, hN, ?_⟩))
        obtain ⟨n', hn'⟩ := IsL_push (v := .int m t) hN
        have F' := LS.upd (pre := [(I', oI'), (I, oI)]) (post := []) F (SameBut_update _ _ _) hn'
        refine wpAny_execs_nil (wpAny_execs_nil ⟨g', _, _, _, _, rfl, fun _ _ e => e, F', vs ++ [.int m t], n', _, by walk_at "lk", rfl, hms.append (.cons m t .nil), ?_⟩)
        rw [hst, meet1_f hc]
    · rintro g' σ' mu h tk hg' ⟨vs, n, ms, hs1, rfl, hms, rfl⟩ F
      rw [show ws.toArray.size = (rs[i]).length by simp [hIw.length], List.take_length, ← hstep] at hms
      exact wpAny_execs_nil ⟨g', _, _, _, _, rfl, hg', F, vs, n, _, hs1, rfl, hms, rfl⟩
  · rintro g σ mu h tk hg ⟨vs, n, ms, hs1, rfl, hms, rfl⟩ F
    refine wpAny_execs_cons (wpAny_Return_some (nL F hs1 ?_))
    dsimp only
    rw [show (as.map Value.ref).toArray.size = rs.length by simp [hlen], List.take_length] at hms
    exact k h _ D (fun b o e => F.keep _ _ (hg _ _ e)) hDf ⟨vs, n, F.led (D, lobj vs n) (by simp), hms⟩
end
end
section
/-- what a comprehension's turn leaves -/
def CLeft (s : Shared) (cenv : Env) (g₁ : Heap) (mu : List (Addr × Obj)) (K : Heap → Prop) (s₄ : Shared) : Prop :=
  ∃ h' tk' g₂ τ', s₄ = { s with heap := h', toks := tk' } ∧ Ext g₁ g₂ ∧ LS g₂ cenv [] h' τ' mu ∧ K g₂
section
variable {prog : Program} {w : World} {A : Around} {E : Value → Shared → Prop} {env : Env} {scope : Scope} {cl : List (Str × Addr)} {elt iter : Expr} {x : Str} {px pos : Pos} {ifs : List Expr} {s₂ : Shared} {Q : Value → Shared → Prop}
theorem compLoopK {R : Result → Shared → Prop} {s : Shared} {cenv : Env} {I D : Addr} {fp : List Addr} {n : Nat} {P : Nat → Value → Prop} {St : Nat → Heap → Prop} (W : Walks prog w A I fp [I] n P St) (hn : n ≤ 100000) (hlive : ∀ i h, St i h → ∃ o, h.get? I = some o)
    (hk : cenv.scope.kind = .function) (hx : cenv.kindOf x = some .local) (K : Nat → Heap → List Value → Prop) (B : Heap → Prop) (hB : ∀ g g', Ext g g' → B g → B g')
    (hfp : ∀ g, B g → ∀ b ∈ fp, b = I ∨ ∃ o, g.get? b = some o)
    {g₀ : Heap} {τ₀ : Str → Option Value} {oI₀ : Obj} (F : LS g₀ cenv [] s.heap τ₀ [(I, oI₀), (D, lobj [] 0)]) (hB₀ : B g₀) (hst : St 0 s.heap) (hK0 : K 0 g₀ [])
    (turn : ∀ i v g₁ ys τ oI nD h tk E', i < n → P i v → ys.length ≤ i → B g₁ → K i g₁ ys → LS g₁ cenv [] h (put τ x v) [(I, oI), (D, lobj ys nD)] →
      wpAny (model prog w) A (forIn ifs true fun c r => if r = true then do let ok ← isTrue c cenv (eval c cenv); pure (ForInStep.yield ok) else pure (ForInStep.yield r)) (fun ok s₃ =>
        if ok = true then wpAny (model prog w) A (eval elt cenv) (fun y s₄ => CLeft s cenv g₁ [(I, oI), (D, lobj ys nD)] (fun g₂ => K (i + 1) g₂ (ys ++ [y])) s₄) E' s₃
        else CLeft s cenv g₁ [(I, oI), (D, lobj ys nD)] (fun g₂ => K (i + 1) g₂ ys) s₃) E' { s with heap := h, toks := tk })
    (done : ∀ ys nD h tk g₁ τ, ys.length ≤ n → B g₁ → K n g₁ ys → LS g₁ cenv [] h τ [(D, lobj ys nD)] → (∀ b o, g₁.get? b = some o → h.get? b = some o) → R (.ok .next) { s with heap := h, toks := tk }) :
    codeAny (model prog w) A (.compLoop (.ListComp elt [⟨.Name x px, iter, ifs, 0⟩] scope pos) 0 (.ref I) (.ref D) cenv) R s := by
  refine codeAny_compLoop_tests (fun k s' => ∃ i g ys τ oI nD h tk, k = n + 1 - i ∧ i ≤ n ∧ ys.length ≤ i ∧ s' = { s with heap := h, toks := tk } ∧ B g ∧ K i g ys ∧ LS g cenv [] h τ [(I, oI), (D, lobj ys nD)] ∧ St i h) ?_ (n + 1)
    ⟨0, g₀, [], τ₀, oI₀, 0, s.heap, s.toks, rfl, Nat.zero_le _, Nat.le_refl _, rfl, hB₀, hK0, F, hst⟩
  rintro k s' ⟨i, g, ys, τ, oI, nD, h, tk, rfl, hi, hyl, rfl, hBg, hK, F, hst'⟩
  by_cases hlt : i < n
  · refine W.item i _ _ _ hlt hst' fun v h₁ tk₁ hP hst₁ hk₁ => ?_
    obtain ⟨o₁, ho₁⟩ := hlive _ _ hst₁
    have F₁ := F.turn (fun b ob hb e => hk₁ b ob (by simpa using hb) e) ho₁
    refine wpAny_assign_Name (sL F₁ (fun h₂ tk₂ F₂ => ?_) hk hx)
    have st : ∀ (g' : Heap) (τ' : Str → Option Value) (h' : Heap) (mu : List (Addr × Obj)), Ext g g' → LS g' cenv [] h' τ' ((I, o₁) :: mu) → St (i + 1) h' := fun g' τ' h' mu hg F' =>
      W.frame _ _ _ hst₁ fun b hb o e => by
        rcases hfp g hBg b hb with rfl | ⟨ob, hob⟩
        · have := F'.led _ List.mem_cons_self
          rw [ho₁] at e; cases e; exact this
        · have h1 := F₁.keep b ob hob
          rw [h1] at e; cases e
          exact F'.keep b _ (hg _ _ hob)
    refine wpAny_mono (turn i v g ys τ o₁ nD h₂ tk₂ _ hlt hP hyl hBg hK F₂) (fun ok s₃ hok => ?_) fun _ _ e => e
    cases ok with
    | false =>
      simp only [Bool.false_eq_true, if_false] at hok ⊢
      obtain ⟨h', tk', g', τ', rfl, hg, F', hK'⟩ := hok
      exact ⟨n + 1 - (i + 1), by omega, i + 1, g', ys, τ', o₁, nD, h', tk', rfl, hlt, by omega, rfl, hB _ _ hg hBg, hK', F', st g' τ' h' _ hg F'⟩
    | true =>
      simp only [if_true] at hok ⊢
      refine wpAny_mono hok (fun y s₄ h₄ => ?_) fun _ _ e => e
      obtain ⟨h', tk', g', τ', rfl, hg, F', hK'⟩ := h₄
      have hD : IsL h' D ys.toArray nD := F'.led (D, lobj ys nD) (by simp)
      refine wpAny_list_append_plain (hsz := by rw [sl]; simp; omega) ⟨nD, hD⟩ fun h₅ hl₅ hs₅ => ?_
      obtain ⟨n', hn'⟩ := hl₅
      rw [List.push_toArray] at hn'
      have F₅ := LS.upd (pre := [(I, o₁)]) (post := []) F' hs₅ hn'
      exact ⟨n + 1 - (i + 1), by omega, i + 1, g', ys ++ [y], τ', o₁, n', h₅, tk', rfl, hlt, by simp; omega, rfl, hB _ _ hg hBg, hK', F₅, st g' τ' h₅ _ hg F₅⟩
  · have hin : i = n := by omega
    subst hin
    refine W.done _ _ _ hst' fun h₁ tk₁ hk₁ => ?_
    have F₁ := F.tail.extBut (h' := h₁) (fun b o hb e => hk₁ b o (by simpa using hb) e) (head_off F) (F.off _ (fence_mu List.mem_cons_self))
    exact done ys nD h₁ tk₁ g τ hyl hBg hK F₁ F₁.keep
theorem compBlock {I : Addr} {fp : List Addr} {n : Nat} {P : Nat → Value → Prop} {St : Nat → Heap → Prop} (W : Walks prog w A I fp [I] n P St) (hn : n ≤ 100000) (hlive : ∀ i h, St i h → ∃ o, h.get? I = some o)
    (hfp : ∀ b ∈ fp, b = I ∨ ∃ o, s₂.heap.get? b = some o) (hst : St 0 s₂.heap) (hcell : ∀ y ∈ scope.names, y.2 ≠ .cell) (hkind : scope.kind = .function) (hx : scope.names.lookup x = some .local)
    (K : Nat → Heap → List Value → Prop) (hK0 : ∀ g₁, (∀ b o, b ≠ I → s₂.heap.get? b = some o → g₁.get? b = some o) → K 0 g₁ [])
    (turn : ∀ C D i v g₁ ys τ oI nD h tk E', i < n → P i v → ys.length ≤ i → s₂.heap.get? D = none → s₂.heap.get? C = none → (∀ b o, b ≠ I → s₂.heap.get? b = some o → g₁.get? b = some o) → K i g₁ ys → LS g₁ (compEnvC scope cl C env) [] h (put τ x v) [(I, oI), (D, lobj ys nD)] →
      wpAny (model prog w) A (forIn ifs true fun c r => if r = true then do let ok ← isTrue c (compEnvC scope cl C env) (eval c (compEnvC scope cl C env)); pure (ForInStep.yield ok) else pure (ForInStep.yield r)) (fun ok s₃ =>
        if ok = true then wpAny (model prog w) A (eval elt (compEnvC scope cl C env)) (fun y s₄ => CLeft s₂ (compEnvC scope cl C env) g₁ [(I, oI), (D, lobj ys nD)] (fun g₂ => K (i + 1) g₂ (ys ++ [y])) s₄) E' s₃
        else CLeft s₂ (compEnvC scope cl C env) g₁ [(I, oI), (D, lobj ys nD)] (fun g₂ => K (i + 1) g₂ ys) s₃) E' { s₂ with heap := h, toks := tk })
    (done : ∀ D ys nD h tk g₁, (∀ b o, b ≠ I → s₂.heap.get? b = some o → g₁.get? b = some o) → s₂.heap.get? D = none → g₁.get? D = none → h.get? D = some (lobj ys nD) → Ext g₁ h → ys.length ≤ n → K n g₁ ys → Q (.ref D) { s₂ with heap := h, toks := tk }) :
    wpAny (model prog w) A (newList []) (fun acc s₃ => wpAny (model prog w) A (newFunctionEnv scope env.globals cl [] env.qual none .none (some env)) (fun cenv s₄ =>
      codeAny (model prog w) A (.compStart (.ListComp elt [⟨.Name x px, iter, ifs, 0⟩] scope pos) 0 (.ref I) acc { cenv with scope := relabel scope env }) (compPost (model prog w) A E none Q acc cenv.locals) s₄) E s₃) E s₂ := by
  refine wpAny_newObj_type (wpAny_newFunctionEnv hcell (by intro y hy; simp at hy) (fun h₁ hns₁ hsb₁ => ?_) hkind)
  dsimp only at hns₁ hsb₁ ⊢
  have hH2s : (s₂.heap.push (lobj [] 0)).objs.size = s₂.heap.objs.size + 1 := Heap.size_push ..
  have hH2D : (s₂.heap.push (lobj [] 0)).get? s₂.heap.objs.size = some (lobj [] 0) := Heap.get?_push_size _ rfl
  have hH2e : Ext s₂.heap (s₂.heap.push (lobj [] 0)) := fun b o e => Heap.get?_push_of_some _ e
  change h₁.Ns (s₂.heap.push (lobj [] 0)).objs.size _ at hns₁
  change Heap.SameBut (s₂.heap.push (lobj [] 0)).objs.size ((s₂.heap.push (lobj [] 0)).push _) h₁ at hsb₁
  show codeAny _ _ (.compStart _ 0 (.ref I) (.ref s₂.heap.objs.size) (compEnvC scope cl (s₂.heap.push (lobj [] 0)).objs.size env)) (compPost (model prog w) A E none Q (.ref s₂.heap.objs.size) (s₂.heap.push (lobj [] 0)).objs.size) { s₂ with heap := h₁, toks := s₂.toks + ([] : List (Str × Value)).length }
  generalize s₂.heap.push (lobj [] 0) = H2 at hns₁ hsb₁ hH2s hH2D hH2e ⊢
  have hC : s₂.heap.get? H2.objs.size = none := none_of_ext hH2e (size_none H2)
  have hD := size_none s₂.heap
  have hDC : s₂.heap.objs.size ≠ H2.objs.size := by rw [hH2s]; exact Nat.ne_of_lt (Nat.lt_succ_self _)
  have old : Ext H2 h₁ := fun b o e => hsb₁.extBut b o (Nat.ne_of_lt (Heap.lt_size e)) (Heap.get?_push_of_some _ e)
  obtain ⟨oI, hoI⟩ := hlive _ _ hst
  have hIC : I ≠ H2.objs.size := fun q => by rw [q, hC] at hoI; cases hoI
  have hID : I ≠ s₂.heap.objs.size := fun q => by rw [q, hD] at hoI; cases hoI
  generalize hCe : H2.objs.size = C at *
  generalize hDe : s₂.heap.objs.size = D at *
  have hstC : St 0 h₁ := W.frame _ _ _ hst fun b _ o e => old b o (hH2e b o e)
  have F : LS (hideAll h₁ [C, I, D]) (compEnvC scope cl C env) [] h₁ (fun y => ([] : List (Str × Value)).reverse.lookup y) [(I, oI), (D, lobj [] 0)] := by
    refine ⟨⟨_, hns₁, fun _ _ => rfl⟩, (fun _ _ h => nomatch h), (fun _ _ h => nomatch h), fun p hp => ?_, fun b o e => of_hideAll _ e, ?_, fun a ha => hideAll_none _ (by simpa [fence, compEnvC] using ha)⟩
    · rcases List.mem_cons.mp hp with rfl | hp
      · exact old _ _ (hH2e _ _ hoI)
      · rw [List.mem_singleton.mp hp]; exact old _ _ hH2D
    · show [C, I, D].Nodup
      simp [Ne.symm hIC, Ne.symm hDC, hID]
  have hB₀ : ∀ b o, b ≠ I → s₂.heap.get? b = some o → (hideAll h₁ [C, I, D]).get? b = some o := fun b o hb e => hideAll_get _ (old _ _ (hH2e _ _ e)) (by
    intro q
    rcases List.mem_cons.mp q with q | q
    · rw [q, hC] at e; cases e
    · rcases List.mem_cons.mp q with q | q
      · exact hb q
      · rw [List.mem_singleton.mp q, hD] at e; cases e)
  have loop : ∀ s₃ : Shared, s₃ = { s₂ with heap := h₁, toks := s₂.toks + ([] : List (Str × Value)).length } →
      codeAny (model prog w) A (.compLoop (.ListComp elt [⟨.Name x px, iter, ifs, 0⟩] scope pos) 0 (.ref I) (.ref D) (compEnvC scope cl C env)) (compPost (model prog w) A E none Q (.ref D) C) s₃ := by
    rintro s₃ rfl
    refine compLoopK (s := { s₂ with heap := h₁, toks := s₂.toks + ([] : List (Str × Value)).length }) (cenv := compEnvC scope cl C env) W hn hlive (by simp [compEnvC, relabel, hkind]) (lookup_relabel_local hx) K (fun g => ∀ b o, b ≠ I → s₂.heap.get? b = some o → g.get? b = some o)
      (fun g g' e hb b o hbI q => e _ _ (hb b o hbI q)) (fun g hg b hb => ?_) F hB₀ hstC (hK0 _ hB₀) (fun i v g₁ ys τ oI nD h tk E' h1 h2 h3 h4 h5 h6 => turn C D i v g₁ ys τ oI nD h tk E' h1 h2 h3 hD hC h4 h5 h6) (fun ys nD h tk g₁ τ hyl hBg hK F' hx' => ?_)
    · rcases hfp b hb with q | ⟨o, ho⟩
      · exact .inl q
      · by_cases q : b = I
        · exact .inl q
        · exact .inr ⟨o, hg b o q ho⟩
    · obtain ⟨m, hm, _⟩ := F'.ns
      refine ⟨m, hm, fun h'' hs'' => ?_⟩
      have hDC' : D ≠ C := hDC
      refine done D ys nD h'' tk g₁ hBg hD (F'.off _ (fence_mu List.mem_cons_self)) ((hs''.2 D hDC').trans (F'.led (D, lobj ys nD) (by simp))) (fun b o e => (hs''.2 b ?_).trans (hx' b o e)) hyl hK
      intro q; subst q
      have := F'.off _ (fence_loc (env := compEnvC scope cl b env) (cs := []) (mu := [(D, lobj ys nD)]))
      exact absurd e (by rw [show g₁.get? b = none from this]; exact nofun)
  exact codeAny_compStart_list (loop _ rfl) (W.self 0 _ _ _ hstC (loop _ rfl))
end
end
section
local macro_rules | `(tactic| walk_at "lk") => `(tactic| first | exact put_eq | (refine (put_ne (by decide)).trans ?_; walk_at "lk") | assumption | rfl)
def σb (binds : List (Str × Value)) (m : Str → Option Value) : Str → Option Value := binds.foldl (fun m p => put m p.1 p.2) m
theorem bindL_is (kindOf : Str → Option NameKind) : ∀ (binds : List (Str × Value)) (m m' : Str → Option Value), (∀ x, kindOf x = some .local → m x = m' x) → ∀ x, kindOf x = some .local → bindL kindOf binds m x = σb binds m' x
  | [], m, m', h, x, hx => h x hx
  | (n, v) :: r, m, m', h, x, hx => by
    show bindL kindOf r _ x = σb r (put m' n v) x
    refine bindL_is kindOf r _ _ (fun y hy => ?_) x hx
    by_cases q : kindOf n = some .local
    · rw [if_pos q]; unfold put; by_cases e : y = n
      · simp [e]
      · simp [e, h y hy]
    · rw [if_neg q, put_ne (fun e => q (by rw [← e]; exact hy))]; exact h y hy
theorem bindC_is (kindOf : Str → Option NameKind) : ∀ (binds : List (Str × Value)) (m m' : Str → Option Value), (∀ x, kindOf x ≠ some .local → m x = m' x) → ∀ x, kindOf x ≠ some .local → bindC kindOf binds m x = σb binds m' x
  | [], m, m', h, x, hx => h x hx
  | (n, v) :: r, m, m', h, x, hx => by
    show bindC kindOf r _ x = σb r (put m' n v) x
    refine bindC_is kindOf r _ _ (fun y hy => ?_) x hx
    by_cases q : kindOf n = some .local
    · rw [if_pos q, put_ne (fun e => hy (by rw [e]; exact q))]; exact h y hy
    · rw [if_neg q]; unfold put; by_cases e : y = n
      · simp [e]
      · simp [e, h y hy]
section
variable {prog : Program} {w : World} {A : Around} {s : Shared} {R : Result → Shared → Prop} {mg mb : Str → Option Value} {fa : Addr}
theorem LS.ofCells {g h : Heap} {name : Str} {scope : Scope} {L a : Addr} {cd : Value} {binds : List (Str × Value)} (F : Fr g L h (bindL (envOfC name scope L a cd).kindOf binds fun _ => none))
    (X : Cl L (cellsFrom (L + 1) scope.names []) h (bindC (envOfC name scope L a cd).kindOf binds fun _ => none))
    (hsep : ∀ x c, (x, c) ∈ cellsFrom (L + 1) scope.names [] → scope.names.lookup x = some .cell ∧ (cellsFrom (L + 1) scope.names []).lookup x = some c) :
    LS g (envOfC name scope L a cd) (cellsFrom (L + 1) scope.names []) h (σb binds fun _ => none) [] := by
  have hab : ∀ n c, (n, c) ∈ cellsFrom (L + 1) scope.names [] → L < c := X.above
  refine ⟨⟨_, F.ns, fun x hx => bindL_is _ binds _ _ (fun _ _ => rfl) x hx⟩, fun x c hc => ?_, fun x c hc => hsep x c hc, (fun _ h => nomatch h), F.keep, ?_, fun a ha => ?_⟩
  · have := X.cell x c (hsep x c hc).2
    rwa [bindC_is _ binds _ (fun _ => none) (fun _ _ => rfl) x (fun q => by
      have q' : scope.names.lookup x = some .local := q
      rw [(hsep x c hc).1] at q'; cases q')] at this
  · show (L :: ((cellsFrom (L + 1) scope.names []).map (·.2) ++ [])).Nodup
    rw [List.append_nil]
    refine List.nodup_cons.mpr ⟨fun q => ?_, List.pairwise_map.mpr X.apart⟩
    obtain ⟨⟨n, c⟩, hm, rfl⟩ := List.mem_map.mp q
    exact Nat.lt_irrefl _ (hab n c hm)
  · rcases fence_split ha with rfl | ⟨x, hx⟩ | ⟨o, ho⟩
    · exact Heap.get?_none_of_le F.above
    · exact Heap.get?_none_of_le (Nat.le_trans F.above (Nat.le_of_lt (hab x a hx)))
    · cases ho
/-- into a def with cells -/
theorem enterC (d : DefRec) {args : List Value} {binds : List (Str × Value)} (hd : d ∈ recs) (G : Gd mg mb s.heap) (hf : mg d.name = some (.ref fa)) (hroom : A.depth < recursionLimit)
    (hbind : ∀ pm cd doc, bindArgs (docDef d.name d.params d.body d.scope pm cd doc) ⟨args, []⟩ = pure binds)
    (hkind : ∀ x ∈ binds, d.scope.names.lookup x.1 = some .local ∨ (d.scope.names.lookup x.1 = some .cell ∧ ((cellsFrom (s.heap.objs.size + 1) d.scope.names []).lookup x.1).isSome = true))
    (hsep : ∀ L x c, (x, c) ∈ cellsFrom (L + 1) d.scope.names [] → d.scope.names.lookup x = some .cell ∧ (cellsFrom (L + 1) d.scope.names []).lookup x = some c)
    (h : ∀ L cd h₁ tk, LS s.heap (envOfC d.name d.scope L fa cd) (cellsFrom (L + 1) d.scope.names []) h₁ (σb binds fun _ => none) [] →
      wpAny (model prog w) (A.deeper (envOfC d.name d.scope L fa cd)) (execs d.body (envOfC d.name d.scope L fa cd)) (fun f s' => R (.ok (.ret (match f with | .ret v => v | _ => .none))) s') (fun _ _ => False) { s with heap := h₁, toks := tk })
    (hco : d.scope.isCoroutine = false := by rfl) (hgen : d.scope.isGenerator = false := by rfl) (hk : d.scope.kind = .function := by rfl) :
    codeAny (model prog w) A (.call (.ref fa) ⟨args, []⟩) R s := by
  obtain ⟨a, o, pm, c, doc, h1, h2, h3, h4⟩ := G.fn d hd
  have : fa = a := by rw [h1] at hf; cases hf; rfl
  subst this
  exact call_cells_ret hroom h2 h3 G.nolimit h4 (hbind pm c doc) hkind (fun h₁ tk F X => h _ c h₁ _ (LS.ofCells F X (hsep _))) hco hgen hk
end
section
variable {M : Model} {A : Around} {E : Value → Shared → Prop} {s : Shared} {g : Heap} {env : Env} {cs : List (Str × Addr)} {σ : Str → Option Value} {mu : List (Addr × Obj)} {x : Str} {pos : Pos} {v : Value} {Q : Value → Shared → Prop}
/-- a captured name, its cell in the base -/
theorem nK {c : Addr} (F : LS g env cs s.heap σ mu) (hc : env.cells.lookup x = some c) (hv : g.IsCell c (some v)) (h : Q v s) (hk : env.scope.kind = .function := by rfl) (hl : env.kindOf x = some .cell := by rfl)
    (hd : (x == ("__debug__" : Str)) = false := by decide) : wpAny M A (eval (.Name x pos) env) Q E s :=
  wpAny_Name (wpAny_loadName_cell hk hl hc (hv.keeps F.keep) h) hd
end
section
variable {prog : Program} {w : World} {A : Around} {E : Value → Shared → Prop} {env : Env} {scope : Scope} {cl : List (Str × Addr)} {elt iter : Expr} {x : Str} {px pos : Pos} {ifs : List Expr} {s : Shared} {Q : Value → Shared → Prop}
abbrev Tst (ifs : List Expr) (cenv : Env) : Sem Bool := forIn ifs true fun c r => if r = true then do let ok ← isTrue c cenv (eval c cenv); pure (ForInStep.yield ok) else pure (ForInStep.yield r)
theorem tst_nil {M : Model} {cenv : Env} {Q : Bool → Shared → Prop} (h : Q true s) : wpAny M A (Tst [] cenv) Q E s := by
  unfold Tst; rw [List.forIn_nil]; exact wpAny_pure h
theorem tst_one {M : Model} {cenv : Env} {c : Expr} {Q : Bool → Shared → Prop} (h : wpAny M A (isTrue c cenv (eval c cenv)) Q E s) : wpAny M A (Tst [c] cenv) Q E s := by
  unfold Tst
  rw [List.forIn_cons]
  refine wpAny_bind ?_
  show wpAny M A (do let ok ← isTrue c cenv (eval c cenv); pure (ForInStep.yield ok)) _ E s
  refine wpAny_bind (wpAny_mono h (fun b s₁ hb => wpAny_pure ?_) fun _ _ x => x)
  dsimp only
  rw [List.forIn_nil]; exact wpAny_pure hb
/-- a list comprehension over a list -/
theorem compOverList {s₁ : Shared} {l : Addr} {items : Array Value} (hh : A.handled = none) (hl : s₁.heap.IsList l items) (hn : items.size ≤ 100000) (hcell : ∀ y ∈ scope.names, y.2 ≠ .cell) (hkind : scope.kind = .function) (hx : scope.names.lookup x = some .local)
    (K : Nat → Heap → List Value → Prop) (hK0 : ∀ g₁, Ext s₁.heap g₁ → K 0 g₁ [])
    (turn : ∀ C D I i v g₁ ys τ oI nD h tk E', items[i]? = some v → ys.length ≤ i → s₁.heap.get? D = none → s₁.heap.get? C = none → s₁.heap.get? I = none → Ext s₁.heap g₁ → K i g₁ ys → LS g₁ (compEnvC scope cl C env) [] h (put τ x v) [(I, oI), (D, lobj ys nD)] →
      wpAny (model prog w) A (Tst ifs (compEnvC scope cl C env)) (fun ok s₃ =>
        if ok = true then wpAny (model prog w) A (eval elt (compEnvC scope cl C env)) (fun y s₄ => CLeft s₁ (compEnvC scope cl C env) g₁ [(I, oI), (D, lobj ys nD)] (fun g₂ => K (i + 1) g₂ (ys ++ [y])) s₄) E' s₃
        else CLeft s₁ (compEnvC scope cl C env) g₁ [(I, oI), (D, lobj ys nD)] (fun g₂ => K (i + 1) g₂ ys) s₃) E' { s₁ with heap := h, toks := tk })
    (done : ∀ D ys nD h tk g₁, Ext s₁.heap g₁ → s₁.heap.get? D = none → g₁.get? D = none → h.get? D = some (lobj ys nD) → Ext g₁ h → ys.length ≤ items.size → K items.size g₁ ys → Q (.ref D) { s₁ with heap := h, toks := tk }) :
    wpAny (model prog w) A (pyIter (.ref l)) (fun it s₂ => wpAny (model prog w) A (newList []) (fun acc s₃ => wpAny (model prog w) A (newFunctionEnv scope env.globals cl [] env.qual none .none (some env)) (fun cenv s₄ =>
      codeAny (model prog w) A (.compStart (.ListComp elt [⟨.Name x px, iter, ifs, 0⟩] scope pos) 0 it acc { cenv with scope := relabel scope env }) (compPost (model prog w) A E none Q acc cenv.locals) s₄) E s₃) E s₂) E s₁ := by
  refine wpAny_pyIter_list hl ?_
  obtain ⟨ol, hol, _⟩ := id hl
  have hne : l ≠ s₁.heap.objs.size := Nat.ne_of_lt (Heap.lt_size hol)
  have hE : Ext s₁.heap (s₁.heap.push { cls := .type "list_iterator", data := .fields #[.ref l, .int 0 0] }) := fun b o e => Heap.get?_push_of_some _ e
  have up : ∀ g₁ : Heap, (∀ b o, b ≠ s₁.heap.objs.size → (s₁.heap.push { cls := .type "list_iterator", data := .fields #[.ref l, .int 0 0] }).get? b = some o → g₁.get? b = some o) → Ext s₁.heap g₁ :=
    fun g₁ hb b o e => hb b o (Nat.ne_of_lt (Heap.lt_size e)) (hE _ _ e)
  refine compBlock (s₂ := { s₁ with heap := s₁.heap.push { cls := .type "list_iterator", data := .fields #[.ref l, .int 0 0] } }) (Walks.list hh s₁.heap.objs.size l hne items) hn (fun i h st => let ⟨o, ho, _⟩ := st.1; ⟨o, ho⟩)
    (fun b hb => ?_) ⟨⟨_, Heap.get?_push_size _ rfl, rfl, rfl⟩, hl.at fun o e => hE _ _ e⟩ hcell hkind hx K (fun g₁ hb => hK0 g₁ (up g₁ hb))
    (fun C D i v g₁ ys τ oI nD h tk E' h1 h2 h3 h4 h5 h6 h7 h8 => turn C D _ i v g₁ ys τ oI nD h tk E' h2 h3 (none_of_ext hE h4) (none_of_ext hE h5) (size_none _) (up g₁ h6) h7 h8)
    (fun D ys nD h tk g₁ h1 h2 h3 h4 h5 h6 h7 => done D ys nD h tk g₁ (up g₁ h1) (none_of_ext hE h2) h3 h4 h5 h6 h7)
  rcases List.mem_cons.mp hb with rfl | hb
  · exact .inl rfl
  · rw [List.mem_singleton.mp hb]; exact .inr ⟨ol, hE _ _ hol⟩
/-- a list comprehension over a range -/
theorem compOverRange {s₁ : Shared} {r : Addr} {a b c : Int} {t u v' : Tok} {n : Nat} (hh : A.handled = none) (hr : IsRange s₁.heap r a b c t u v') (hsmall : Builtin.Range.small a b c = true) (hsz : Builtin.Range.rangeSize a b c = n) (hn : n ≤ 100000)
    (hcell : ∀ y ∈ scope.names, y.2 ≠ .cell) (hkind : scope.kind = .function) (hx : scope.names.lookup x = some .local)
    (K : Nat → Heap → List Value → Prop) (hK0 : ∀ g₁, Ext s₁.heap g₁ → K 0 g₁ [])
    (turn : ∀ C D I i tv g₁ ys τ oI nD h tk E', i < n → ys.length ≤ i → s₁.heap.get? D = none → s₁.heap.get? C = none → s₁.heap.get? I = none → Ext s₁.heap g₁ → K i g₁ ys → LS g₁ (compEnvC scope cl C env) [] h (put τ x (.int (a + i * c) tv)) [(I, oI), (D, lobj ys nD)] →
      wpAny (model prog w) A (Tst ifs (compEnvC scope cl C env)) (fun ok s₃ =>
        if ok = true then wpAny (model prog w) A (eval elt (compEnvC scope cl C env)) (fun y s₄ => CLeft s₁ (compEnvC scope cl C env) g₁ [(I, oI), (D, lobj ys nD)] (fun g₂ => K (i + 1) g₂ (ys ++ [y])) s₄) E' s₃
        else CLeft s₁ (compEnvC scope cl C env) g₁ [(I, oI), (D, lobj ys nD)] (fun g₂ => K (i + 1) g₂ ys) s₃) E' { s₁ with heap := h, toks := tk })
    (done : ∀ D ys nD h tk g₁, Ext s₁.heap g₁ → s₁.heap.get? D = none → g₁.get? D = none → h.get? D = some (lobj ys nD) → Ext g₁ h → ys.length ≤ n → K n g₁ ys → Q (.ref D) { s₁ with heap := h, toks := tk }) :
    wpAny (model prog w) A (pyIter (.ref r)) (fun it s₂ => wpAny (model prog w) A (newList []) (fun acc s₃ => wpAny (model prog w) A (newFunctionEnv scope env.globals cl [] env.qual none .none (some env)) (fun cenv s₄ =>
      codeAny (model prog w) A (.compStart (.ListComp elt [⟨.Name x px, iter, ifs, 0⟩] scope pos) 0 it acc { cenv with scope := relabel scope env }) (compPost (model prog w) A E none Q acc cenv.locals) s₄) E s₃) E s₂) E s₁ := by
  refine wpAny_pyIter_range hr hsmall ?_
  rw [hsz]
  have hE : Ext s₁.heap (s₁.heap.push { cls := .type "range_iterator", data := .fields #[rawInt a, rawInt n, rawInt c] }) := fun b o e => Heap.get?_push_of_some _ e
  have up : ∀ g₁ : Heap, (∀ b o, b ≠ s₁.heap.objs.size → (s₁.heap.push { cls := .type "range_iterator", data := .fields #[rawInt a, rawInt n, rawInt c] }).get? b = some o → g₁.get? b = some o) → Ext s₁.heap g₁ :=
    fun g₁ hb b o e => hb b o (Nat.ne_of_lt (Heap.lt_size e)) (hE _ _ e)
  refine compBlock (s₂ := { s₁ with heap := s₁.heap.push { cls := .type "range_iterator", data := .fields #[rawInt a, rawInt n, rawInt c] } }) (Walks.range hh s₁.heap.objs.size a c n) hn (fun i h st => ⟨_, st⟩)
    (fun b hb => .inl (List.mem_singleton.mp hb)) (by show IsRangeIter _ _ (a + (0 : Nat) * c) ((n : Int) - (0 : Nat)) c; rw [show a + ((0 : Nat) : Int) * c = a by simp, show (n : Int) - ((0 : Nat) : Int) = n by simp]; exact Heap.get?_push_size _ rfl) hcell hkind hx K (fun g₁ hb => hK0 g₁ (up g₁ hb))
    (fun C D i v g₁ ys τ oI nD h tk E' h1 h2 h3 h4 h5 h6 h7 h8 => by
      obtain ⟨tv, rfl⟩ := h2
      exact turn C D _ i tv g₁ ys τ oI nD h tk E' h1 h3 (none_of_ext hE h4) (none_of_ext hE h5) (size_none _) (up g₁ h6) h7 h8)
    (fun D ys nD h tk g₁ h1 h2 h3 h4 h5 h6 h7 => done D ys nD h tk g₁ (up g₁ h1) (none_of_ext hE h2) h3 h4 h5 h6 h7)
/-- a list comprehension, its source first -/
theorem evComp (hclos : closureFor scope env = pure cl) (hkind : scope.kind = .function) (hnames : ∀ y ∈ scope.names, y.2 = .local → scope.names.lookup y.1 = some .local)
    (h : wpAny (model prog w) A (eval iter env) (fun xv s₁ => wpAny (model prog w) A (pyIter xv) (fun it s₂ => wpAny (model prog w) A (newList []) (fun acc s₃ => wpAny (model prog w) A (newFunctionEnv scope env.globals cl [] env.qual none .none (some env)) (fun cenv s₄ =>
      codeAny (model prog w) A (.compStart (.ListComp elt [⟨.Name x px, iter, ifs, 0⟩] scope pos) 0 it acc { cenv with scope := relabel scope env }) (compPost (model prog w) A E none Q acc cenv.locals) s₄) E s₃) E s₂) E s₁) E s)
    (hs : ∀ x, foldedSetIterable iter env x = pure x := by intro _; rfl) :
    wpAny (model prog w) A (eval (.ListComp elt [⟨.Name x px, iter, ifs, 0⟩] scope pos) env) Q E s := by
  rw [eval_ListComp]
  exact wpAny_comprehension_free (use := none) rfl hs hclos hkind hnames h
end
end
section
local macro_rules | `(tactic| walk_at "lk") => `(tactic| first | exact put_eq | (refine (put_ne (by decide)).trans ?_; walk_at "lk") | assumption | rfl)
section
variable {prog : Program} {w : World} {A : Around} {E : Value → Shared → Prop} {s : Shared} {R : Result → Shared → Prop} {mg mb : Str → Option Value} {fa l : Addr} {xs : List Int}
set_option maxHeartbeats 1000000 in
theorem things_spec (G : Gd mg mb s.heap) (hA : Okk A 1) (hf : mg dThings.name = some (.ref fa)) (N : NL s.heap l xs) (hsz : xs.length ≤ 1000)
    (k : ∀ h tk r (as : List Addr) n, Ext s.heap h → s.heap.get? r = none → (∀ b ∈ as, s.heap.get? b = none ∧ b ≠ r) → h.get? r = some (lobj (as.map Value.ref) n) → as.length = xs.length →
      (∀ (i : Nat) (b : Addr) (x : Int), as[i]? = some b → xs[i]? = some x → Tab prog w h b [(0, x)]) → R (.ok (.ret (.ref r))) { s with heap := h, toks := tk }) :
    codeAny (model prog w) A (.call (.ref fa) ⟨[.ref l], []⟩) R s := by
  obtain ⟨vs, nl, hl, hI⟩ := N
  have hvl := hI.length
  refine enter dThings (binds := [("row", .ref l)]) (by unfold recs; simp) G hf hA.room (fun _ _ _ => rfl) (loc1 rfl) fun L cd h₁ tk F => ?_
  replace F := F.congr (one_bind _ _)
  have hA' := hA.deeper (env := envOf dThings.name dThings.scope L fa cd)
  have hk₀ := F.keep
  refine wpAny_execs_cons (wpAny_Return_some (evComp (cl := []) rfl rfl (by decide) (nL F (by walk_at "lk") ?_)))
  refine compOverList (s₁ := { s with heap := h₁, toks := tk }) hA'.hh (IsL.isList (F.keep _ _ hl)) (by simp; omega) (by decide) rfl rfl
    (fun i g₁ ys => ∃ as : List Addr, ys = as.map Value.ref ∧ as.length = i ∧ (∀ b ∈ as, s.heap.get? b = none ∧ ∃ o, g₁.get? b = some o) ∧ ∀ (j : Nat) b x, as[j]? = some b → xs[j]? = some x → Tab prog w g₁ b [(0, x)])
    (fun g₁ hg => ⟨[], rfl, rfl, (fun _ h => nomatch h), fun j b x h => by simp at h⟩) ?_ ?_
  · rintro C D I i v g₁ ys τ oI nD h tk E' hv hyl hD hC hI' hg ⟨as, rfl, hal, hfr, hT⟩ F
    obtain ⟨x, t, rfl, hx⟩ := hI.at i v (by simpa using hv)
    refine tst_nil ?_
    rw [if_pos rfl]
    have hgs : Ext s.heap g₁ := fun b o e => hg _ _ (hk₀ _ _ e)
    have F' := F.push { cls := .type "dict", data := .dict #[] }
    refine wpAny_Dict_walk (knd := intKind prog w) rfl rfl (by simp) (by decide) (pairTrees_cons_walk (wpAny_Constant_int (nL F' (by walk_at "lk") (pairTrees_nil_walk (display_done_int rfl (by simp [intKeyPairs]) (Heap.dictOf_iff.mpr ⟨_, Heap.get?_push_size _ rfl, newDict_is prog w⟩) fun h' hm hs => ?_)))))
    dsimp only
    have hDs : (h.objs.size == sysModules) = false := beq_false_of_ne (Nat.ne_of_gt (modules_low ((G.keeps hgs).keeps F.keep).nolimit))
    obtain ⟨o', ho', hI''⟩ := Heap.dictOf_iff.mp hm
    have F'' := LS.upd (pre := []) (post := _) F' hs ho'
    obtain ⟨g₂, hgg, F₃, hfr', _, _⟩ := F''.tail.rebase
    have hnf : h.objs.size ∉ fence (compEnvC _ [] C (envOf dThings.name dThings.scope L fa cd)) [] [(I, oI), (D, lobj (as.map Value.ref) nD)] := F.fresh (size_none h)
    have hg₂ : g₂.get? h.objs.size = some o' := hfr' _ _ hnf ho'
    have U : Tab prog w h' h.objs.size [(0, x)] := ⟨hDs, [(0, x, t)], hm, rfl⟩
    refine ⟨h', _, g₂, _, rfl, hgg, F₃, as ++ [h.objs.size], by simp, by simp [hal], ?_, ?_⟩
    · intro b hb
      rcases List.mem_append.mp hb with hb | hb
      · obtain ⟨h1, o, h2⟩ := hfr b hb; exact ⟨h1, o, hgg _ _ h2⟩
      · rw [List.mem_singleton.mp hb]; exact ⟨none_of_ext (fun b o e => F.keep _ _ (hgs _ _ e)) (size_none h), o', hg₂⟩
    · intro j b y hb hy
      by_cases hj : j < as.length
      · rw [List.getElem?_append_left hj] at hb; exact (hT j b y hb hy).keep hgg
      · have hj' : j = as.length := by
          have := (List.getElem?_eq_some_iff.mp hb).1
          simp at this; omega
        subst hj'
        simp at hb
        subst hb
        rw [hal, hx] at hy; cases hy
        exact U.at fun o e => hfr' _ _ hnf e
  · rintro D ys nD h tk g₁ hg hD hgD hDo hgh hyl ⟨as, rfl, hal, hfr, hT⟩
    dsimp only
    refine k h _ D as nD (fun b o e => hgh _ _ (hg _ _ (hk₀ _ _ e))) (none_of_ext hk₀ hD) (fun b hb => ?_) hDo (by rw [hal]; simp [hvl]) fun i b x h1 h2 => (hT i b x h1 h2).keep hgh
    obtain ⟨h1, o, h2⟩ := hfr b hb
    exact ⟨h1, fun q => by rw [q, hgD] at h2; cases h2⟩
end
end
section
local macro_rules | `(tactic| walk_at "lk") => `(tactic| first | exact put_eq | (refine (put_ne (by decide)).trans ?_; walk_at "lk") | assumption | rfl)
section
variable {prog : Program} {w : World} {A : Around} {E : Value → Shared → Prop} {s : Shared} {env : Env} {value slice : Expr} {pos p : Pos} {lo up st : Option Expr} {Q : Value → Shared → Prop}
theorem evItem (hsub : ∀ l k u, subscripted slice false (.ref l) (.int k u) = operate [.ref l, .int k u] (getItem (.ref l) (.int k u)))
    (h : wpAny (model prog w) A (eval value env) (fun o s₁ => wpAny (model prog w) A (eval slice env) (fun i s₂ => ∃ l items k u x, o = .ref l ∧ i = .int k u ∧ s₂.heap.IsList l items ∧ 0 ≤ k ∧ k < 2 ^ 63 ∧ items[k.toNat]? = some x ∧ Q x s₂) E s₁) E s) :
    wpAny (model prog w) A (eval (.Subscript value slice pos) env) Q E s := by
  refine Subscript_ (wpAny_mono h (fun o s₁ h₁ => wpAny_mono h₁ (fun i s₂ h₂ => ?_) fun _ _ x => x) fun _ _ x => x)
  obtain ⟨l, items, k, u, x, rfl, rfl, hl, h0, hhi, hx, hq⟩ := h₂
  exact tail_any hl.typeIs slot_list_getitem.lookup (wpAny_getItem_list hl h0 hhi hx hq) (hsub l k u)
theorem sub_slice (lo up st : Option Expr) (p : Pos) (o i : Value) : ∃ ops, subscripted (.Slice lo up st p) false o i = operate ops (getItem o i) := by
  cases st with
  | none => exact ⟨_, rfl⟩
  | some e => exact ⟨_, rfl⟩
theorem evSl (h : wpAny (model prog w) A (eval value env) (fun o s₁ => wpAny (model prog w) A (evalPart lo env) (fun vl s₂ => wpAny (model prog w) A (evalPart up env) (fun vu s₃ => wpAny (model prog w) A (evalPart st env) (fun vs s₄ =>
      ∃ l items a b c, o = .ref l ∧ s₄.heap.IsList l items ∧ items.size ≤ sizeLine ∧ IsPart vl a ∧ IsPart vu b ∧ IsPart vs c ∧ c ≠ some 0 ∧
        ∀ h' r, Ext s₄.heap h' → s₄.heap.get? r = none → h'.get? r = some (lobj (slicePick items a b c).toList 0) → Q (.ref r) { s₄ with heap := h' }) E s₃) E s₂) E s₁) E s) :
    wpAny (model prog w) A (eval (.Subscript value (.Slice lo up st p) pos) env) Q E s := by
  refine Subscript_ (wpAny_mono h (fun o s₁ h₁ => wpAny_Slice (wpAny_mono h₁ (fun vl s₂ h₂ => wpAny_mono h₂ (fun vu s₃ h₃ => wpAny_mono h₃ (fun vs s₄ h₄ => ?_) fun _ _ x => x) fun _ _ x => x) fun _ _ x => x)) fun _ _ x => x)
  obtain ⟨l, items, a, b, c, rfl, hl, hsz, ha, hb, hc, h0, hq⟩ := h₄
  obtain ⟨ops, hops⟩ := sub_slice lo up st p (.ref l) (.ref s₄.heap.objs.size)
  refine tail_any (hl.push _).typeIs slot_list_getitem.lookup (wpAny_getItem_list_slice (s := { s₄ with heap := s₄.heap.push { cls := .type "slice", data := .fields #[vl, vu, vs] } }) (hl.push _) (Heap.IsSliceOf.new ..) ha hb hc h0 ?_ hsz) hops
  refine hq _ _ (fun b o e => Heap.get?_push_of_some _ (Heap.get?_push_of_some _ e)) (Heap.get?_none_of_le (by show _ ≤ (s₄.heap.push _).objs.size; rw [Heap.size_push]; omega)) ?_
  rw [Heap.get?_push_size _ rfl]
end
section
variable {M : Model} {A : Around} {E : Value → Shared → Prop} {s : Shared} {g : Heap} {env : Env} {cs : List (Str × Addr)} {σ : Str → Option Value} {mu : List (Addr × Obj)} {x : Str} {p pos : Pos} {e₁ e₂ e₃ : Expr} {Q : Value → Shared → Prop} {mg mb : Str → Option Value}
theorem tC3 {T : String} (G : Gd mg mb g) (F : LS g env cs s.heap σ mu) (hv : bootBuiltins x = some (.type T)) (h : wpAny M A (eval e₁ env) (fun v s₁ => wpAny M A (eval e₂ env) (fun u s₂ => wpAny M A (eval e₃ env) (fun z s₃ => wpAny M A (call (.type T) [v, u, z]) Q E s₃) E s₂) E s₁) E s)
    (hb : x ∈ bis := by decide) (hk : env.scope.kind = .function := by rfl) (hl : env.kindOf x = some .globalImplicit := by rfl) (hd : (x == ("__debug__" : Str)) = false := by decide) (hg : env.globals = mainGlobals := by rfl) (hbn : env.builtins = builtinsNs := by rfl)
    (h1 : starEach [e₁, e₂, e₃] env = (false, eval e₁ env) :: starEach [e₂, e₃] env := by rfl) (h2 : starEach [e₂, e₃] env = (false, eval e₂ env) :: starEach [e₃] env := by rfl) (h3 : starEach [e₃] env = (false, eval e₃ env) :: starEach [] env := by rfl) : wpAny M A (eval (.Call (.Name x p) [e₁, e₂, e₃] [] pos) env) Q E s := by
  refine Call_ (nB G F hv ?_ hb hk hl hd hg hbn) (eval_Call_Name ..)
  rw [h1, h2, h3]
  exact PySem.callWith_type rfl (Calls.evalArgs_plain (Calls.spliced_cons (wpAny_mono h (fun v s₁ hh => Calls.spliced_cons (wpAny_mono hh (fun u s₂ hh' => Calls.spliced_cons (wpAny_mono hh' (fun z s₃ hh'' => Calls.spliced_nil hh'') fun _ _ x => x)) fun _ _ x => x)) fun _ _ x => x)))
end
/-- «x[y]», x captured, y the comprehension's own name -/
theorem itemAt {prog : Program} {w : World} {A : Around} {E : Value → Shared → Prop} {s : Shared} {g : Heap} {env : Env} {τ : Str → Option Value} {mu : List (Addr × Obj)} {x y : Str} {pa pi pos : Pos} {c la : Addr} {items : Array Value} {i : Nat} {tv : Tok} {v : Value} {Q : Value → Shared → Prop}
    (F : LS g env [] s.heap τ mu) (hl : g.IsList la items) (hv : items[i]? = some v) (hc : env.cells.lookup x = some c) (hcell : g.IsCell c (some (.ref la))) (hτ : τ y = some (.int i tv)) (hi : i < 1000000) (hq : Q v s)
    (hk : env.scope.kind = .function := by rfl) (hx : env.kindOf x = some .cell := by rfl) (hy : env.kindOf y = some .local := by rfl) (hdx : (x == ("__debug__" : Str)) = false := by decide) (hdy : (y == ("__debug__" : Str)) = false := by decide) :
    wpAny (model prog w) A (eval (.Subscript (.Name x pa) (.Name y pi) pos) env) Q E s :=
  evItem (fun _ _ _ => rfl) (nK F hc hcell (nL F hτ ⟨la, items, i, tv, _, rfl, rfl, hl.at fun o e => F.keep _ _ e, by omega, by omega, by simpa using hv, hq⟩ hk hy hdy) hk hx hdx)
def comeP (row after : List Int) (i : Nat) : Bool := decide (row.count (after.getD i 0) < (after.take (i + 1)).count (after.getD i 0))
def comeL (row after : List Int) : List Int := ((List.range after.length).filter (comeP row after)).map fun i => after.getD i 0
def goneP (row after : List Int) (j : Nat) : Bool := decide (after.count (row.getD (row.length - 1 - j) 0) < (row.drop (row.length - 1 - j)).count (row.getD (row.length - 1 - j) 0))
def goneL (row after : List Int) : List Int := ((List.range row.length).filter (goneP row after)).map fun j => row.getD (row.length - 1 - j) 0
theorem fm_succ (p : Nat → Bool) (f : Nat → Int) (i : Nat) : ((List.range (i + 1)).filter p).map f = ((List.range i).filter p).map f ++ (if p i then [f i] else []) := by
  rw [List.range_succ, List.filter_append, List.map_append]
  congr 1
  cases h : p i <;> simp [h]
section
variable {prog : Program} {w : World} {A : Around} {E : Value → Shared → Prop} {s : Shared} {R : Result → Shared → Prop} {mg mb : Str → Option Value} {fa lr la : Addr} {row after : List Int}
theorem NL.isList {h : Heap} {a : Addr} {ns : List Int} (T : NL h a ns) : ∃ vs : List Value, h.IsList a vs.toArray ∧ IntsAre vs ns := let ⟨vs, n, h1, h2⟩ := T; ⟨vs, h1.isList, h2⟩
theorem come_sep : ∀ L x c, (x, c) ∈ cellsFrom (L + 1) dCome.scope.names [] → dCome.scope.names.lookup x = some .cell ∧ (cellsFrom (L + 1) dCome.scope.names []).lookup x = some c := by
  intro L x c h
  change (x, c) ∈ [(Str.ofString "after", L + 1 + 1), (Str.ofString "row", L + 1)] at h
  rcases List.mem_cons.mp h with q | h
  · cases q; exact ⟨rfl, rfl⟩
  · rcases List.mem_cons.mp h with q | h
    · cases q; exact ⟨rfl, rfl⟩
    · cases h
set_option maxHeartbeats 2000000 in
theorem come_spec (G : Gd mg mb s.heap) (hA : Okk A 1) (hf : mg dCome.name = some (.ref fa)) (N1 : NL s.heap lr row) (N2 : NL s.heap la after) (hs1 : row.length ≤ 1000) (hs2 : after.length ≤ 1000)
    (k : ∀ h tk r, Ext s.heap h → s.heap.get? r = none → NL h r (comeL row after) → R (.ok (.ret (.ref r))) { s with heap := h, toks := tk }) :
    codeAny (model prog w) A (.call (.ref fa) ⟨[.ref lr, .ref la], []⟩) R s := by
  refine enterC dCome (binds := [("row", .ref lr), ("after", .ref la)]) (by unfold recs; simp) G hf hA.room (fun _ _ _ => rfl) ?_ come_sep fun L cd h₁ tk F => ?_
  · intro x hx
    rcases List.mem_cons.mp hx with rfl | hx
    · exact .inr ⟨rfl, rfl⟩
    · rw [List.mem_singleton.mp hx]; exact .inr ⟨rfl, rfl⟩
  have hA' := hA.deeper (env := envOfC dCome.name dCome.scope L fa cd)
  have hk₀ := F.keep
  have hcr : h₁.IsCell (L + 1) (some (.ref lr)) := F.cl "row" (L + 1) (by show _ ∈ [(Str.ofString "after", L + 1 + 1), (Str.ofString "row", L + 1)]; simp)
  have hca : h₁.IsCell (L + 1 + 1) (some (.ref la)) := F.cl "after" (L + 1 + 1) (by show _ ∈ [(Str.ofString "after", L + 1 + 1), (Str.ofString "row", L + 1)]; simp)
  obtain ⟨vs, hl, hI⟩ := N2.isList
  have hvl := hI.length
  refine wpAny_execs_cons (wpAny_Return_some (evComp (cl := [("row", L + 1), ("after", L + 1 + 1)]) rfl rfl (by decide) ?_))
  refine tC1 G F boot_range (bC1 G F boot_len (nC F (v := .ref la) rfl ?_ ⟨L + 1 + 1, by show _ ∈ [(Str.ofString "after", L + 1 + 1), (Str.ofString "row", L + 1)]; simp⟩))
  refine call_len_list (hl.at fun o e => hk₀ _ _ e) (by simp; omega) ?_
  refine call_range_1 ?_
  have hx₁ : Ext h₁ (h₁.push { cls := .type "range", data := .fields #[.int 0 (tk + 1 + 1), .int (vs.toArray.size : Nat) (tk + 1), .int 1 (tk + 1 + 1 + 1)] }) := fun b o e => Heap.get?_push_of_some _ e
  refine compOverRange (s₁ := { s with heap := h₁.push { cls := .type "range", data := .fields #[.int 0 (tk + 1 + 1), .int (vs.toArray.size : Nat) (tk + 1), .int 1 (tk + 1 + 1 + 1)] }, toks := tk + 1 + 1 + 1 + 1 }) (n := after.length) hA'.hh (IsRange.new ..) (small_one (by omega) (by omega) (by omega) (by simp; omega)) (by rw [rangeSize_one]; simp only [List.size_toArray, hvl]; split <;> omega) (by omega) (by decide) rfl rfl
    (fun i g₁ ys => IntsAre ys (((List.range i).filter (comeP row after)).map fun i => after.getD i 0)) (fun _ _ => .nil) ?_ ?_
  · rintro C D I i tv g₁ ys τ oI nD h tk' E' hi hyl hD hC hI' hg hK F'
    replace hg : Ext h₁ g₁ := fun b o e => hg _ _ (hx₁ _ _ e)
    have hgs : Ext s.heap g₁ := fun b o e => hg _ _ (hk₀ _ _ e)
    have hi' : (0 : Int) + (i : Int) * 1 = i := by omega
    rw [hi'] at F'
    obtain ⟨ta, hta⟩ := hI.get i (after.getD i 0) (by rw [List.getD_eq_getElem?_getD, List.getElem?_eq_getElem hi]; rfl)
    have hta' : vs.toArray[i]? = some (.int (after.getD i 0) ta) := by simpa using hta
    have hlg : g₁.IsList la vs.toArray := hl.at fun o e => hgs _ _ e
    refine tst_one (wpAny_isTrue_Compare1 (mCount rfl rfl rfl (evSl (nK F' (c := L + 1 + 1) rfl (hca.keeps hg) (evalPart_none_step (evalPart_some_step (wpAny_BinOp (nL F' (by walk_at "lk") (wpAny_Constant_int (PyProof.Rows.add_int (evalPart_none_step ⟨la, vs.toArray, none, some ((i : Int) + 1), none, rfl, hl.at fun o e => F'.keep _ _ (hgs _ _ e), by rw [sl]; simp; omega, .none, .int _ _, .none, by simp, ?_⟩)))))))))))
    intro h₂ r hx₂ hr hro
    have F₂ := F'.ext hx₂
    have hN : NL h₂ r (after.take (i + 1)) := by
      refine ⟨vs.take (i + 1), 0, ?_, hI.take (i + 1)⟩
      show h₂.get? r = _
      rw [hro, show (i : Int) + 1 = ((i + 1 : Nat) : Int) by push_cast; rfl, slicePick_upto']
    refine ⟨r, after.take (i + 1), rfl, hN, ?_⟩
    · refine itemAt (c := L + 1 + 1) F₂ hlg hta' rfl (hca.keeps hg) (by walk_at "lk") (by omega) ⟨_, _, rfl, hN, ?_⟩
      refine mCount rfl rfl rfl (nK F₂ (c := L + 1) rfl (hcr.keeps hg) ⟨lr, row, rfl, N1.keep fun b o e => F₂.keep _ _ (hgs _ _ e), itemAt (c := L + 1 + 1) F₂ hlg hta' rfl (hca.keeps hg) (by walk_at "lk") (by omega) ⟨_, _, rfl, N1.keep fun b o e => F₂.keep _ _ (hgs _ _ e), ?_⟩⟩)
      refine PyProof.Rows.gt_int (wpAny_truthy_bool ?_)
      have hp : decide (((row.count (after.getD i 0) : Nat) : Int) < (((after.take (i + 1)).count (after.getD i 0) : Nat) : Int)) = comeP row after i := by unfold comeP; simp
      rw [hp]
      cases hc : comeP row after i with
      | false =>
        rw [if_neg (by simp)]
        refine ⟨_, _, g₁, _, rfl, fun _ _ e => e, F₂, ?_⟩
        rw [fm_succ, hc]; simpa using hK
      | true =>
        rw [if_pos rfl]
        refine itemAt (c := L + 1 + 1) F₂ hlg hta' rfl (hca.keeps hg) (by walk_at "lk") (by omega) ⟨_, _, g₁, _, rfl, fun _ _ e => e, F₂, ?_⟩
        rw [fm_succ, hc]; exact hK.append (.cons _ _ .nil)
  · rintro D ys nD h tk' g₁ hg hD hgD hDo hgh hyl hK
    dsimp only
    exact k h _ D (fun b o e => hgh _ _ (hg _ _ (hx₁ _ _ (hk₀ _ _ e)))) (none_of_ext (fun b o e => hx₁ _ _ (hk₀ _ _ e)) hD) ⟨ys, nD, hDo, hK⟩
end
end
section
local macro_rules | `(tactic| walk_at "lk") => `(tactic| first | exact put_eq | (refine (put_ne (by decide)).trans ?_; walk_at "lk") | assumption | rfl)
section
variable {prog : Program} {w : World} {A : Around} {E : Value → Shared → Prop} {s : Shared} {R : Result → Shared → Prop} {mg mb : Str → Option Value} {fa lr la : Addr} {row after : List Int}
theorem gone_sep : ∀ L x c, (x, c) ∈ cellsFrom (L + 1) dGone.scope.names [] → dGone.scope.names.lookup x = some .cell ∧ (cellsFrom (L + 1) dGone.scope.names []).lookup x = some c := by
  intro L x c h
  change (x, c) ∈ [(Str.ofString "after", L + 1 + 1), (Str.ofString "row", L + 1)] at h
  rcases List.mem_cons.mp h with q | h
  · cases q; exact ⟨rfl, rfl⟩
  · rcases List.mem_cons.mp h with q | h
    · cases q; exact ⟨rfl, rfl⟩
    · cases h
theorem rangeSize_down (n : Nat) : Builtin.Range.rangeSize ((n : Int) - 1) (-1) (-1) = n := by
  unfold Builtin.Range.rangeSize
  rw [if_neg (by decide)]
  split
  · rw [show -(-1 : Int) = 1 from rfl, Int.ediv_one]; omega
  · omega
theorem small_down (n : Nat) (h : n ≤ 1000) : Builtin.Range.small ((n : Int) - 1) (-1) (-1) = true := by
  unfold Builtin.Range.small
  rw [rangeSize_down]
  simp only [Builtin.Range.rangeFitsLong, Bool.and_eq_true, Bool.or_eq_true, decide_eq_true_eq, beq_iff_eq, show ¬ (-1 : Int) > 0 by decide, if_false]
  omega
set_option maxHeartbeats 2000000 in
theorem gone_spec (G : Gd mg mb s.heap) (hA : Okk A 1) (hf : mg dGone.name = some (.ref fa)) (N1 : NL s.heap lr row) (N2 : NL s.heap la after) (hs1 : row.length ≤ 1000)
    (k : ∀ h tk r, Ext s.heap h → s.heap.get? r = none → NL h r (goneL row after) → R (.ok (.ret (.ref r))) { s with heap := h, toks := tk }) :
    codeAny (model prog w) A (.call (.ref fa) ⟨[.ref lr, .ref la], []⟩) R s := by
  refine enterC dGone (binds := [("row", .ref lr), ("after", .ref la)]) (by unfold recs; simp) G hf hA.room (fun _ _ _ => rfl) ?_ gone_sep fun L cd h₁ tk F => ?_
  · intro x hx
    rcases List.mem_cons.mp hx with rfl | hx
    · exact .inr ⟨rfl, rfl⟩
    · rw [List.mem_singleton.mp hx]; exact .inr ⟨rfl, rfl⟩
  have hA' := hA.deeper (env := envOfC dGone.name dGone.scope L fa cd)
  have hk₀ := F.keep
  have hcr : h₁.IsCell (L + 1) (some (.ref lr)) := F.cl "row" (L + 1) (by show _ ∈ [(Str.ofString "after", L + 1 + 1), (Str.ofString "row", L + 1)]; simp)
  have hca : h₁.IsCell (L + 1 + 1) (some (.ref la)) := F.cl "after" (L + 1 + 1) (by show _ ∈ [(Str.ofString "after", L + 1 + 1), (Str.ofString "row", L + 1)]; simp)
  obtain ⟨vs, hl, hI⟩ := N1.isList
  have hvl := hI.length
  refine wpAny_execs_cons (wpAny_Return_some (evComp (cl := [("row", L + 1), ("after", L + 1 + 1)]) rfl rfl (by decide) ?_))
  refine tC3 G F boot_range (wpAny_BinOp (bC1 G F boot_len (nC F (v := .ref lr) rfl ?_ ⟨L + 1, by show _ ∈ [(Str.ofString "after", L + 1 + 1), (Str.ofString "row", L + 1)]; simp⟩)))
  refine call_len_list (hl.at fun o e => hk₀ _ _ e) (by simp; omega) ?_
  refine wpAny_Constant_int (PyProof.Rows.sub_int (wpAny_UnaryOp (wpAny_Constant_int (PySem.P.neg_int (wpAny_UnaryOp (wpAny_Constant_int (PySem.P.neg_int ?_)))))))
  refine call_range_3 (by decide) ?_ (Or.inl (PyProof.noPylong_small (by decide)))
  dsimp only
  rw [show vs.toArray.size = row.length from by simp [hvl]]
  generalize hob : ({ cls := .type "range", data := .fields #[.int ((row.length : Nat) - 1) (tk + 1 + 1 + 1), .int (-1) (tk + 1 + 1 + 1 + 1 + 1), .int (-1) (tk + 1 + 1 + 1 + 1 + 1 + 1 + 1)] } : Obj) = ob
  have hx₁ : Ext h₁ (h₁.push ob) := fun b o e => Heap.get?_push_of_some _ e
  refine compOverRange (s₁ := { s with heap := h₁.push ob, toks := _ }) (n := row.length) (a := (row.length : Int) - 1) (b := -1) (c := -1) hA'.hh (hob ▸ IsRange.new ..) (small_down _ hs1) (rangeSize_down _) (by omega) (by decide) rfl rfl
    (fun i g₁ ys => IntsAre ys (((List.range i).filter (goneP row after)).map fun j => row.getD (row.length - 1 - j) 0)) (fun _ _ => .nil) ?_ ?_
  · rintro C D I j tv g₁ ys τ oI nD h tk' E' hj hyl hD hC hI' hg hK F'
    replace hg : Ext h₁ g₁ := fun b o e => hg _ _ (hx₁ _ _ e)
    have hgs : Ext s.heap g₁ := fun b o e => hg _ _ (hk₀ _ _ e)
    have hi' : (row.length : Int) - 1 + (j : Int) * -1 = ((row.length - 1 - j : Nat) : Int) := by omega
    rw [hi'] at F'
    generalize hie : row.length - 1 - j = i at F'
    have hi : i < row.length := by omega
    obtain ⟨ta, hta⟩ := hI.get i (row.getD i 0) (by rw [List.getD_eq_getElem?_getD, List.getElem?_eq_getElem hi]; rfl)
    have hta' : vs.toArray[i]? = some (.int (row.getD i 0) ta) := by simpa using hta
    have hlg : g₁.IsList lr vs.toArray := hl.at fun o e => hgs _ _ e
    refine tst_one (wpAny_isTrue_Compare1 (mCount rfl rfl rfl (evSl (nK F' (c := L + 1) rfl (hcr.keeps hg) (evalPart_some_step (nL F' (by walk_at "lk") (evalPart_none_step (evalPart_none_step ⟨lr, vs.toArray, some (i : Int), none, none, rfl, hl.at fun o e => F'.keep _ _ (hgs _ _ e), by rw [sl]; simp; omega, .int _ _, .none, .none, by simp, ?_⟩))))))))
    intro h₂ r hx₂ hr hro
    have F₂ := F'.ext hx₂
    have hN : NL h₂ r (row.drop i) := by
      refine ⟨vs.drop i, 0, ?_, hI.drop i⟩
      show h₂.get? r = _
      rw [hro, slicePick_from']
    refine ⟨r, row.drop i, rfl, hN, ?_⟩
    refine itemAt (c := L + 1) F₂ hlg hta' rfl (hcr.keeps hg) (by walk_at "lk") (by omega) ⟨_, _, rfl, hN, ?_⟩
    refine mCount rfl rfl rfl (nK F₂ (c := L + 1 + 1) rfl (hca.keeps hg) ⟨la, after, rfl, N2.keep fun b o e => F₂.keep _ _ (hgs _ _ e), itemAt (c := L + 1) F₂ hlg hta' rfl (hcr.keeps hg) (by walk_at "lk") (by omega) ⟨_, _, rfl, N2.keep fun b o e => F₂.keep _ _ (hgs _ _ e), ?_⟩⟩)
    refine PyProof.Rows.gt_int (wpAny_truthy_bool ?_)
    have hp : decide (((after.count (row.getD i 0) : Nat) : Int) < (((row.drop i).count (row.getD i 0) : Nat) : Int)) = goneP row after j := by unfold goneP; rw [hie]; simp
    rw [hp]
    cases hc : goneP row after j with
    | false =>
      rw [if_neg (by simp)]
      refine ⟨_, _, g₁, _, rfl, fun _ _ e => e, F₂, ?_⟩
      rw [fm_succ, hc]; simpa using hK
    | true =>
      rw [if_pos rfl]
      refine itemAt (c := L + 1) F₂ hlg hta' rfl (hcr.keeps hg) (by walk_at "lk") (by omega) ⟨_, _, g₁, _, rfl, fun _ _ e => e, F₂, ?_⟩
      rw [fm_succ, hc, hie]; exact hK.append (.cons _ _ .nil)
  · rintro D ys nD h tk' g₁ hg hD hgD hDo hgh hyl hK
    dsimp only
    exact k h _ D (fun b o e => hgh _ _ (hg _ _ (hx₁ _ _ (hk₀ _ _ e)))) (none_of_ext (fun b o e => hx₁ _ _ (hk₀ _ _ e)) hD) ⟨ys, nD, hDo, hK⟩
end
end
section
local macro_rules | `(tactic| walk_at "lk") => `(tactic| first | exact put_eq | (refine (put_ne (by decide)).trans ?_; walk_at "lk") | assumption | rfl)
theorem ints_of_get : ∀ (vs : List Value) (ns : List Int), vs.length = ns.length → (∀ (j : Nat) v, vs[j]? = some v → ∃ t, v = .int (ns.getD j 0) t) → IntsAre vs ns
  | [], [], _, _ => .nil
  | v :: vs, n :: ns, hl, h => by
    obtain ⟨t, rfl⟩ := h 0 v rfl
    exact .cons n t (ints_of_get vs ns (by simpa using hl) fun j v hv => h (j + 1) v (by simpa using hv))
theorem ints_of_items {f : Nat → Int} {acc : Array Value} {n : Nat} (h : ItemsOf (fun i v => ∃ t, v = .int (f i) t) acc n) : IntsAre acc.toList ((List.range n).map f) := by
  refine ints_of_get _ _ (by simp [h.1]) fun j v hv => ?_
  have hv' : acc[j]? = some v := by simpa using hv
  obtain ⟨t, rfl⟩ := h.2 j v hv'
  have hj : j < n := by rw [← h.1]; exact (Array.getElem?_eq_some_iff.mp hv').1
  exact ⟨t, by rw [List.getD_eq_getElem?_getD, List.getElem?_map, List.getElem?_range hj]; rfl⟩
def minL (nn : Nat) (len : Nat) : Int := if (len : Int) < (nn : Int) then (len : Int) else (nn : Int)
def placesL (script : List Int) (nn : Nat) : List Int := (script.take nn).map (fun x => x.fmod (nn : Int)) ++ (List.range ((nn : Int) - minL nn script.length).toNat).map (fun (i : Nat) => minL nn script.length + (i : Int) * 1)
def pilesP (pl : List Int) (p : Nat) : Bool := pl.contains (p : Int)
def pilesL (script : List Int) (nn : Nat) : List Int := ((List.range nn).filter (pilesP (placesL script nn))).map fun (p : Nat) => (((placesL script nn).count (p : Int) : Nat) : Int)
section
variable {prog : Program} {w : World} {A : Around} {E : Value → Shared → Prop} {s : Shared} {R : Result → Shared → Prop} {mg mb : Str → Option Value} {fa l : Addr} {script : List Int} {vs : List Value} {nn : Nat} {tn : Tok}
theorem piles_cs (L : Addr) : cellsFrom (L + 1) dPiles.scope.names [] = [(Str.ofString "places", L + 1 + 1), (Str.ofString "n", L + 1)] := rfl
theorem piles_sep : ∀ L x c, (x, c) ∈ cellsFrom (L + 1) dPiles.scope.names [] → dPiles.scope.names.lookup x = some .cell ∧ (cellsFrom (L + 1) dPiles.scope.names []).lookup x = some c := by
  intro L x c h
  rw [piles_cs] at h
  rcases List.mem_cons.mp h with q | h
  · cases q; exact ⟨rfl, rfl⟩
  · rcases List.mem_cons.mp h with q | h
    · cases q; exact ⟨rfl, rfl⟩
    · cases h
set_option maxHeartbeats 2000000 in
theorem piles_spec (G : Gd mg mb s.heap) (hA : Okk A 1) (hf : mg dPiles.name = some (.ref fa)) (hl : s.heap.IsList l vs.toArray) (hI : IntsAre vs script) (hs1 : script.length ≤ 1000) (hn0 : 0 < nn) (hn1 : nn ≤ 1000)
    (k : ∀ h tk r, Ext s.heap h → s.heap.get? r = none → NL h r (pilesL script nn) → R (.ok (.ret (.ref r))) { s with heap := h, toks := tk }) :
    codeAny (model prog w) A (.call (.ref fa) ⟨[.ref l, .int nn tn], []⟩) R s := by
  refine enterC dPiles (binds := [("script", .ref l), ("n", .int nn tn)]) (by unfold recs; simp) G hf hA.room (fun _ _ _ => rfl) ?_ piles_sep fun L cd h₁ tk F => ?_
  · intro x hx
    rcases List.mem_cons.mp hx with rfl | hx
    · exact .inl rfl
    · rw [List.mem_singleton.mp hx]; exact .inr ⟨rfl, rfl⟩
  rw [piles_cs] at F
  have hA' := hA.deeper (env := envOfC dPiles.name dPiles.scope L fa cd)
  have hk₀ := F.keep
  have hvl := hI.length
  have mn : ∃ c, (Str.ofString "n", c) ∈ [(Str.ofString "places", L + 1 + 1), (Str.ofString "n", L + 1)] := ⟨L + 1, by simp⟩
  have mp : ∃ c, (Str.ofString "places", c) ∈ [(Str.ofString "places", L + 1 + 1), (Str.ofString "n", L + 1)] := ⟨L + 1 + 1, by simp⟩
  refine wpAny_execs_cons (wpAny_Assign_Name (wpAny_BinOp (evComp (cl := [("n", L + 1)]) rfl rfl (by decide) (evSl (nL F (v := .ref l) rfl (evalPart_none_step (evalPart_some_step (nC F (v := .int nn tn) rfl (evalPart_none_step ⟨l, vs.toArray, none, some (nn : Int), none, rfl, hl.at fun o e => hk₀ _ _ e, by rw [sl]; simp; omega, .none, .int _ _, .none, by simp, ?_⟩) mn))))))))
  intro h₂ r₂ hx₂ hr₂ hro₂
  rw [slicePick_upto'] at hro₂
  have hcn : h₁.IsCell (L + 1) (some (.int nn tn)) := F.cl "n" (L + 1) (by simp)
  have F₂ := F.ext hx₂
  refine compOverList (s₁ := { s with heap := h₂, toks := tk }) hA'.hh (IsL.isList hro₂) (by simp; omega) (by decide) rfl rfl
    (fun i g₁ ys => IntsAre ys (((script.take nn).take i).map (fun x => x.fmod (nn : Int)))) (fun _ _ => .nil) ?_ ?_
  · rintro C D I i v g₁ ys τ oI nD h tk' E' hv hyl hD hC hI' hg hK F'
    obtain ⟨x, t, rfl, hx⟩ := (hI.take nn).at i v (by simpa using hv)
    refine tst_nil ?_
    rw [if_pos rfl]
    refine wpAny_BinOp (nL F' (by walk_at "lk") (nK F' (c := L + 1) rfl ((hcn.keeps hx₂).keeps hg) (mod_int' (by omega) ⟨_, _, g₁, _, rfl, fun _ _ e => e, F', ?_⟩)))
    rw [List.take_add_one, hx, List.map_append]
    exact hK.append (.cons _ _ .nil)
  · rintro D ys nD h₃ tk₃ g₃ hg₃ hD hgD hDo hgh hyl hK
    have hx₃ : Ext h₂ h₃ := fun b o e => hgh _ _ (hg₃ _ _ e)
    have F₃ := F₂.ext hx₃
    have hl₃ : h₃.IsList l vs.toArray := hl.at fun o e => F₃.keep _ _ e
    refine tC1 G F₃ boot_list (tC2 G F₃ boot_range (bC2 G F₃ boot_min (nC F₃ (v := .int nn tn) rfl (bC1 G F₃ boot_len (nL F₃ (v := .ref l) rfl (call_len_list hl₃ (by simp; omega) (min_two_ints hA'.hh fun h₄ tk₄ hx₄ => ?_)))) mn)))
    have F₄ := F₃.ext hx₄
    have hmin : ∃ tm, (if ((vs.toArray.size : Nat) : Int) < (nn : Int) then Value.int ((vs.toArray.size : Nat) : Int) (tk₃ + 1) else Value.int nn tn) = .int (minL nn script.length) tm := by
      unfold minL
      rw [show vs.toArray.size = script.length from by simp [hvl]]
      split <;> exact ⟨_, rfl⟩
    obtain ⟨tm, htm⟩ := hmin
    dsimp only
    rw [htm]
    have hmb : 0 ≤ minL nn script.length ∧ minL nn script.length ≤ nn := by unfold minL; split <;> omega
    refine nC F₄ (v := .int nn tn) rfl (call_range_2 ?_) mn
    have F₅ := (F₄.push { cls := .type "range", data := .fields #[.int (minL nn script.length) tm, .int nn tn, .int 1 tk₄] }).tail
    refine call_list_range (n := ((nn : Int) - minL nn script.length).toNat) hA'.hh (IsRange.new ..) (small_one (by omega) (by omega) (by omega) (by omega)) (by rw [rangeSize_one]; split <;> omega) (by omega) fun h₆ tk₆ acc c hx₆ hro₆ hacc => ?_
    have F₆ := F₅.ext hx₆
    have hI₆ := ints_of_items hacc
    have hD₆ : IsL h₆ D ys.toArray nD := hx₆ _ _ (Heap.get?_push_of_some _ (hx₄ _ _ hDo))
    have hyl' : ys.length ≤ nn := Nat.le_trans hyl (by simp; omega)
    refine PySem.P.add_list hD₆ hro₆ ?_ (by rw [sl, hacc.1, List.size_toArray]; omega)
    have hpl : NL (h₆.push { cls := .type "list", data := .seq (ys.toArray ++ acc) }) h₆.objs.size (placesL script nn) := by
      refine ⟨ys ++ acc.toList, 0, ?_, ?_⟩
      · have e : (ys ++ acc.toList).toArray = ys.toArray ++ acc := by simp
        rw [e]; exact Heap.get?_push_size _ rfl
      · unfold placesL
        rw [show (vs.take nn).toArray.size = (script.take nn).length from by simp [hvl], List.take_length] at hK
        exact hK.append hI₆
    have F₇ := (F₆.push { cls := .type "list", data := .seq (ys.toArray ++ acc) })
    obtain ⟨g₇, hg₇, F₈, hfr₇, _, hgz⟩ := F₇.tail.rebase
    have hplg : NL g₇ h₆.objs.size (placesL script nn) := hpl.at fun o e => hfr₇ _ _ (F₆.fresh (size_none h₆)) e
    generalize h₆.objs.size = lp at hplg
    refine sC F₈ mp fun h₉ tk₉ F₉ => ?_
    clear hpl F₇
    dsimp only
    refine wpAny_execs_cons (wpAny_Return_some (evComp (cl := [("places", L + 1 + 1)]) rfl rfl (by decide) (tC1 (G.keeps hg₇) F₉ boot_range (nC F₉ (v := .int nn tn) rfl (call_range_1 ?_) mn))))
    generalize hob : ({ cls := .type "range", data := .fields #[.int 0 tk₉, .int nn tn, .int 1 (tk₉ + 1)] } : Obj) = ob
    have hx₁ : Ext h₉ (h₉.push ob) := fun b o e => Heap.get?_push_of_some _ e
    have hcp : h₉.IsCell (L + 1 + 1) (some (.ref lp)) := F₉.cl "places" (L + 1 + 1) (by simp)
    refine compOverRange (s₁ := { s with heap := h₉.push ob, toks := _ }) (n := nn) (a := 0) (b := nn) (c := 1) hA'.hh (hob ▸ IsRange.new ..) (small_one (by omega) (by omega) (by omega) (by omega)) (by rw [rangeSize_one]; split <;> omega) (by omega) (by decide) rfl rfl
      (fun i g₁ ys => IntsAre ys (((List.range i).filter (pilesP (placesL script nn))).map fun (p : Nat) => (((placesL script nn).count (p : Int) : Nat) : Int))) (fun _ _ => .nil) ?_ ?_
    · rintro C D I i tv g₁ ys τ oI nD h tk' E' hi hyl hD hC hI' hg hK F'
      replace hg : Ext h₉ g₁ := fun b o e => hg _ _ (hx₁ _ _ e)
      have hgs : Ext g₇ g₁ := fun b o e => hg _ _ (F₉.keep _ _ e)
      have hi' : (0 : Int) + (i : Int) * 1 = i := by omega
      rw [hi'] at F'
      have hpl' : NL h lp (placesL script nn) := hplg.keep fun b o e => F'.keep _ _ (hgs _ _ e)
      refine tst_one (wpAny_isTrue_Compare1 (nL F' (by walk_at "lk") (nK F' (c := L + 1 + 1) rfl (hcp.keeps hg) (in_NL hpl' (wpAny_truthy_bool ?_)))))
      show if pilesP (placesL script nn) i = true then _ else _
      cases hc : pilesP (placesL script nn) i with
      | false =>
        rw [if_neg (by simp)]
        refine ⟨_, _, g₁, _, rfl, fun _ _ e => e, F', ?_⟩
        rw [fm_succ, hc]; simpa using hK
      | true =>
        rw [if_pos rfl]
        refine mCount rfl rfl rfl (nK F' (c := L + 1 + 1) rfl (hcp.keeps hg) ⟨lp, _, rfl, hpl', nL F' (by walk_at "lk") ⟨_, _, rfl, hpl', _, _, g₁, _, rfl, fun _ _ e => e, F', ?_⟩⟩)
        rw [fm_succ, hc]; exact hK.append (.cons _ _ .nil)
    · rintro D ys nD h tk' g₁ hg hD hgD hDo hgh hyl hK
      dsimp only
      have e0 : Ext s.heap (h₉.push ob) := fun b o e => hx₁ _ _ (F₉.keep _ _ (hg₇ _ _ e))
      exact k h _ D (fun b o e => hgh _ _ (hg _ _ (e0 _ _ e))) (none_of_ext e0 hD) ⟨ys, nD, hDo, hK⟩
end
end
section
local macro_rules | `(tactic| walk_at "lk") => `(tactic| first | exact put_eq | (refine (put_ne (by decide)).trans ?_; walk_at "lk") | assumption | rfl)
open AutoSeq1 (wpAny_loadPart')
open MeetsSeq (plain_remove_loop entry_remove_loop size_erased)
open SeqAt (EqAt)
/-- list.remove where the comparison looks at the heap -/
theorem removeHit (l : Addr) (items : Array Value) (n : Nat) (x : Value) (e : Value → Bool) (j : Nat) (hj : j < items.size) (hit : e items[j] = true) (hs1 : items.size ≤ sizeLine) :
    ∀ (k i : Nat), j - i = k → i ≤ j → (∀ m (hm : m < items.size), i ≤ m → m < j → e items[m] = false) → Meets (Builtin.«list.remove.loop» ⟨[.ref l, x, rawInt i], []⟩)
      (fun A R s => s.heap.get? l = some { cls := .type "list", dict := none, data := .seq items n, slots := #[] } ∧ (∀ y, y ∈ items → EqAt A.in1 s y x (e y)) ∧ R (.ok (.ret .none)) { s with heap := s.heap.update l (Obj.mapSeq fun xs => xs.eraseIdxIfInBounds j) }) := by
  intro k
  induction k with
  | zero =>
    intro i hk hij hno prog w A R s h
    obtain ⟨hp, g, d, tk, os⟩ := s; obtain ⟨hl, he, h⟩ := h
    have hij' : i = j := by omega
    subst hij'
    wp_walk using wpAny_loadPart' hl
    have hi : items[((i : Nat) : Int).toNat]? = some items[i] := by simp [hj]
    rw [hi]
    refine wpAny_bind (he _ (Array.getElem_mem hj) prog w _ _ ?_)
    rw [hit]
    have hz' : (items.eraseIdxIfInBounds i).size ≤ sizeLine + 1 := Nat.le_trans (size_erased items _) (Nat.le_succ_of_le hs1)
    wp_walk using (wpAny_updateSeq hl rfl (hz := hs1) (_hz' := hz')), wpAny_loadPart' hl
    simpa using h
  | succ k ih =>
    intro i hk hij hno prog w A R s h
    obtain ⟨hp, g, d, tk, os⟩ := s; obtain ⟨hl, he, h⟩ := h
    have hlt : i < items.size := by omega
    wp_walk using wpAny_loadPart' hl
    have hi : items[((i : Nat) : Int).toNat]? = some items[i] := by simp [hlt]
    have hc : ((i : Int) + 1) = ((i + 1 : Nat) : Int) := by push_cast; rfl
    rw [hi]
    refine wpAny_bind (he _ (Array.getElem_mem hlt) prog w _ _ ?_)
    rw [hno i hlt (Nat.le_refl _) (by omega)]
    wp_walk
    rw [hc]
    exact ⟨plainId_quiet plain_remove_loop _, codeAny_builtin entry_remove_loop (by
      rw [Around.under_plainId plain_remove_loop _]
      exact ih (i + 1) (by omega) (by omega) (fun m hm h1 h2 => hno m hm (by omega) h2) prog w A R _ ⟨hl, he, h⟩)⟩
theorem removeMiss (l : Addr) (items : Array Value) (n : Nat) (x : Value) (e : Value → Bool) (hno : ∀ m (hm : m < items.size), e items[m] = false) :
    ∀ (k i : Nat), items.size - i = k → Meets (Builtin.«list.remove.loop» ⟨[.ref l, x, rawInt i], []⟩)
      (fun A R s => s.heap.get? l = some { cls := .type "list", dict := none, data := .seq items n, slots := #[] } ∧ (∀ y, y ∈ items → EqAt A.in1 s y x (e y)) ∧ raisesNew "ValueError" A R s) := by
  intro k
  induction k with
  | zero =>
    intro i hk prog w A R s h
    obtain ⟨hp, g, d, tk, os⟩ := s; obtain ⟨hl, he, h⟩ := h
    wp_walk using wpAny_loadPart' hl
    have hi : items[((i : Nat) : Int).toNat]? = none := by simp; omega
    rw [hi]
    wp_walk
    exact_raiseError plainExc_ValueError h.1 h.2
  | succ k ih =>
    intro i hk prog w A R s h
    obtain ⟨hp, g, d, tk, os⟩ := s; obtain ⟨hl, he, h⟩ := h
    have hlt : i < items.size := by omega
    wp_walk using wpAny_loadPart' hl
    have hi : items[((i : Nat) : Int).toNat]? = some items[i] := by simp [hlt]
    have hc : ((i : Int) + 1) = ((i + 1 : Nat) : Int) := by push_cast; rfl
    rw [hi]
    refine wpAny_bind (he _ (Array.getElem_mem hlt) prog w _ _ ?_)
    rw [hno i hlt]
    wp_walk
    rw [hc]
    exact ⟨plainId_quiet plain_remove_loop _, codeAny_builtin entry_remove_loop (by
      rw [Around.under_plainId plain_remove_loop _]
      exact ih (i + 1) (by omega) prog w A R _ ⟨hl, he, h⟩)⟩
theorem remove_hit (l : Addr) (items : Array Value) (n : Nat) (x : Value) (e : Value → Bool) (j : Nat) (hj : j < items.size) (hit : e items[j] = true) (hno : ∀ m (hm : m < items.size), m < j → e items[m] = false) (hs1 : items.size ≤ sizeLine) :
    Meets (Builtin.«list.remove» ⟨[.ref l, x], []⟩)
      (fun A R s => s.heap.get? l = some { cls := .type "list", dict := none, data := .seq items n, slots := #[] } ∧ (∀ y, y ∈ items → EqAt A.in1 s y x (e y)) ∧ R (.ok (.ret .none)) { s with heap := s.heap.update l (Obj.mapSeq fun xs => xs.eraseIdxIfInBounds j) }) := by
  intro prog w A R s h
  obtain ⟨hp, g, d, tk, os⟩ := s; obtain ⟨hl, he, h⟩ := h
  wp_walk using wpAny_loadPart' hl
  exact ⟨plainId_quiet plain_remove_loop _, codeAny_builtin entry_remove_loop (by
    rw [Around.under_plainId plain_remove_loop _]
    exact removeHit l items n x e j hj hit hs1 _ 0 rfl (Nat.zero_le _) (fun m hm _ h2 => hno m hm h2) prog w A R _ ⟨hl, he, h⟩)⟩
theorem remove_miss (l : Addr) (items : Array Value) (n : Nat) (x : Value) (e : Value → Bool) (hno : ∀ m (hm : m < items.size), e items[m] = false) :
    Meets (Builtin.«list.remove» ⟨[.ref l, x], []⟩)
      (fun A R s => s.heap.get? l = some { cls := .type "list", dict := none, data := .seq items n, slots := #[] } ∧ (∀ y, y ∈ items → EqAt A.in1 s y x (e y)) ∧ raisesNew "ValueError" A R s) := by
  intro prog w A R s h
  obtain ⟨hp, g, d, tk, os⟩ := s; obtain ⟨hl, he, h⟩ := h
  wp_walk using wpAny_loadPart' hl
  exact ⟨plainId_quiet plain_remove_loop _, codeAny_builtin entry_remove_loop (by
    rw [Around.under_plainId plain_remove_loop _]
    exact removeMiss l items n x e hno _ 0 rfl prog w A R _ ⟨hl, he, h⟩)⟩
/-- what the function reckons: the items from the end on -/
def diffV {α : Type} (e : α → α → Bool) : List α → List α × List α → List α × List α
  | [], p => p
  | x :: r, (act, mis) => match act.findIdx? (fun y => e y x) with
    | some j => diffV e r (act.eraseIdx j, mis)
    | none => diffV e r (act, mis ++ [x])
theorem LS.unfreeze {g : Heap} {env : Env} {cs : List (Str × Addr)} {h : Heap} {σ : Str → Option Value} {mu : List (Addr × Obj)} (F : LS g env cs h σ mu) (as : List (Addr × Obj)) (hg : ∀ p ∈ as, g.get? p.1 = some p.2) (hn : (as.map (·.1)).Nodup) :
    LS (hideAll g (as.map (·.1))) env cs h σ (as ++ mu) := by
  have hne : ∀ p ∈ as, p.1 ∉ fence env cs mu := fun p hp => F.ne_of_g (hg p hp)
  refine ⟨F.ns, F.cl, F.sep, fun p hp => ?_, fun b o e => F.keep _ _ (of_hideAll _ e), ?_, fun a ha => ?_⟩
  · rcases List.mem_append.mp hp with hp | hp
    · exact F.keep _ _ (hg p hp)
    · exact F.led p hp
  · have nd := List.nodup_cons.mp F.nd
    have n1 := List.nodup_append.mp nd.2
    unfold fence
    rw [List.map_append]
    refine List.nodup_cons.mpr ⟨fun q => ?_, List.nodup_append.mpr ⟨n1.1, List.nodup_append.mpr ⟨hn, n1.2.1, fun a ha b hb e => ?_⟩, fun a ha b hb e => ?_⟩⟩
    · rcases List.mem_append.mp q with q | q
      · exact nd.1 (List.mem_append_left _ q)
      · rcases List.mem_append.mp q with q | q
        · obtain ⟨p, hp, e⟩ := List.mem_map.mp q
          exact hne p hp (by rw [e]; exact fence_loc)
        · exact nd.1 (List.mem_append_right _ q)
    · obtain ⟨p, hp, rfl⟩ := List.mem_map.mp ha
      obtain ⟨q, hq, rfl⟩ := List.mem_map.mp hb
      exact hne p hp (by rw [e]; exact fence_mu hq)
    · rcases List.mem_append.mp hb with hb | hb
      · obtain ⟨p, hp, rfl⟩ := List.mem_map.mp hb
        obtain ⟨⟨y, c⟩, hy, rfl⟩ := List.mem_map.mp ha
        exact hne p hp (by rw [← e]; exact fence_cell hy)
      · exact n1.2.2 a ha b hb e
  · by_cases q : a ∈ as.map (·.1)
    · exact hideAll_none _ q
    · have hm : a ∈ fence env cs mu := by
        rcases fence_split ha with rfl | ⟨x, hx⟩ | ⟨o, ho⟩
        · exact fence_loc
        · exact fence_cell hx
        · rcases List.mem_append.mp ho with ho | ho
          · exact absurd (List.mem_map.mpr ⟨_, ho, rfl⟩) q
          · exact fence_mu ho
      cases hq : (hideAll g (as.map (·.1))).get? a with
      | none => rfl
      | some o => have := of_hideAll _ hq; rw [F.off a hm] at this; cases this
theorem LS.fr {g : Heap} {env : Env} {cs : List (Str × Addr)} {h : Heap} {σ : Str → Option Value} {mu : List (Addr × Obj)} (F : LS g env cs h σ mu) (ha : g.objs.size ≤ env.locals) : ∃ m, Fr g env.locals h m ∧ (∀ x, env.kindOf x = some .local → m x = σ x) ∧ News g env.locals h mu := by
  obtain ⟨m, hm, hσ⟩ := F.ns
  exact ⟨m, ⟨hm, F.keep, ha⟩, hσ, fun p hp => ⟨F.led p hp, Ne.symm (F.loc_ne_mu (a := p.1) (o := p.2) hp), F.off _ (fence_mu hp)⟩⟩
theorem LS.ofFrNews {g : Heap} {env : Env} {h h' : Heap} {σ : Str → Option Value} {mu mu' : List (Addr × Obj)} {m : Str → Option Value} (F : LS g env [] h σ mu) (Fr' : Fr g env.locals h' m) (hσ : ∀ x, env.kindOf x = some .local → m x = σ x) (N : News g env.locals h' mu') (e : mu'.map (·.1) = mu.map (·.1)) : LS g env [] h' σ mu' :=
  ⟨⟨m, Fr'.ns, hσ⟩, (fun _ _ h => nomatch h), (fun _ _ h => nomatch h), fun p hp => (N p hp).1, Fr'.keep, (fence_same e (env := env) (cs := [])) ▸ F.nd, (fence_same e (env := env) (cs := [])) ▸ F.off⟩
section
variable {prog : Program} {w : World} {A : Around} {s : Shared} {R : Result → Shared → Prop} {mg mb : Str → Option Value} {fa : Addr}
theorem enterF (d : DefRec) {args : List Value} {binds : List (Str × Value)} (hd : d ∈ recs) (G : Gd mg mb s.heap) (hf : mg d.name = some (.ref fa)) (hroom : A.depth < recursionLimit)
    (hbind : ∀ pm cd doc, bindArgs (docDef d.name d.params d.body d.scope pm cd doc) ⟨args, []⟩ = pure binds) (hloc : ∀ x ∈ binds, d.scope.names.lookup x.1 = some .local)
    (h : ∀ L cd h₁ tk, s.heap.objs.size ≤ L → LS s.heap (envOf d.name d.scope L fa cd) [] h₁ (fun x => binds.reverse.lookup x) [] →
      wpAny (model prog w) (A.deeper (envOf d.name d.scope L fa cd)) (execs d.body (envOf d.name d.scope L fa cd)) (fun f s' => R (.ok (.ret (match f with | .ret v => v | _ => .none))) s') (fun _ _ => False) { s with heap := h₁, toks := tk })
    (hco : d.scope.isCoroutine = false := by rfl) (hgen : d.scope.isGenerator = false := by rfl) (hk : d.scope.kind = .function := by rfl) (hcell : ∀ x ∈ d.scope.names, x.2 ≠ .cell := by decide) :
    codeAny (model prog w) A (.call (.ref fa) ⟨args, []⟩) R s := by
  obtain ⟨a, o, pm, c, doc, h1, h2, h3, h4⟩ := G.fn d hd
  have : fa = a := by rw [h1] at hf; cases hf; rfl
  subst this
  exact call_plain_ret hroom h2 h3 G.nolimit h4 (hbind pm c doc) hloc (fun h₁ F => h _ c h₁ _ (Nat.le_refl _) (LS.ofFr F)) hco hgen hk hcell
end
theorem sl_eq : sizeLine = 16777216 := rfl
theorem boot_ValueError : bootBuiltins "ValueError" = some (.type "ValueError") := by decide +kernel
theorem erase_last (vs : List Value) (x : Value) : (vs ++ [x]).toArray.eraseIdxIfInBounds ((vs ++ [x]).toArray.size - 1) = vs.toArray := by
  unfold Array.eraseIdxIfInBounds
  rw [dif_pos (by simp)]
  apply Array.toList_inj.mp
  simp [List.eraseIdx_append_of_length_le]
theorem erase_at (vs : List Value) (j : Nat) (hj : j < vs.length) : vs.toArray.eraseIdxIfInBounds j = (vs.eraseIdx j).toArray := by
  unfold Array.eraseIdxIfInBounds
  rw [dif_pos (by simpa using hj)]
  apply Array.toList_inj.mp
  simp
section
variable {prog : Program} {w : World} {A : Around} {s : Shared} {R : Result → Shared → Prop} {mg mb : Str → Option Value} {fa le la Lc : Addr} {g₀ : Heap} {cenv : Env} {oL : Obj} {vs us : List Value} {n1 n2 : Nat} {eq : Value → Value → Bool}
set_option maxHeartbeats 4000000 in
theorem diff_spec (hg₀ : Ext g₀ s.heap) (hoff : ∀ a ∈ [le, la, Lc], g₀.get? a = none) (G : Gd mg mb g₀) (hA : Okk A 1) (hf : mg dDiff.name = some (.ref fa)) (hfr : A.frames = some [cenv]) (hcf : cenv.frame = some Lc) (hck : cenv.scope.kind ≠ .module)
    (hLc : s.heap.get? Lc = some oL) (hLd : ∃ es ep, oL.data = .dict es ep) (hle : s.heap.get? le = some (lobj vs n1)) (hla : s.heap.get? la = some (lobj us n2)) (hne : le ≠ la) (hs1 : vs.length ≤ 1000) (hs2 : us.length ≤ 1000)
    (heq : ∀ x ∈ vs, ∀ y ∈ us, ∀ (A' : Around) (s' : Shared), A'.units + 64 < cLine → (∀ b o, b ∉ [le, la, Lc] → s.heap.get? b = some o → s'.heap.get? b = some o) → EqAt A' s' y x (eq y x))
    (k : ∀ h tk lm rt nm na sl, (∀ b o, b ∉ [le, la, Lc] → s.heap.get? b = some o → h.get? b = some o) → h.get? Lc = some { oL with slots := sl } → s.heap.get? lm = none → s.heap.get? rt = none →
      h.get? lm = some (lobj (diffV eq vs.reverse (us, [])).2 nm) → h.get? la = some (lobj (diffV eq vs.reverse (us, [])).1 na) → h.get? rt = some { cls := .type "tuple", data := .seq #[.ref lm, .ref la] } → R (.ok (.ret (.ref rt))) { s with heap := h, toks := tk }) :
    codeAny (model prog w) A (.call (.ref fa) ⟨[.ref le, .ref la], []⟩) R s := by
  refine enterF dDiff (binds := [("expected", .ref le), ("actual", .ref la)]) (by unfold recs; simp) (G.keeps hg₀) hf hA.room (fun _ _ _ => rfl) (loc2 rfl rfl) fun L cd h₁ tk hL F => ?_
  replace F := F.congr (two_binds _ _ _ _)
  have hA' := hA.deeper (env := envOf dDiff.name dDiff.scope L fa cd)
  have hnd : ([(le, lobj vs n1), (la, lobj us n2), (Lc, oL)].map (·.1)).Nodup := by
    have d1 : le ≠ Lc := fun q => by
      obtain ⟨es, ep, hd⟩ := hLd
      rw [q, hLc] at hle; cases hle; cases hd
    have d2 : la ≠ Lc := fun q => by
      obtain ⟨es, ep, hd⟩ := hLd
      rw [q, hLc] at hla; cases hla; cases hd
    simp [hne, d1, d2]
  have F0 := F.unfreeze [(le, lobj vs n1), (la, lobj us n2), (Lc, oL)] (by
    intro p hp
    rcases List.mem_cons.mp hp with rfl | hp
    · exact hle
    · rcases List.mem_cons.mp hp with rfl | hp
      · exact hla
      · rw [List.mem_singleton.mp hp]; exact hLc) hnd
  have hfz : ∀ b o, b ∉ [le, la, Lc] → s.heap.get? b = some o → (hideAll s.heap ([(le, lobj vs n1), (la, lobj us n2), (Lc, oL)].map (·.1))).get? b = some o := fun b o hb e => hideAll_get _ e hb
  have hsz : (hideAll s.heap ([(le, lobj vs n1), (la, lobj us n2), (Lc, oL)].map (·.1))).objs.size ≤ L := by rw [hideAll_size]; exact hL
  have hgb : Ext g₀ (hideAll s.heap ([(le, lobj vs n1), (la, lobj us n2), (Lc, oL)].map (·.1))) := fun b o e => hfz b o (fun q => by rw [hoff b q] at e; cases e) (hg₀ _ _ e)
  generalize hideAll s.heap ([(le, lobj vs n1), (la, lobj us n2), (Lc, oL)].map (·.1)) = hb at F0 hfz hsz hgb
  have hlmf : s.heap.get? h₁.objs.size = none := none_of_ext F.keep (size_none h₁)
  have hext : Ext s.heap h₁ := F.keep
  clear F
  have F' := F0.push (lobj [] 0)
  refine wpAny_execs_cons (wpAny_Assign_Name (List_ (spliced_nil (wpAny_newObj_type (sL F' fun h₂ tk₂ F => ?_)))))
  clear F' F0
  generalize h₁.objs.size = lm at F hlmf
  dsimp only
  refine wpAny_execs_cons (wpAny_While (codeAny_whileLoop (fun kk s' => ∃ vs' act mis m1 m2 m3 sl h tk σ, kk = vs'.length ∧ s' = { s with heap := h, toks := tk } ∧ σ "expected" = some (.ref le) ∧ σ "actual" = some (.ref la) ∧ σ "missing" = some (.ref lm) ∧
      LS hb (envOf dDiff.name dDiff.scope L fa cd) [] h σ [(lm, lobj mis m3), (le, lobj vs' m1), (la, lobj act m2), (Lc, { oL with slots := sl })] ∧ diffV eq vs'.reverse (act, mis) = diffV eq vs.reverse (us, []) ∧ (∀ x ∈ vs', x ∈ vs) ∧ (∀ y ∈ act, y ∈ us) ∧ mis.length + vs'.length ≤ 1000 ∧ act.length ≤ 1000) ?_ vs.length
    ⟨vs, us, [], n1, n2, 0, oL.slots, h₂, tk₂, _, rfl, rfl, by walk_at "lk", by walk_at "lk", by walk_at "lk", F, rfl, fun _ h => h, fun _ h => h, by simpa using hs1, hs2⟩))
  clear F
  rintro n s' ⟨vs', act, mis, m1, m2, m3, sl, h, tk, σ, rfl, rfl, s1, s2, s3, F, hd, hv, hu, hb1, hb2⟩
  have he : IsL h le vs'.toArray m1 := F.led (le, lobj vs' m1) (by simp)
  refine tName (nL F s1 (wpAny_truthy_list he.isList (by simp; omega) ?_))
  rcases List.eq_nil_or_concat vs' with rfl | ⟨vs'', x, ecat⟩
  · rw [if_neg (by simp)]
    refine wpAny_execs_nil ?_
    dsimp only
    refine wpAny_execs_cons (wpAny_Return_some (Tuple_ (args_cons (nL F s3 (args_cons (nL F s2 (args_nil (wpAny_newObj_type ?_))))))))
    dsimp only
    have hd' : (act, mis) = diffV eq vs.reverse (us, []) := hd
    have Fp := F.push { cls := .type "tuple", data := .seq #[.ref lm, .ref la] }
    refine k _ _ lm h.objs.size m3 m2 sl (fun b o hb' e => Fp.keep _ _ (hfz b o hb' e)) (Fp.led (Lc, _) (by simp)) hlmf ?_ ?_ ?_ (Fp.led (h.objs.size, _) (by simp))
    · cases q : s.heap.get? h.objs.size with
      | none => rfl
      | some o =>
        have hlt := Heap.lt_size q
        obtain ⟨m, hm, _⟩ := F.ns
        exact absurd hlt (Nat.not_lt.mpr (Nat.le_of_lt (Nat.lt_of_le_of_lt hL hm.lt)))
    · rw [← hd']; exact Fp.led (lm, lobj mis m3) (by simp)
    · rw [← hd']; exact Fp.led (la, lobj act m2) (by simp)
  · rw [List.concat_eq_append] at ecat
    subst ecat
    rw [if_pos (by simp)]
    have hvl : (vs'' ++ [x]).length ≤ 1000 := by omega
    refine wpAny_execs_cons (wpAny_Assign_Name (wpAny_Call_method (T := "list") (id := "list.pop") rfl rfl rfl PySem.F.plainAttrs_list PySem.F.slot_list_pop PySem.F.type_list_pop (nL F s1 ⟨⟨_, he, rfl⟩, fun a ha => ⟨_, by cases ha; exact he, rfl⟩, ?_⟩)))
    show wpAny _ _ (callWith _ (.builtin "list.pop") [.ref le] [] []) _ _ _
    refine PySem.P.pop_list he (y := x) (by simp) ?_ (by rw [sl_eq, List.size_toArray]; omega)
    have hup := he.update (fun xs => xs.eraseIdxIfInBounds ((vs'' ++ [x]).toArray.size - 1))
    rw [erase_last] at hup
    obtain ⟨m1', F₁⟩ : ∃ m1', LS hb (envOf dDiff.name dDiff.scope L fa cd) [] (h.update le (Obj.mapSeq fun xs => xs.eraseIdxIfInBounds ((vs'' ++ [x]).toArray.size - 1))) σ [(lm, lobj mis m3), (le, lobj vs'' m1'), (la, lobj act m2), (Lc, { oL with slots := sl })] :=
      ⟨_, LS.upd (pre := [(lm, lobj mis m3)]) (post := [(la, lobj act m2), (Lc, { oL with slots := sl })]) F (SameBut_update _ _ _) hup⟩
    refine sL F₁ fun h₃ tk₃ F₃ => ?_
    clear F₁ hup he F
    dsimp only
    have hla₃ : IsL h₃ la act.toArray m2 := F₃.led (la, lobj act m2) (by simp)
    have hxv : x ∈ vs := hv x (by simp)
    rw [List.reverse_append, List.reverse_singleton, List.singleton_append] at hd
    have heqs : ∀ (s' : Shared), s'.heap = h₃ → ∀ y, y ∈ act.toArray → EqAt (A.deeper (envOf dDiff.name dDiff.scope L fa cd)).in1 s' y x (eq y x) := fun s' hs' y hy =>
      heq x hxv y (hu y (by simpa using hy)) _ s' (by have := hA'.units; show A.units + 3 + 1 + 64 < cLine; have : A.units + 3 + 200 < cLine := hA'.units; omega) (fun b o hb' e => hs' ▸ F₃.keep _ _ (hfz b o hb' e))
    refine wpAny_execs_cons (wpAny_Try_except (wpAny_execs_cons (wpAny_Expr (wpAny_Call_method (T := "list") (id := "list.remove") rfl rfl rfl PySem.F.plainAttrs_list PySem.F.slot_list_remove PySem.F.type_list_remove (nL F₃ (v := .ref la) (by walk_at "lk") ⟨⟨_, hla₃, rfl⟩, fun a ha => ⟨_, by cases ha; exact hla₃, rfl⟩, ?_⟩)))))
    refine seqMethod1_meets PySem.F.slot_list_remove PySem.F.entry_list_remove (nL F₃ (v := x) (by walk_at "lk") ?_)
    cases hfi : act.findIdx? (fun y => eq y x) with
    | some j =>
      obtain ⟨hj, hit, hno⟩ := List.findIdx?_eq_some_iff_getElem.mp hfi
      refine ⟨⟨_, hla₃, rfl⟩, PySem.F.args_list_remove_2 _ _, _, remove_hit la act.toArray m2 x (fun y => eq y x) j (by simpa using hj) (by simpa using hit) (fun m hm hmj => by simpa using hno m hmj) (by rw [sl_eq, List.size_toArray]; omega), hla₃, heqs _ rfl, ?_⟩
      have hup := hla₃.update (fun xs => xs.eraseIdxIfInBounds j)
      rw [erase_at _ _ hj] at hup
      have F₄ := LS.upd (pre := [(lm, lobj mis m3), (le, lobj vs'' m1')]) (post := [(Lc, { oL with slots := sl })]) F₃ (SameBut_update _ _ _) hup
      show wpAny _ _ (execs [] _) _ _ _
      refine wpAny_execs_nil ?_
      dsimp only
      refine wpAny_execs_nil (wpAny_execs_nil ⟨vs''.length, by simp, vs'', act.eraseIdx j, mis, _, _, m3, sl, _, _, _, rfl, rfl, by walk_at "lk", by walk_at "lk", by walk_at "lk", F₄, ?_, fun y hy => hv y (by simp [hy]), fun y hy => hu y (List.mem_of_mem_eraseIdx hy), ?_, ?_⟩)
      · rw [← hd]; conv => rhs; unfold diffV
        rw [hfi]
      · simp at hb1; omega
      · rw [List.length_eraseIdx]; split <;> omega
    | none =>
      have hno := List.findIdx?_eq_none_iff.mp hfi
      refine ⟨⟨_, hla₃, rfl⟩, PySem.F.args_list_remove_2 _ _, _, remove_miss la act.toArray m2 x (fun y => eq y x) (fun m hm => hno _ (by simp)), hla₃, heqs _ rfl, hA'.hh, fun h₄ tk₄ e hx => ?_⟩
      show wpAny _ _ (noteFrame (.ref e) _) _ _ _
      obtain ⟨m, Fr₃, hσ₃, N₃⟩ := F₃.fr hsz
      have hnd₃ := (List.nodup_append.mp (List.nodup_cons.mp F₃.nd).2).2.1
      have hne₃ : lm ≠ Lc ∧ le ≠ Lc ∧ la ≠ Lc := by
        change [lm, le, la, Lc].Nodup at hnd₃
        simp only [List.nodup_cons, List.mem_cons, not_or] at hnd₃
        exact ⟨hnd₃.1.2.2.1, hnd₃.2.1.2.1, hnd₃.2.2.1.1⟩
      refine TLg.noted_new1 (oL := { oL with slots := sl }) (new := [(lm, lobj mis m3), (le, lobj vs'' m1'), (la, lobj act m2)]) hfr ⟨hck, hcf, hLd, trivial⟩ hx Fr₃ N₃ ⟨hne₃.1, hne₃.2.1, hne₃.2.2, trivial⟩ fun h₅ sl' Fs' H => ?_
      refine TT.HeldNA.land H fun h₆ H₆ => ?_
      refine wpAny_handleBy_builtin (X := "ValueError") (T := "ValueError") (b := true) (isSubtype_of_subB (by decide +kernel)) (isSubtype_of_subB (by decide +kernel)) (isSubtype_of_subB (by decide +kernel)) ?_
      have F₆ := F₃.ofFrNews H₆.held.fr hσ₃ H₆.made rfl
      refine nB (G.keeps hgb) F₆ boot_ValueError ⟨rfl, H₆.isA, ?_⟩
      rw [if_pos rfl]
      refine TT.HeldNA.lands H₆ fun h₇ Fr₇ N₇ => ?_
      have F₇ := F₃.ofFrNews Fr₇ hσ₃ N₇ rfl
      have hN₇ : IsL h₇ lm mis.toArray m3 := F₇.led (lm, lobj mis m3) (by simp)
      refine wpAny_execs_cons (sAppend (D := lm) (fun Q' hq => nL F₇ (by walk_at "lk") hq) hN₇ (nL F₇ (v := x) (by walk_at "lk") ⟨_, _, by rw [sl_eq, List.size_toArray]; omega, hN₇, ?_⟩))
      obtain ⟨n', hn'⟩ := IsL_push (v := x) hN₇
      have F₈ := LS.upd (pre := []) (post := [(le, lobj vs'' m1'), (la, lobj act m2), (Lc, { oL with slots := sl' })]) F₇ (SameBut_update _ _ _) hn'
      refine wpAny_execs_nil (wpAny_execs_nil ⟨vs''.length, by simp, vs'', act, mis ++ [x], _, m2, n', sl', _, _, _, rfl, rfl, by walk_at "lk", by walk_at "lk", by walk_at "lk", F₈, ?_, fun y hy => hv y (by simp [hy]), hu, ?_, hb2⟩)
      · rw [← hd]; conv => rhs; unfold diffV
        rw [hfi]
      · simp at hb1 ⊢; omega
end
end
section
open SeqAt (EqAt RcAt)
open Classical in
noncomputable def valOf (P : Value → Int → Prop) (v : Value) : Int := if h : ∃ n, P v n then h.choose else 0
theorem valOf_eq {P : Value → Int → Prop} (hu : ∀ v n m, P v n → P v m → n = m) {v : Value} {n : Int} (h : P v n) : valOf P v = n := by
  unfold valOf
  have hx : ∃ n, P v n := ⟨n, h⟩
  rw [dif_pos hx]
  exact hu v _ _ hx.choose_spec h
noncomputable def eqP (P : Value → Int → Prop) (y x : Value) : Bool := decide (valOf P y = valOf P x)
def eqZ (b a : Int) : Bool := decide (b = a)
theorem eqP_eq {P : Value → Int → Prop} (hu : ∀ v n m, P v n → P v m → n = m) {y x : Value} {b a : Int} (hy : P y b) (hx : P x a) : eqP P y x = eqZ b a := by
  unfold eqP eqZ; rw [valOf_eq hu hy, valOf_eq hu hx]
theorem paired_findIdx {P : Value → Int → Prop} (hu : ∀ v n m, P v n → P v m → n = m) {x : Value} {a : Int} (hx : P x a) : ∀ {us : List Value} {ys : List Int}, Paired P us ys → us.findIdx? (fun y => eqP P y x) = ys.findIdx? (fun b => eqZ b a)
  | _, _, .nil => rfl
  | _, _, .cons h t => by
    rw [List.findIdx?_cons, List.findIdx?_cons, paired_findIdx hu hx t, eqP_eq hu h hx]
theorem paired_erase {P : Value → Int → Prop} : ∀ {us : List Value} {ys : List Int} (j : Nat), Paired P us ys → Paired P (us.eraseIdx j) (ys.eraseIdx j)
  | _, _, _, .nil => by simpa using Paired.nil
  | _, _, 0, .cons _ t => by simpa using t
  | _, _, j + 1, .cons h t => by simpa using Paired.cons h (paired_erase j t)
theorem diff_paired {P : Value → Int → Prop} (hu : ∀ v n m, P v n → P v m → n = m) : ∀ {vs : List Value} {xs : List Int}, Paired P vs xs → ∀ {us mis : List Value} {ys ms : List Int}, Paired P us ys → Paired P mis ms →
    Paired P (diffV (eqP P) vs (us, mis)).1 (diffV eqZ xs (ys, ms)).1 ∧ Paired P (diffV (eqP P) vs (us, mis)).2 (diffV eqZ xs (ys, ms)).2
  | _, _, .nil, _, _, _, _, h1, h2 => ⟨h1, h2⟩
  | _, _, .cons h t, us, mis, ys, ms, h1, h2 => by
    unfold diffV
    rw [paired_findIdx hu h h1]
    split
    · exact diff_paired hu t (paired_erase _ h1) h2
    · exact diff_paired hu t h1 (h2.snoc h)
theorem paired_rev {P : Value → Int → Prop} : ∀ {vs : List Value} {xs : List Int}, Paired P vs xs → Paired P vs.reverse xs.reverse
  | _, _, .nil => .nil
  | _, _, .cons h t => by rw [List.reverse_cons, List.reverse_cons]; exact (paired_rev t).snoc h
theorem paired_append {P : Value → Int → Prop} : ∀ {vs us : List Value} {xs ys : List Int}, Paired P vs xs → Paired P us ys → Paired P (vs ++ us) (xs ++ ys)
  | _, _, _, _, .nil, h => h
  | _, _, _, _, .cons h t, h' => .cons h (paired_append t h')
theorem paired_mem {P : Value → Int → Prop} : ∀ {vs : List Value} {xs : List Int}, Paired P vs xs → ∀ v ∈ vs, ∃ n, P v n
  | _, _, .cons h t, v, hv => by
    rcases List.mem_cons.mp hv with rfl | hv
    · exact ⟨_, h⟩
    · exact paired_mem t v hv
def PI (v : Value) (n : Int) : Prop := ∃ t, v = .int n t
theorem PI_uniq : ∀ v n m, PI v n → PI v m → n = m := by
  rintro v n m ⟨t, rfl⟩ ⟨u, h⟩; cases h; rfl
theorem ints_paired : ∀ {vs : List Value} {ns : List Int}, IntsAre vs ns → Paired PI vs ns
  | _, _, .nil => .nil
  | _, _, .cons n t h => .cons ⟨t, rfl⟩ (ints_paired h)
theorem paired_ints' : ∀ {vs : List Value} {ns : List Int}, Paired PI vs ns → IntsAre vs ns
  | _, _, .nil => .nil
  | _, _, .cons ⟨t, e⟩ h => by rw [e]; exact .cons _ t (paired_ints' h)
theorem eqAt_int {A : Around} {s : Shared} {y x : Value} {b a : Int} (hy : PI y b) (hx : PI x a) : EqAt A s y x (eqP PI y x) := by
  rw [eqP_eq PI_uniq hy hx]
  obtain ⟨t, rfl⟩ := hy; obtain ⟨u, rfl⟩ := hx
  have := (MeetsSeq.EqGives.int b a t u).at A s
  have e : (b == a) = eqZ b a := by unfold eqZ; rfl
  rw [e] at this; exact this
/-- a ref to a dict of one entry under nought -/
def PD (prog : Program) (w : World) (h : Heap) (v : Value) (n : Int) : Prop := ∃ b, v = .ref b ∧ Tab prog w h b [(0, n)]
theorem dictOf_uniq {prog : Program} {w : World} {h : Heap} {a : Addr} {v1 v2 : List (Int × Value)} (h1 : h.DictOf (intKind prog w) a v1) (h2 : h.DictOf (intKind prog w) a v2) : v1.map (·.2) = v2.map (·.2) := by
  obtain ⟨o, es, ep, ho, _, hd, _, hp, _⟩ := h1
  obtain ⟨o', es', ep', ho', _, hd', _, hp', _⟩ := h2
  rw [ho] at ho'; cases ho'
  rw [hd] at hd'; cases hd'
  have key : ∀ {l : List DictEntry} {v : List (Int × Value)}, Pairs (intKind prog w) l v → v.map (·.2) = l.map (·.val) := by
    intro l v hp
    induction hp with
    | nil => rfl
    | cons _ _ ih => simp [ih, *]
  rw [key hp, key hp']
theorem PD_uniq {prog : Program} {w : World} {h : Heap} : ∀ v n m, PD prog w h v n → PD prog w h v m → n = m := by
  rintro v n m ⟨b, rfl, _, vals, hd, hs⟩ ⟨b', e, _, vals', hd', hs'⟩
  cases e
  have := dictOf_uniq hd hd'
  obtain ⟨⟨k, x, t⟩, rfl⟩ : ∃ p, vals = [p] := by
    cases vals with
    | nil => simp at hs
    | cons p r => cases r with
      | nil => exact ⟨p, rfl⟩
      | cons q r => simp at hs
  obtain ⟨⟨k', x', t'⟩, rfl⟩ : ∃ p, vals' = [p] := by
    cases vals' with
    | nil => simp at hs'
    | cons p r => cases r with
      | nil => exact ⟨p, rfl⟩
      | cons q r => simp at hs'
  simp [intPairs] at this hs hs'
  rw [← hs.2, ← hs'.2]; exact this.1
theorem PD.at {prog : Program} {w : World} {h h' : Heap} {v : Value} {n : Int} (x : PD prog w h v n) (e : ∀ b o, v = .ref b → h.get? b = some o → h'.get? b = some o) : PD prog w h' v n :=
  let ⟨b, hb, T⟩ := x; ⟨b, hb, T.at fun o q => e b o hb q⟩
theorem pairs_conv {prog prog' : Program} {w w' : World} {l : List DictEntry} {v : List (Int × Value)} (h : Pairs (intKind prog w) l v) : Pairs (intKind prog' w') l v := by
  induction h with
  | nil => exact .nil
  | cons h1 h2 _ ih => exact .cons h1 h2 ih
theorem dict_conv {prog prog' : Program} {w w' : World} {h : Heap} {a : Addr} {v : List (Int × Value)} (x : h.DictOf (intKind prog w) a v) : h.DictOf (intKind prog' w') a v :=
  let ⟨o, es, ep, h1, h2, h3, h4, h5, h6⟩ := x; ⟨o, es, ep, h1, h2, h3, h4, pairs_conv h5, h6⟩
theorem eqAt_dict {prog : Program} {w : World} {h : Heap} {A : Around} {s : Shared} {y x : Value} {b a : Int} (hy : PD prog w h y b) (hx : PD prog w h x a) (hu : A.units + 64 < cLine) (hk : ∀ c o, (y = .ref c ∨ x = .ref c) → h.get? c = some o → s.heap.get? c = some o) :
    EqAt A s y x (eqP (PD prog w h) y x) := by
  by_cases q : y = x
  · subst q
    have : eqP (PD prog w h) y y = true := by unfold eqP; simp
    rw [this]; exact EqAt.same y
  rw [eqP_eq PD_uniq hy hx]
  obtain ⟨c, rfl, hcs, vals, hd, hs⟩ := hy.at (h' := s.heap) (fun c o e q => hk c o (.inl e) q)
  obtain ⟨c', rfl, hcs', vals', hd', hs'⟩ := hx.at (h' := s.heap) (fun c o e q => hk c o (.inr e) q)
  refine EqAt.of_refs (fun e => q (by rw [e])) ?_
  obtain ⟨⟨k, z, t⟩, rfl⟩ : ∃ p, vals = [p] := by
    cases vals with
    | nil => simp at hs
    | cons p r => cases r with
      | nil => exact ⟨p, rfl⟩
      | cons q r => simp at hs
  obtain ⟨⟨k', z', t'⟩, rfl⟩ : ∃ p, vals' = [p] := by
    cases vals' with
    | nil => simp at hs'
    | cons p r => cases r with
      | nil => exact ⟨p, rfl⟩
      | cons q r => simp at hs'
  simp at hs hs'
  obtain ⟨rfl, rfl⟩ := hs
  obtain ⟨rfl, rfl⟩ := hs'
  intro prog' w' E Q hq
  have hd1 : s.heap.DictOf (intKind prog' w') c (intPairs [(0, z, t)]) := dict_conv hd
  have hd2 : s.heap.DictOf (intKind prog' w') c' (intPairs [(0, z', t')]) := dict_conv hd'
  refine cmp_ofEq ?_
  refine keq_eq (knd := intKind prog' w') (ka := [(0, .int z t)]) (kb := [(0, .int z' t')]) (r := (z == z') && true) hcs hcs' hd1 hd2 (by omega) (fun _ => .hit (y := .int z' t') rfl ((MeetsSeq.EqGives.int z z' t t').at _ _) .nil) ?_
  have e : (([(0, .int z t)] : List (Int × Value)).length == ([(0, .int z' t')] : List (Int × Value)).length && ((z == z') && true)) = eqZ z z' := by unfold eqZ; simp; rfl
  rw [e]; exact hq
end
section
local macro_rules | `(tactic| walk_at "lk") => `(tactic| first | exact put_eq | (refine (put_ne (by decide)).trans ?_; walk_at "lk") | assumption | rfl)
theorem LS.slots {g : Heap} {env : Env} {cs : List (Str × Addr)} {h h' : Heap} {σ : Str → Option Value} {mu : List (Addr × Obj)} {le la : Addr} (F : LS g env cs h σ mu) (hle : le ∉ fence env cs mu) (hla : la ∉ fence env cs mu) (gle : g.get? le = none) (gla : g.get? la = none)
    (hk : ∀ b o, b ∉ [le, la, env.locals] → h.get? b = some o → h'.get? b = some o) (hL : ∀ oL, h.get? env.locals = some oL → ∃ sl, h'.get? env.locals = some { oL with slots := sl }) : LS g env cs h' σ mu := by
  have nf : ∀ b, b ∈ fence env cs mu → b ≠ env.locals → b ∉ [le, la, env.locals] := fun b hb hn q => by
    rcases List.mem_cons.mp q with q | q
    · exact hle (q ▸ hb)
    · rcases List.mem_cons.mp q with q | q
      · exact hla (q ▸ hb)
      · exact hn (List.mem_singleton.mp q)
  obtain ⟨m, ⟨oL, es, ep, ho, hd, r⟩, hσ⟩ := F.ns
  obtain ⟨sl, hsl⟩ := hL oL ho
  refine ⟨⟨m, ⟨_, es, ep, hsl, hd, r⟩, hσ⟩, fun x c hc => ?_, F.sep, fun p hp => hk _ _ (nf _ (fence_mu hp) (Ne.symm (F.loc_ne_mu (a := p.1) (o := p.2) hp))) (F.led p hp), fun b o e => hk b o (fun q => ?_) (F.keep b o e), F.nd, F.off⟩
  · obtain ⟨o, h1, h2⟩ := F.cl x c hc
    exact ⟨o, hk _ _ (nf _ (fence_cell hc) (Ne.symm (F.loc_ne_cell hc))) h1, h2⟩
  · rcases List.mem_cons.mp q with q | q
    · rw [q, gle] at e; cases e
    · rcases List.mem_cons.mp q with q | q
      · rw [q, gla] at e; cases e
      · rw [List.mem_singleton.mp q, F.off _ fence_loc] at e; cases e
theorem LS.local_obj {g : Heap} {env : Env} {cs : List (Str × Addr)} {h : Heap} {σ : Str → Option Value} {mu : List (Addr × Obj)} (F : LS g env cs h σ mu) : ∃ oL, h.get? env.locals = some oL ∧ ∃ es ep, oL.data = .dict es ep := by
  obtain ⟨m, ⟨oL, es, ep, ho, hd, _⟩, _⟩ := F.ns
  exact ⟨oL, ho, es, ep, hd⟩
section
variable {prog : Program} {w : World} {A : Around} {E : Value → Shared → Prop} {s : Shared} {env : Env} {cs : List (Str × Addr)} {g : Heap} {σ : Str → Option Value} {mu : List (Addr × Obj)}
/-- «for y in range(n)», y's own name a local or a cell -/
theorem forRange {Q : Flow → Shared → Prop} {y : Str} {py : Pos} {r : Addr} {a b c : Int} {t u v' : Tok} {n : Nat} {body : List Stmt} (F : LS g env cs s.heap σ mu) (hh : A.handled = none) (hr : IsRange s.heap r a b c t u v') (hsmall : Builtin.Range.small a b c = true) (hsz : Builtin.Range.rangeSize a b c = n) (hy : env.kindOf y = some .local ∨ ∃ c, (y, c) ∈ cs)
    (J : Nat → Heap → (Str → Option Value) → List (Addr × Obj) → Prop) (hJ : J 0 g σ mu)
    (turn : ∀ i tv g' σ' mu' I oI h tk E', i < n → Ext g g' → J i g' σ' mu' → LS g' env cs h (put σ' y (.int (a + i * c) tv)) ((I, oI) :: mu') →
      wpAny (model prog w) A (execs body env) (fun f s₃ => match f with
        | .next | .cont => Left s env cs g' I oI (J (i + 1)) s₃
        | .brk => Q .next s₃
        | .ret v => Q (.ret v) s₃) E' { s with heap := h, toks := tk })
    (done : ∀ g' σ' mu' h tk, Ext g g' → J n g' σ' mu' → LS g' env cs h σ' mu' → Q .next { s with heap := h, toks := tk })
    (hk : env.scope.kind = .function := by rfl) :
    wpAny (model prog w) A (pyIter (.ref r)) (fun it s₂ => codeAny (model prog w) A (.forLoop (.Name y py) it body [] env) (fun r s' => match r with | .ok f => Q f s' | .error e => cameBackBy (model prog w) A env E e s') s₂) E s := by
  refine wpAny_pyIter_range hr hsmall ?_
  rw [hsz]
  have F₂ := F.ext (h' := s.heap.push { cls := .type "range_iterator", data := .fields #[rawInt a, rawInt n, rawInt c] }) fun b o e => Heap.get?_push_of_some _ e
  refine forW (s := { s with heap := s.heap.push { cls := .type "range_iterator", data := .fields #[rawInt a, rawInt n, rawInt c] } }) hy (Walks.range hh s.heap.objs.size a c n) (fun i h st => ⟨_, st⟩) J F₂ (F.fresh (size_none s.heap)) (none_of_ext F.keep (size_none s.heap))
    (fun b hb => .inl (List.mem_singleton.mp hb)) (by show IsRangeIter _ _ (a + (0 : Nat) * c) ((n : Int) - (0 : Nat)) c; rw [show a + ((0 : Nat) : Int) * c = a by simp, show (n : Int) - ((0 : Nat) : Int) = n by simp]; exact Heap.get?_push_size _ rfl) hJ
    (fun i v g' σ' mu' oI h tk E' hi hP hg hJ' F' => by obtain ⟨tv, rfl⟩ := hP; exact turn i tv g' σ' mu' _ oI h tk E' hi hg hJ' F') (fun g' σ' mu' h tk hg hJ' F' => done g' σ' mu' h tk hg hJ' F') hk
theorem preSum_ints : ∀ (ns : List Int) , preSum (fun i => ns.getD i 0) ns.length = ns.sum := by
  intro ns
  have : ∀ k, k ≤ ns.length → preSum (fun i => ns.getD i 0) k = (ns.take k).sum := by
    intro k
    induction k with
    | zero => intro _; simp [preSum]
    | succ k ih =>
      intro hk
      have hk' : k < ns.length := by omega
      show preSum _ k + ns.getD k 0 = _
      rw [ih (by omega), ← List.take_append_getElem hk', List.sum_append, List.getD_eq_getElem?_getD, List.getElem?_eq_getElem hk']
      simp
  rw [this _ (Nat.le_refl _), List.take_length]
theorem call_sumL {l : Addr} {vs : List Value} {ns : List Int} {Q : Value → Shared → Prop} (hh : A.handled = none) (hl : s.heap.IsList l vs.toArray) (hI : IntsAre vs ns) (h : ∀ h' tk t, Ext s.heap h' → Q (.int ns.sum t) { s with heap := h', toks := tk }) :
    wpAny (model prog w) A (call (.builtin "sum") [.ref l]) Q E s := by
  obtain ⟨ol, hol, _⟩ := id hl
  have hne : l ≠ s.heap.objs.size := Nat.ne_of_lt (Heap.lt_size hol)
  refine call_sum_walkG (wpAny_pyIter_list hl ⟨_, _, _, _, _, _, fun i => ns.getD i 0, rfl, Walks.list (A := A.in1) hh s.heap.objs.size l hne vs.toArray, ⟨⟨_, Heap.get?_push_size _ rfl, rfl, rfl⟩, hl.push _⟩, fun b hb => ?_, fun i v hv => ?_, fun h' tk t hk => ?_⟩)
  · show b < (s.heap.push _).objs.size
    rw [Heap.size_push]
    rcases List.mem_cons.mp hb with rfl | hb
    · exact Nat.lt_succ_self _
    · rw [List.mem_singleton.mp hb]; exact Nat.lt_succ_of_lt (Heap.lt_size hol)
  · exact hI.int_at i v (by simpa using hv)
  · rw [show vs.toArray.size = ns.length by simp [hI.length], preSum_ints]
    exact h h' tk t fun b o e => hk b o (by simp; exact Nat.ne_of_lt (Heap.lt_size e)) (Heap.get?_push_of_some _ e)
end
theorem law_cs (L : Addr) : cellsFrom (L + 1) dLaw.scope.names [] = [(Str.ofString "come", L + 1 + 1 + 1 + 1 + 1), (Str.ofString "gone", L + 1 + 1 + 1 + 1), (Str.ofString "i", L + 1 + 1 + 1), (Str.ofString "rows", L + 1 + 1), (Str.ofString "weight", L + 1)] := rfl
abbrev lcs (L : Addr) : List (Str × Addr) := [(Str.ofString "come", L + 1 + 1 + 1 + 1 + 1), (Str.ofString "gone", L + 1 + 1 + 1 + 1), (Str.ofString "i", L + 1 + 1 + 1), (Str.ofString "rows", L + 1 + 1), (Str.ofString "weight", L + 1)]
theorem c_come (L : Addr) : ∃ c, (Str.ofString "come", c) ∈ lcs L := ⟨L + 1 + 1 + 1 + 1 + 1, by unfold lcs; simp⟩
theorem c_gone (L : Addr) : ∃ c, (Str.ofString "gone", c) ∈ lcs L := ⟨L + 1 + 1 + 1 + 1, by unfold lcs; simp⟩
theorem c_i (L : Addr) : ∃ c, (Str.ofString "i", c) ∈ lcs L := ⟨L + 1 + 1 + 1, by unfold lcs; simp⟩
theorem c_rows (L : Addr) : ∃ c, (Str.ofString "rows", c) ∈ lcs L := ⟨L + 1 + 1, by unfold lcs; simp⟩
theorem c_weight (L : Addr) : ∃ c, (Str.ofString "weight", c) ∈ lcs L := ⟨L + 1, by unfold lcs; simp⟩
theorem law_sep : ∀ L x c, (x, c) ∈ cellsFrom (L + 1) dLaw.scope.names [] → dLaw.scope.names.lookup x = some .cell ∧ (cellsFrom (L + 1) dLaw.scope.names []).lookup x = some c := by
  intro L x c h
  rw [law_cs] at h ⊢
  rcases List.mem_cons.mp h with q | h
  · cases q; exact ⟨rfl, rfl⟩
  · rcases List.mem_cons.mp h with q | h
    · cases q; exact ⟨rfl, rfl⟩
    · rcases List.mem_cons.mp h with q | h
      · cases q; exact ⟨rfl, rfl⟩
      · rcases List.mem_cons.mp h with q | h
        · cases q; exact ⟨rfl, rfl⟩
        · rcases List.mem_cons.mp h with q | h
          · cases q; exact ⟨rfl, rfl⟩
          · cases h
/-- lists of refs and what they hold -/
def Al {α : Type} (P : Addr → α → Prop) (as : List Addr) (xs : List α) : Prop := as.length = xs.length ∧ ∀ (i : Nat) (a : Addr) (x : α), as[i]? = some a → xs[i]? = some x → P a x
theorem Al.mono {α : Type} {P P' : Addr → α → Prop} {as : List Addr} {xs : List α} (h : Al P as xs) (hm : ∀ a x, P a x → P' a x) : Al P' as xs := ⟨h.1, fun i a x h1 h2 => hm _ _ (h.2 i a x h1 h2)⟩
theorem Al.snoc {α : Type} {P : Addr → α → Prop} {as : List Addr} {xs : List α} {a : Addr} {x : α} (h : Al P as xs) (hp : P a x) : Al P (as ++ [a]) (xs ++ [x]) := by
  refine ⟨by simp [h.1], fun i b y hb hy => ?_⟩
  by_cases hi : i < as.length
  · rw [List.getElem?_append_left hi] at hb
    rw [List.getElem?_append_left (by rw [← h.1]; exact hi)] at hy
    exact h.2 i b y hb hy
  · have hl := (List.getElem?_eq_some_iff.mp hb).1
    have hi' : i = as.length := by simp at hl; omega
    subst hi'
    simp at hb
    rw [h.1] at hy
    simp at hy
    subst hb hy; exact hp
theorem Al.at {α : Type} {P : Addr → α → Prop} {as : List Addr} {xs : List α} {i : Nat} {x : α} (h : Al P as xs) (hx : xs[i]? = some x) : ∃ a, as[i]? = some a ∧ P a x := by
  have hi : i < as.length := by rw [h.1]; exact (List.getElem?_eq_some_iff.mp hx).1
  exact ⟨as[i], by simp [hi], h.2 i _ x (by simp [hi]) hx⟩
end
section
local macro_rules | `(tactic| walk_at "lk") => `(tactic| first | exact put_eq | (refine (put_ne (by decide)).trans ?_; walk_at "lk") | assumption | rfl)
theorem noPyl {wt : Int} {c : Nat} (hc : c ≤ 1000) : Builtin.divisionGoesByPylong (wt * (c : Int)) wt = false := by
  by_cases hw : wt = 0
  · subst hw; exact PyProof.noPylong_small (by decide)
  have hn0 : wt.natAbs ≠ 0 := by omega
  have h1 : (wt * (c : Int)).natAbs < 2 ^ (wt.natAbs.log2 + 11) := by
    rw [Int.natAbs_mul, Int.natAbs_natCast, show wt.natAbs.log2 + 11 = (wt.natAbs.log2 + 1) + 10 by omega, Nat.pow_add]
    have h2 : wt.natAbs < 2 ^ (wt.natAbs.log2 + 1) := Nat.lt_log2_self
    calc wt.natAbs * c ≤ wt.natAbs * 2 ^ 10 := Nat.mul_le_mul_left _ (by omega)
      _ < _ := Nat.mul_lt_mul_of_pos_right h2 (by decide)
  have key : (if wt * (c : Int) == 0 then 0 else (wt * (c : Int)).natAbs.log2 / 30 + 1) ≤ (if wt == 0 then 0 else wt.natAbs.log2 / 30 + 1) + 150 := by
    have hb : ¬ (wt == 0) = true := by simpa using hw
    rw [if_neg (c := (wt == 0) = true) hb]
    split
    · omega
    · rename_i h0
      have h0' : (wt * (c : Int)).natAbs ≠ 0 := by
        have : wt * (c : Int) ≠ 0 := fun q => h0 (by rw [q]; rfl)
        omega
      have h3 : (wt * (c : Int)).natAbs.log2 < wt.natAbs.log2 + 11 := (Nat.log2_lt h0').mpr h1
      omega
  show (_ && decide ((if wt * (c : Int) == 0 then 0 else (wt * (c : Int)).natAbs.log2 / 30 + 1) > (if wt == 0 then 0 else wt.natAbs.log2 / 30 + 1) + 150)) = false
  rw [decide_eq_false (Nat.not_lt.mpr key), Bool.and_false]
def lSt (n : Nat) : Stmt := dLaw.body.getD n (.Pass ⟨0,0,0,0⟩)
def lBody : List Stmt := match lSt 4 with
  | .For _ _ b _ _ => b
  | _ => []
def tSt (n : Nat) : Stmt := lBody.getD n (.Pass ⟨0,0,0,0⟩)
abbrev lenv (L fa : Addr) (cd : Value) : Env := envOfC dLaw.name dLaw.scope L fa cd
section
variable {prog : Program} {w : World} {A : Around} {E : Value → Shared → Prop} {s : Shared} {env : Env} {cs : List (Str × Addr)} {g : Heap} {σ : Str → Option Value} {mu : List (Addr × Obj)} {Q : Value → Shared → Prop}
theorem nN {x : Str} {pos : Pos} {v : Value} (F : LS g env cs s.heap σ mu) (hv : σ x = some v) (hx : env.kindOf x = some .local ∨ ∃ c, (x, c) ∈ cs) (h : Q v s) (hk : env.scope.kind = .function := by rfl) (hd : (x == ("__debug__" : Str)) = false := by decide) :
    wpAny (model prog w) A (eval (.Name x pos) env) Q E s := by
  rcases hx with hl | hc
  · exact nL F hv h hk hl hd
  · exact nC F hv h hc hk hd
theorem refs_at {rr : List Addr} {i : Nat} {a : Addr} (h : rr[i]? = some a) : (rr.map Value.ref).toArray[i]? = some (.ref a) := by simp [h]
/-- «x[y]» of a list of refs under watch -/
theorem evAt {x y : Str} {p1 p2 p3 : Pos} {l a : Addr} {rr : List Addr} {nr i : Nat} {ti : Tok} (F : LS g env cs s.heap σ mu) (hm : (l, lobj (rr.map Value.ref) nr) ∈ mu) (hx : σ x = some (.ref l)) (hy : σ y = some (.int (i : Nat) ti)) (ha : rr[i]? = some a) (hi : i ≤ 1000) (hq : Q (.ref a) s)
    (hkx : env.kindOf x = some .local ∨ ∃ c, (x, c) ∈ cs) (hky : env.kindOf y = some .local ∨ ∃ c, (y, c) ∈ cs) (hk : env.scope.kind = .function := by rfl) (hdx : (x == ("__debug__" : Str)) = false := by decide) (hdy : (y == ("__debug__" : Str)) = false := by decide) :
    wpAny (model prog w) A (eval (.Subscript (.Name x p1) (.Name y p2) p3) env) Q E s :=
  have hl : IsL s.heap l (rr.map Value.ref).toArray nr := F.led (l, lobj (rr.map Value.ref) nr) hm
  evItem (fun _ _ _ => rfl) (nN F hx hkx (nN F hy hky ⟨l, _, i, ti, _, rfl, rfl, IsL.isList hl, by omega, by omega, refs_at (by simpa using ha), hq⟩ hk hdy) hk hdx)
/-- «x[y + 1]» -/
theorem evAt1 {x y : Str} {p1 p2 p3 p4 p5 : Pos} {kd : _} {l a : Addr} {rr : List Addr} {nr i : Nat} {ti : Tok} (F : LS g env cs s.heap σ mu) (hm : (l, lobj (rr.map Value.ref) nr) ∈ mu) (hx : σ x = some (.ref l)) (hy : σ y = some (.int (i : Nat) ti)) (ha : rr[i + 1]? = some a) (hi : i ≤ 1000) (hq : ∀ tk, Q (.ref a) { s with toks := tk })
    (hkx : env.kindOf x = some .local ∨ ∃ c, (x, c) ∈ cs) (hky : env.kindOf y = some .local ∨ ∃ c, (y, c) ∈ cs) (hk : env.scope.kind = .function := by rfl) (hdx : (x == ("__debug__" : Str)) = false := by decide) (hdy : (y == ("__debug__" : Str)) = false := by decide) :
    wpAny (model prog w) A (eval (.Subscript (.Name x p1) (.BinOp (.Name y p2) .Add (.Constant (.int 1) kd p5) p4) p3) env) Q E s :=
  have hl : IsL s.heap l (rr.map Value.ref).toArray nr := F.led (l, lobj (rr.map Value.ref) nr) hm
  evItem (fun _ _ _ => rfl) (nN F hx hkx (wpAny_BinOp (nN F hy hky (wpAny_Constant_int (PyProof.Rows.add_int ⟨l, _, (i : Int) + 1, _, _, rfl, rfl, IsL.isList hl, by omega, by omega, refs_at (by rw [show ((i : Int) + 1).toNat = i + 1 by omega]; exact ha), hq _⟩)) hk hdy)) hk hdx)
end
section
variable {prog : Program} {w : World} {A : Around} {E : Value → Shared → Prop} {s : Shared} {L fa : Addr} {cd : Value} {g : Heap} {σ : Str → Option Value} {mu : List (Addr × Obj)} {Q : Flow → Shared → Prop} {mg mb : Str → Option Value} {lt lr ta ra : Addr} {tr rr : List Addr} {nt nr i : Nat} {ti tw : Tok} {wt : Int} {ts : List (Int × Int)} {row : List Int}
theorem t_told (G : Gd mg mb g) (hA : Okk A 1) (F : LS g (lenv L fa cd) (lcs L) s.heap σ mu) (hm : (lt, lobj (tr.map Value.ref) nt) ∈ mu) (ht : σ "tables" = some (.ref lt)) (hi : σ "i" = some (.int (i : Nat) ti)) (hta : tr[i]? = some ta) (hib : i ≤ 1000) (T : Tab prog w g ta ts)
    (k : ∀ h tk t, LS g (lenv L fa cd) (lcs L) h (put σ "told" (.int (ts.map (·.2)).sum t)) mu → Q .next { s with heap := h, toks := tk }) : wpAny (model prog w) A (exec (tSt 0) (lenv L fa cd)) Q E s := by
  refine wpAny_Assign_Name (cDef dCnt G F (by unfold recs; simp) rfl fun fa' hfa' => args_cons (evAt F hm ht hi hta hib (args_nil ⟨F.keep, ?_⟩) (.inl rfl) (.inr (c_i L))))
  exact cnt_spec (G.keeps F.keep) hA hfa' (T.keep F.keep) fun h tk t hx => sL (F.ext hx) fun h₂ tk₂ F₂ => k h₂ tk₂ t F₂
theorem t_test (G : Gd mg mb g) (F : LS g (lenv L fa cd) (lcs L) s.heap σ mu) {c : Nat} {t : Tok} (ht : σ "told" = some (.int (wt * (c : Int)) t)) (hw : σ "weight" = some (.int wt tw)) (hw0 : wt ≠ 0)
    (k : ∀ tk, Q .next { s with toks := tk }) : wpAny (model prog w) A (exec (tSt 1) (lenv L fa cd)) Q E s := by
  refine wpAny_If (wpAny_isTrue_BoolOp (wpAny_allTrue_Or_cons (tCall (bC2 G F boot_isinstance (nL F ht (nB G F boot_bool (PySem.IsiPair.int_bool (wpAny_truthy_bool ?_))))))))
  rw [if_neg (by simp)]
  have F' : LS g (lenv L fa cd) (lcs L) ({ s with toks := s.toks + 1 } : Shared).heap σ mu := F
  refine wpAny_allTrue_Or_cons (wpAny_isTrue_Not (tCall (bC2 G F' boot_isinstance (nL F' ht (nB G F' boot_int (PySem.IsiPair.int_int (wpAny_truthy_bool ?_)))))))
  rw [if_neg (by simp)]
  refine wpAny_allTrue_Or_cons (wpAny_isTrue_Compare1 (wpAny_BinOp (nL F' ht (nC F' hw (mod_int' hw0 (wpAny_Constant_int (PyProof.Rows.ne_int (wpAny_truthy_bool ?_)))) (c_weight L)))))
  have e : (wt * (c : Int)).fmod wt = 0 := Int.mul_fmod_right ..
  rw [e, if_neg (by decide)]
  refine wpAny_allTrue_Or_nil ?_
  rw [if_neg (by simp)]
  exact wpAny_execs_nil (k _)
end
end
section
local macro_rules | `(tactic| walk_at "lk") => `(tactic| first | exact put_eq | (refine (put_ne (by decide)).trans ?_; walk_at "lk") | assumption | rfl)
def downP (x : Int) : Bool := decide (1 < x)
def nextR (row : List Int) : List Int := (row.filter downP).map (fun x => x - 1) ++ [((row.length : Nat) : Int)]
theorem down_succ {row : List Int} {i : Nat} {x : Int} (hx : row[i]? = some x) : ((row.take (i + 1)).filter downP).map (fun x => x - 1) = ((row.take i).filter downP).map (fun x => x - 1) ++ (if downP x then [x - 1] else []) := by
  rw [List.take_add_one, hx, List.filter_append, List.map_append]
  congr 1
  cases h : downP x <;> simp [h]
section
variable {prog : Program} {w : World} {A : Around} {E : Value → Shared → Prop} {s : Shared} {L fa : Addr} {cd : Value} {g : Heap} {σ : Str → Option Value} {pre : List (Addr × Obj)} {Q : Flow → Shared → Prop} {mg mb : Str → Option Value} {lt lr ta ra : Addr} {tr rr : List Addr} {nt nr i : Nat} {ti tw : Tok} {wt : Int} {ts : List (Int × Int)} {row : List Int}
set_option maxHeartbeats 2000000 in
theorem t_rows (hA : Okk A 1) (F : LS g (lenv L fa cd) (lcs L) s.heap σ (pre ++ [(lr, lobj (rr.map Value.ref) nr)])) {t : Tok} (hr : σ "rows" = some (.ref lr)) (hi : σ "i" = some (.int (i : Nat) ti)) (ht : σ "told" = some (.int (wt * ((row.length : Nat) : Int)) t)) (hw : σ "weight" = some (.int wt tw)) (hw0 : wt ≠ 0)
    (hra : rr[i]? = some ra) (hib : i ≤ 1000) (N : NL g ra row) (hlen : row.length ≤ 1000) (hrl : rr.length ≤ 1000)
    (k : ∀ g' h tk b nr', Ext g g' → NL g' b (nextR row) → LS g' (lenv L fa cd) (lcs L) h σ (pre ++ [(lr, lobj ((rr ++ [b]).map Value.ref) nr')]) → Q .next { s with heap := h, toks := tk }) :
    wpAny (model prog w) A (exec (tSt 2) (lenv L fa cd)) Q E s := by
  have hlr : IsL s.heap lr (rr.map Value.ref).toArray nr := F.led (lr, lobj (rr.map Value.ref) nr) (by simp)
  obtain ⟨vs, nv, hl, hI⟩ := N
  have hvl := hI.length
  refine sAppend (D := lr) (fun Q' hq => nC F hr hq (c_rows L)) hlr (wpAny_BinOp (evComp (cl := []) rfl rfl (by decide) (evAt (nr := nr) F (by simp) hr hi hra hib ?_ (.inr (c_rows L)) (.inr (c_i L)))))
  refine compOverList hA.hh (IsL.isList (F.keep _ _ hl)) (by simp; omega) (by decide) rfl rfl
    (fun i g₁ ys => IntsAre ys (((row.take i).filter downP).map (fun x => x - 1))) (fun _ _ => .nil) ?_ ?_
  · rintro C D I j v g₁ ys τ oI nD h tk' E' hv hyl hD hC hI' hg hK F'
    obtain ⟨x, tx, rfl, hx⟩ := hI.at j v (by simpa using hv)
    refine tst_one (wpAny_isTrue_Compare1 (nL F' (by walk_at "lk") (wpAny_Constant_int (PyProof.Rows.gt_int (wpAny_truthy_bool ?_)))))
    show if downP x = true then _ else _
    cases hc : downP x with
    | false =>
      rw [if_neg (by simp)]
      refine ⟨_, _, g₁, _, rfl, fun _ _ e => e, F', ?_⟩
      rw [down_succ hx, hc]; simpa using hK
    | true =>
      rw [if_pos rfl]
      refine wpAny_BinOp (nL F' (by walk_at "lk") (wpAny_Constant_int (PyProof.Rows.sub_int ⟨_, _, g₁, _, rfl, fun _ _ e => e, F', ?_⟩)))
      rw [down_succ hx, hc]; exact hK.append (.cons _ _ .nil)
  · rintro D ys nD h₃ tk₃ g₃ hg₃ hD hgD hDo hgh hyl hK
    have F₃ := F.ext (h' := h₃) fun b o e => hgh _ _ (hg₃ _ _ e)
    rw [show vs.toArray.size = row.length from by simp [hvl], List.take_length] at hK
    refine List_ (args_cons (wpAny_BinOp (nL F₃ ht (nC F₃ hw (floordiv_int hw0 (args_nil (wpAny_newObj_type ?_)) (.inl (noPyl hlen))) (c_weight L)))))
    dsimp only
    rw [Int.mul_fdiv_cancel_left _ hw0]
    have F₄ := (F₃.push { cls := .type "list", data := .seq #[.int (row.length : Nat) tk₃] }).tail
    have hn₄ : (h₃.push { cls := .type "list", data := .seq #[.int (row.length : Nat) tk₃] }).get? h₃.objs.size = some { cls := .type "list", data := .seq #[.int (row.length : Nat) tk₃] } := Heap.get?_push_size _ rfl
    have hD₄ : IsL (h₃.push { cls := .type "list", data := .seq #[.int (row.length : Nat) tk₃] }) D ys.toArray nD := Heap.get?_push_of_some _ hDo
    generalize h₃.push { cls := .type "list", data := .seq #[.int (row.length : Nat) tk₃] } = h₄ at F₄ hn₄ hD₄ ⊢
    have hyl' : ys.length ≤ 1000 := Nat.le_trans hyl (by simp; omega)
    refine PySem.P.add_list hD₄ hn₄ ?_ (by rw [sl, List.size_toArray]; simp; omega)
    have hNL : NL (h₄.push { cls := .type "list", data := .seq (ys.toArray ++ #[.int (row.length : Nat) tk₃]) }) h₄.objs.size (nextR row) := by
      refine ⟨ys ++ [.int (row.length : Nat) tk₃], 0, ?_, hK.append (.cons _ _ .nil)⟩
      have e : (ys ++ [Value.int (row.length : Nat) tk₃]).toArray = ys.toArray ++ #[.int (row.length : Nat) tk₃] := by simp
      rw [e]; exact Heap.get?_push_size _ rfl
    have F₅ := (F₄.push { cls := .type "list", data := .seq (ys.toArray ++ #[.int (row.length : Nat) tk₃]) }).tail
    have hfr := F₄.fresh (size_none h₄)
    dsimp only
    generalize h₄.push { cls := .type "list", data := .seq (ys.toArray ++ #[.int (row.length : Nat) tk₃]) } = h₅ at F₅ hNL ⊢
    generalize h₄.objs.size = b at hNL hfr ⊢
    have hlr₅ : IsL h₅ lr (rr.map Value.ref).toArray nr := F₅.led (lr, lobj (rr.map Value.ref) nr) (by simp)
    refine ⟨_, _, by rw [sl, List.size_toArray]; simp; omega, hlr₅, ?_⟩
    obtain ⟨g', hgg, F₆, hfr', _, _⟩ := F₅.rebase
    obtain ⟨n', hn'⟩ := IsL_push (v := .ref b) hlr₅
    have F₇ := LS.upd (pre := pre) (post := []) F₆ (SameBut_update _ _ _) hn'
    have e : rr.map Value.ref ++ [.ref b] = (rr ++ [b]).map Value.ref := by simp
    rw [e] at F₇
    exact k g' _ _ b n' hgg (hNL.at fun o q => hfr' _ _ hfr q) F₇
end
end
section
local macro_rules | `(tactic| walk_at "lk") => `(tactic| first | exact put_eq | (refine (put_ne (by decide)).trans ?_; walk_at "lk") | assumption | rfl)
theorem paired_al {prog : Program} {w : World} {h : Heap} : ∀ (as : List Addr) (xs : List Int), as.length = xs.length → (∀ (i : Nat) (b : Addr) (x : Int), as[i]? = some b → xs[i]? = some x → Tab prog w h b [(0, x)]) → Paired (PD prog w h) (as.map Value.ref) xs
  | [], [], _, _ => .nil
  | a :: as, x :: xs, hl, hT => .cons ⟨a, rfl, hT 0 a x rfl rfl⟩ (paired_al as xs (by simpa using hl) fun i b y h1 h2 => hT (i + 1) b y (by simpa using h1) (by simpa using h2))
theorem Tab.live {prog : Program} {w : World} {h : Heap} {a : Addr} {ts : List (Int × Int)} (T : Tab prog w h a ts) : ∃ o, h.get? a = some o := by
  obtain ⟨_, vals, ⟨o, es, ep, ho, _⟩, _⟩ := T
  exact ⟨o, ho⟩
theorem paired_nil {P : Value → Int → Prop} {vs : List Value} (h : Paired P vs []) : vs = [] := by cases h; rfl
section
variable {prog : Program} {w : World} {A : Around} {E : Value → Shared → Prop} {s : Shared} {L fa : Addr} {cd : Value} {g : Heap} {σ : Str → Option Value} {mu : List (Addr × Obj)} {Q : Flow → Shared → Prop} {mg mb : Str → Option Value} {lt lr ta ra rb : Addr} {tr rr : List Addr} {nt nr i : Nat} {ti tw : Tok} {wt : Int} {ts : List (Int × Int)} {row row' : List Int}
set_option maxHeartbeats 4000000 in
theorem t_first (G : Gd mg mb g) (hA : Okk A 1) (hfr : A.frames = some [lenv L fa cd]) (F : LS g (lenv L fa cd) (lcs L) s.heap σ mu) (hm : (lr, lobj (rr.map Value.ref) nr) ∈ mu) (hr : σ "rows" = some (.ref lr)) (hi : σ "i" = some (.int (i : Nat) ti))
    (hra : rr[i]? = some ra) (hrb : rr[i + 1]? = some rb) (hib : i ≤ 1000) (N : NL g ra row) (N' : NL g rb row') (hlen : row.length ≤ 400) (hlen' : row'.length ≤ 400)
    (hP4 : diffV eqZ (row ++ row').reverse (row', []) = ([], row.reverse))
    (k : ∀ g' h tk rt lm la nm na mis, Ext g g' → g'.get? rt = some { cls := .type "tuple", data := .seq #[.ref lm, .ref la] } → g'.get? lm = some (lobj mis nm) → g'.get? la = some (lobj [] na) → Paired (PD prog w g') mis row.reverse →
      LS g' (lenv L fa cd) (lcs L) h (put σ "first" (.ref rt)) mu → Q .next { s with heap := h, toks := tk }) :
    wpAny (model prog w) A (exec (tSt 3) (lenv L fa cd)) Q E s := by
  have hN : NL s.heap ra row := N.keep F.keep
  have hN' : NL s.heap rb row' := N'.keep F.keep
  obtain ⟨vs, nv, hl, hI⟩ := id hN
  obtain ⟨vs', nv', hl', hI'⟩ := id hN'
  have hvl := hI.length
  have hvl' := hI'.length
  refine wpAny_Assign_Name (cDef dDiff G F (by unfold recs; simp) rfl fun fd hfd => args_cons (cDef dThings G F (by unfold recs; simp) rfl fun ft hft => args_cons (wpAny_BinOp (evAt F hm hr hi hra hib (evAt1 F hm hr hi hrb hib (fun tk => ?_) (.inr (c_rows L)) (.inr (c_i L))) (.inr (c_rows L)) (.inr (c_i L))))))
  refine PySem.P.add_list (s := { s with toks := tk }) hl hl' (args_nil ⟨?_, ?_⟩) (by rw [sl, List.size_toArray, List.size_toArray]; omega)
  · exact fun b o e => Heap.get?_push_of_some _ (F.keep _ _ e)
  have hx₁ : Ext s.heap (s.heap.push { cls := .type "list", data := .seq (vs.toArray ++ vs'.toArray) }) := fun b o e => Heap.get?_push_of_some _ e
  have hcat : NL (s.heap.push { cls := .type "list", data := .seq (vs.toArray ++ vs'.toArray) }) s.heap.objs.size (row ++ row') := by
    refine ⟨vs ++ vs', 0, ?_, hI.append hI'⟩
    have e : (vs ++ vs').toArray = vs.toArray ++ vs'.toArray := by simp
    rw [e]; exact Heap.get?_push_size _ rfl
  dsimp only
  generalize s.heap.push { cls := .type "list", data := .seq (vs.toArray ++ vs'.toArray) } = h₁ at hx₁ hcat ⊢
  generalize s.heap.objs.size = lc at hcat ⊢
  have F₁ := F.ext hx₁
  refine things_spec (G.keeps F₁.keep) hA hft hcat (by simp; omega) fun h₂ tk₂ le as₁ n₁ hx₂ hle has₁ hleo hal₁ hT₁ => ?_
  dsimp only
  have F₂ := F₁.ext hx₂
  refine args_cons (cDef dThings G F₂ (by unfold recs; simp) rfl fun ft' hft' => args_cons (evAt1 F₂ hm hr hi hrb hib (fun tk' => ?_) (.inr (c_rows L)) (.inr (c_i L))))
  refine args_nil ⟨F₂.keep, ?_⟩
  refine things_spec (s := { s with heap := h₂, toks := tk' }) (G.keeps F₂.keep) hA hft' (N'.keep F₂.keep) (by omega) fun h₃ tk₃ la as₂ n₂ hx₃ hla has₂ hlao hal₂ hT₂ => ?_
  dsimp only at hx₃ hla has₂
  dsimp only
  have F₃ := F₂.ext hx₃
  refine args_nil ⟨F₃.keep, ?_⟩
  have hle₃ : h₃.get? le = some (lobj (as₁.map Value.ref) n₁) := hx₃ _ _ hleo
  obtain ⟨oL, hoL, hLd⟩ := F₃.local_obj
  have nle : le ∉ fence (lenv L fa cd) (lcs L) mu := F₁.fresh hle
  have nla : la ∉ fence (lenv L fa cd) (lcs L) mu := F₂.fresh hla
  have gle : g.get? le = none := none_of_ext F₁.keep hle
  have gla : g.get? la = none := none_of_ext F₂.keep hla
  have ne : le ≠ la := fun q => by rw [q, hla] at hleo; cases hleo
  have has₂e : ∀ b ∈ as₂, b ∉ [le, la] ++ fence (lenv L fa cd) (lcs L) mu := fun b hb q => by
    obtain ⟨q1, q2⟩ := has₂ b hb
    rcases List.mem_append.mp q with q | q
    · rcases List.mem_cons.mp q with q | q
      · rw [q, hleo] at q1; cases q1
      · exact q2 (List.mem_singleton.mp q)
    · exact F₂.fresh q1 q
  have has₁e : ∀ b ∈ as₁, b ∉ [le, la] ++ fence (lenv L fa cd) (lcs L) mu := fun b hb q => by
    obtain ⟨q1, q2⟩ := has₁ b hb
    rcases List.mem_append.mp q with q | q
    · rcases List.mem_cons.mp q with q | q
      · exact q2 q
      · rw [List.mem_singleton.mp q] at hb
        obtain ⟨j, hj⟩ := List.mem_iff_getElem?.mp hb
        have hjl : j < (row ++ row').length := by rw [← hal₁]; exact (List.getElem?_eq_some_iff.mp hj).1
        obtain ⟨o, ho⟩ := (hT₁ j la (row ++ row')[j] hj (List.getElem?_eq_getElem hjl)).live
        rw [hla] at ho; cases ho
    · exact F₁.fresh q1 q
  generalize hhx : hideAll h₃ ([le, la] ++ fence (lenv L fa cd) (lcs L) mu) = hx
  have hget : ∀ b o, h₃.get? b = some o → b ∉ [le, la] ++ fence (lenv L fa cd) (lcs L) mu → hx.get? b = some o := fun b o e n => hhx ▸ hideAll_get _ e n
  have hof : ∀ b o, hx.get? b = some o → h₃.get? b = some o ∧ b ∉ [le, la] ++ fence (lenv L fa cd) (lcs L) mu := fun b o e => by
    subst hhx
    refine ⟨of_hideAll _ e, fun q => ?_⟩
    rw [hideAll_none _ q] at e; cases e
  have p₁ : Paired (PD prog w hx) (as₁.map Value.ref) (row ++ row') := paired_al _ _ hal₁ fun j b x h1 h2 => ((hT₁ j b x h1 h2).keep hx₃).at fun o e => hget _ _ e (has₁e b (List.mem_of_getElem? h1))
  have p₂ : Paired (PD prog w hx) (as₂.map Value.ref) row' := paired_al _ _ hal₂ fun j b x h1 h2 => (hT₂ j b x h1 h2).at fun o e => hget _ _ e (has₂e b (List.mem_of_getElem? h1))
  have thin : ∀ {h : Heap}, (∀ b o, b ∉ [le, la, L] → h₃.get? b = some o → h.get? b = some o) → Ext hx h := fun hh b o e => by
    obtain ⟨e1, e2⟩ := hof b o e
    refine hh b o (fun q => e2 ?_) e1
    rcases List.mem_cons.mp q with q | q
    · rw [q]; simp
    · rcases List.mem_cons.mp q with q | q
      · rw [q]; simp
      · rw [List.mem_singleton.mp q]; exact List.mem_append_right _ fence_loc
  have gL : g.get? L = none := F.off _ fence_loc
  refine diff_spec (g₀ := g) (Lc := L) (cenv := lenv L fa cd) (oL := oL) (eq := eqP (PD prog w hx)) F₃.keep ?_ G hA hfd hfr rfl (by show dLaw.scope.kind ≠ .module; decide) hoL hLd hle₃ hlao ne (by rw [List.length_map, hal₁]; simp; omega) (by rw [List.length_map, hal₂]; omega) ?_ ?_
  · intro a ha
    rcases List.mem_cons.mp ha with rfl | ha
    · exact gle
    · rcases List.mem_cons.mp ha with rfl | ha
      · exact gla
      · rw [List.mem_singleton.mp ha]; exact gL
  · intro x hx' y hy A' s' hu hk
    obtain ⟨a, ha⟩ := paired_mem p₁ x hx'
    obtain ⟨b, hb⟩ := paired_mem p₂ y hy
    exact eqAt_dict hb ha hu fun c o _ e => thin hk _ _ e
  · intro h₄ tk₄ lm rt nm na slt hk hLc hlm hrt hlmo hlao' hrto
    dsimp only at hk hlm hrt
    have pr := diff_paired PD_uniq (paired_rev p₁) p₂ .nil
    rw [hP4] at pr
    obtain ⟨pr1, pr2⟩ := pr
    rw [paired_nil pr1] at hlao'
    have F₄ := F₃.slots nle nla gle gla hk fun oL' ho' => ⟨slt, by rw [hoL] at ho'; cases ho'; exact hLc⟩
    obtain ⟨g', hgg, F₅, hfr', _, _⟩ := F₄.rebase
    refine sL F₅ fun h₆ tk₆ F₆ => ?_
    refine k g' h₆ tk₆ rt lm la nm na _ hgg (hfr' _ _ (F₃.fresh hrt) hrto) (hfr' _ _ (F₃.fresh hlm) hlmo) (hfr' _ _ nla hlao') (pr2.mono fun v n hv => hv.at fun b o _ e => ?_) F₆
    obtain ⟨e1, e2⟩ := hof b o e
    exact hfr' _ _ (fun q => e2 (List.mem_append_right _ q)) (thin hk _ _ e)
end
end
section
local macro_rules | `(tactic| walk_at "lk") => `(tactic| first | exact put_eq | (refine (put_ne (by decide)).trans ?_; walk_at "lk") | assumption | rfl)
open SeqAt (EqAt RcAt RcNeAt)
theorem paired_get {P : Value → Int → Prop} : ∀ {vs : List Value} {xs : List Int}, Paired P vs xs → ∀ (j : Nat) v, vs[j]? = some v → ∃ x, xs[j]? = some x ∧ P v x
  | _, _, .cons h t, 0, v, hv => by simp at hv; subst hv; exact ⟨_, rfl, h⟩
  | _, _, .cons h t, j + 1, v, hv => by obtain ⟨x, h1, h2⟩ := paired_get t j v (by simpa using hv); exact ⟨x, by simpa using h1, h2⟩
theorem all_true (n : Nat) : (List.range n).all (fun _ => true) = true := by simp
/-- two lists of such dicts alike -/
theorem eqAt_things {prog : Program} {w : World} {A : Around} {s : Shared} {l m : Addr} {vs us : List Value} {n1 n2 : Nat} {xs : List Int} (hl : s.heap.get? l = some (lobj vs n1)) (hm : s.heap.get? m = some (lobj us n2)) (hne : l ≠ m) (p : Paired (PD prog w s.heap) vs xs) (q : Paired (PD prog w s.heap) us xs) (hu : A.units + 100 < cLine) : EqAt A s (.ref l) (.ref m) true := by
  refine EqAt.of_refs hne ?_
  have hsz : vs.toArray.size = us.toArray.size := by simp [p.length, q.length]
  have := RcAt.lists (A := A) (s := s) (l := l) (b := m) (items := vs.toArray) (items2 := us.toArray) (e := fun _ => true) (IsL.isList hl) (IsL.isList hm) hsz (by omega) fun j h1 h2 => ?_
  · rw [all_true] at this; exact this
  · obtain ⟨x, hx, px⟩ := paired_get p j vs.toArray[j] (by simp at h1; simp [h1])
    obtain ⟨y, hy, py⟩ := paired_get q j us.toArray[j] (by simp at h2; simp [h2])
    rw [hx] at hy; cases hy
    have := eqAt_dict (A := A.in1) (s := s) px py (by show A.units + 1 + 64 < cLine; omega) fun c o _ e => e
    rw [eqP_eq PD_uniq px py] at this
    simpa [eqZ] using this
section
variable {prog : Program} {w : World} {A : Around} {E : Value → Shared → Prop} {s : Shared} {L fa : Addr} {cd : Value} {g : Heap} {σ : Str → Option Value} {mu : List (Addr × Obj)} {Q : Flow → Shared → Prop} {mg mb : Str → Option Value} {lt lr ta ra rb : Addr} {tr rr : List Addr} {nt nr i : Nat} {ti tw : Tok} {wt : Int} {ts : List (Int × Int)} {row row' : List Int}
set_option maxHeartbeats 4000000 in
theorem t_ftest (G : Gd mg mb g) (hA : Okk A 1) (F : LS g (lenv L fa cd) (lcs L) s.heap σ mu) (hm : (lr, lobj (rr.map Value.ref) nr) ∈ mu) (hr : σ "rows" = some (.ref lr)) (hi : σ "i" = some (.int (i : Nat) ti))
    (hra : rr[i]? = some ra) (hib : i ≤ 1000) (N : NL g ra row) (hlen : row.length ≤ 400) {rt lm la : Addr} {nm na : Nat} {mis : List Value} (hf : σ "first" = some (.ref rt))
    (hrt : g.get? rt = some { cls := .type "tuple", data := .seq #[.ref lm, .ref la] }) (hlm : g.get? lm = some (lobj mis nm)) (hla : g.get? la = some (lobj [] na)) (pm : Paired (PD prog w g) mis row.reverse)
    (k : ∀ h tk, LS g (lenv L fa cd) (lcs L) h σ mu → Q .next { s with heap := h, toks := tk }) :
    wpAny (model prog w) A (exec (tSt 4) (lenv L fa cd)) Q E s := by
  obtain ⟨vs, nv, hl, hI⟩ := N
  have hvl := hI.length
  refine wpAny_If (wpAny_isTrue_Compare1 (nL F hf (Tuple_ (args_cons (cDef dThings G F (by unfold recs; simp) rfl fun ft hft => args_cons (evSl (evAt F hm hr hi hra hib (evalPart_none_step (evalPart_none_step (evalPart_some_step (wpAny_UnaryOp (wpAny_Constant_int (PySem.P.neg_int ⟨ra, vs.toArray, none, none, some (-1), rfl, IsL.isList (F.keep _ _ hl), by rw [sl]; simp; omega, .none, .none, .int _ _, by simp, ?_⟩)))))) (.inr (c_rows L)) (.inr (c_i L)))))))))
  intro h₁ r hx₁ hr₁ hro₁
  rw [krv_pick] at hro₁
  have F₁ := F.ext hx₁
  refine args_nil ⟨F₁.keep, ?_⟩
  refine things_spec (G.keeps F₁.keep) hA hft (xs := row.reverse) ⟨vs.reverse, 0, hro₁, hI.reverse⟩ (by simp; omega) fun h₂ tk₂ l2 as n2 hx₂ hl2 has hl2o hal hT => ?_
  dsimp only at hx₂ hl2 has
  dsimp only
  have F₂ := F₁.ext hx₂
  refine args_cons (List_ (spliced_nil (wpAny_newObj_type ?_)))
  dsimp only
  have hx₃ : Ext h₂ (h₂.push { cls := .type "list", data := .seq #[] }) := fun b o e => Heap.get?_push_of_some _ e
  have ho₃ : (h₂.push { cls := .type "list", data := .seq #[] }).get? h₂.objs.size = some (lobj [] 0) := Heap.get?_push_size _ rfl
  have hn₃ := size_none h₂
  generalize h₂.push { cls := .type "list", data := .seq #[] } = h₃ at hx₃ ho₃ ⊢
  generalize h₂.objs.size = l3 at ho₃ hn₃ ⊢
  have F₃ := F₂.ext hx₃
  refine args_nil (wpAny_newObj_type ?_)
  dsimp only
  have hx₄ : Ext h₃ (h₃.push { cls := .type "tuple", data := .seq #[.ref l2, .ref l3] }) := fun b o e => Heap.get?_push_of_some _ e
  have ho₄ : (h₃.push { cls := .type "tuple", data := .seq #[.ref l2, .ref l3] }).get? h₃.objs.size = some { cls := .type "tuple", data := .seq #[.ref l2, .ref l3] } := Heap.get?_push_size _ rfl
  generalize h₃.push { cls := .type "tuple", data := .seq #[.ref l2, .ref l3] } = h₄ at hx₄ ho₄ ⊢
  generalize h₃.objs.size = t4 at ho₄ ⊢
  have F₄ := F₃.ext hx₄
  have hu := hA.units
  have hx24 : Ext h₂ h₄ := fun b o e => hx₄ _ _ (hx₃ _ _ e)
  refine cmp_ofNotEq (RcNeAt.tuples (e := fun _ => true) (items := #[.ref lm, .ref la]) (items2 := #[.ref l2, .ref l3]) ⟨_, F₄.keep _ _ hrt, rfl, 0, rfl⟩ ⟨_, ho₄, rfl, 0, rfl⟩ (by omega) (fun j h1 h2 => ?_) _ _ _ _ (wpAny_truthy_bool ?_))
  · have hgl : ∀ b o, g.get? b = some o → ∀ c, c = l2 ∨ c = l3 → b ≠ c := by
      intro b o e c hc q
      rcases hc with rfl | rfl
      · rw [← q] at hl2; rw [F₁.keep _ _ e] at hl2; cases hl2
      · rw [← q] at hn₃; rw [F₂.keep _ _ e] at hn₃; cases hn₃
    have hu1 : A.in1.units + 100 < cLine := by show A.units + 1 + 100 < cLine; omega
    match j, h1, h2 with
    | 0, _, _ => exact eqAt_things (s := _) (F₄.keep _ _ hlm) (hx24 _ _ hl2o) (hgl _ _ hlm _ (.inl rfl)) (pm.mono fun v n hv => hv.at fun b o _ e => F₄.keep _ _ e) (paired_al _ _ (by rw [hal]) fun j b x q1 q2 => (hT j b x q1 q2).keep hx24) hu1
    | 1, _, _ => exact eqAt_things (prog := prog) (w := w) (s := _) (F₄.keep _ _ hla) (hx₄ _ _ ho₃) (hgl _ _ hla _ (.inr rfl)) .nil .nil hu1
  · have e : (!((List.range (min (#[Value.ref lm, .ref la] : Array Value).size (#[Value.ref l2, .ref l3] : Array Value).size)).all (fun _ => true) && (#[Value.ref lm, .ref la] : Array Value).size == (#[Value.ref l2, .ref l3] : Array Value).size)) = false := rfl
    rw [e, if_neg (by simp)]
    exact wpAny_execs_nil (k h₄ _ F₄)
end
end
section
local macro_rules | `(tactic| walk_at "lk") => `(tactic| first | exact put_eq | (refine (put_ne (by decide)).trans ?_; walk_at "lk") | assumption | rfl)
section
variable {prog : Program} {w : World} {A : Around} {E : Value → Shared → Prop} {s : Shared} {L fa : Addr} {cd : Value} {g : Heap} {σ : Str → Option Value} {mu : List (Addr × Obj)} {Q : Flow → Shared → Prop} {mg mb : Str → Option Value} {lt lr ta ra rb : Addr} {tr rr : List Addr} {nt nr i : Nat} {ti tw : Tok} {wt : Int} {ts : List (Int × Int)} {row row' : List Int}
set_option maxHeartbeats 4000000 in
theorem t_diff (G : Gd mg mb g) (hA : Okk A 1) (hfr : A.frames = some [lenv L fa cd]) (F : LS g (lenv L fa cd) (lcs L) s.heap σ mu) (hm : (lr, lobj (rr.map Value.ref) nr) ∈ mu) (hr : σ "rows" = some (.ref lr)) (hi : σ "i" = some (.int (i : Nat) ti))
    (hra : rr[i]? = some ra) (hrb : rr[i + 1]? = some rb) (hib : i ≤ 1000) (N : NL g ra row) (N' : NL g rb row') (hlen : row.length ≤ 400) (hlen' : row'.length ≤ 400)
    (hP3 : diffV eqZ row.reverse (row', []) = (comeL row row', goneL row row'))
    (k : ∀ g' h tk lg lc, Ext g g' → NL g' lg (goneL row row') → NL g' lc (comeL row row') → LS g' (lenv L fa cd) (lcs L) h (put (put σ "gone" (.ref lg)) "come" (.ref lc)) mu → Q .next { s with heap := h, toks := tk }) :
    wpAny (model prog w) A (exec (tSt 5) (lenv L fa cd)) Q E s := by
  obtain ⟨vs, nv, hl, hI⟩ := N
  obtain ⟨vs', nv', hl', hI'⟩ := N'
  have hvl := hI.length
  have hvl' := hI'.length
  refine wpAny_Assign_stores (cDef dDiff G F (by unfold recs; simp) rfl fun fd hfd => args_cons (tC1 G F boot_list (evAt F hm hr hi hra hib (call_list_seq ra (.inl rfl) (F.keep _ _ hl) rfl rfl (fun h₁ c₁ hx₁ hle => ?_) (by rw [sl]; simp; omega)) (.inr (c_rows L)) (.inr (c_i L))))) rfl rfl
  have F₁ := F.ext hx₁
  have hn₁ := size_none s.heap
  generalize s.heap.objs.size = le at hle hn₁ ⊢
  refine args_cons (tC1 G F₁ boot_list (evAt1 F₁ hm hr hi hrb hib (fun tk => call_list_seq (s := { s with heap := h₁, toks := tk }) rb (.inl rfl) (F₁.keep _ _ hl') rfl rfl (fun h₂ c₂ hx₂ hla => ?_) (by rw [sl]; simp; omega)) (.inr (c_rows L)) (.inr (c_i L))))
  dsimp only at hx₂ hla
  dsimp only
  have F₂ := F₁.ext hx₂
  have hn₂ := size_none h₁
  generalize h₁.objs.size = la at hla hn₂ ⊢
  refine args_nil ⟨F₂.keep, ?_⟩
  obtain ⟨oL, hoL, hLd⟩ := F₂.local_obj
  have nle : le ∉ fence (lenv L fa cd) (lcs L) mu := F.fresh hn₁
  have nla : la ∉ fence (lenv L fa cd) (lcs L) mu := F₁.fresh hn₂
  have gle : g.get? le = none := none_of_ext F.keep hn₁
  have gla : g.get? la = none := none_of_ext F₁.keep hn₂
  have ne : le ≠ la := fun q => by rw [← q, hle] at hn₂; cases hn₂
  have gL : g.get? L = none := F.off _ fence_loc
  have p₁ := ints_paired hI
  have p₂ := ints_paired hI'
  refine diff_spec (s := { s with heap := h₂, toks := tk }) (g₀ := g) (Lc := L) (cenv := lenv L fa cd) (oL := oL) (vs := vs) (us := vs') (eq := eqP PI) F₂.keep ?_ G hA hfd hfr rfl (by show dLaw.scope.kind ≠ .module; decide) hoL hLd (hx₂ _ _ hle) hla ne (by omega) (by omega) ?_ ?_
  · intro a ha
    rcases List.mem_cons.mp ha with rfl | ha
    · exact gle
    · rcases List.mem_cons.mp ha with rfl | ha
      · exact gla
      · rw [List.mem_singleton.mp ha]; exact gL
  · intro x hx' y hy A' s' hu hk
    obtain ⟨a, ha⟩ := paired_mem p₁ x hx'
    obtain ⟨b, hb⟩ := paired_mem p₂ y hy
    exact eqAt_int hb ha
  · intro h₄ tk₄ lm rt nm na slt hk hLc hlm hrt hlmo hlao' hrto
    dsimp only at hk hlm hrt
    dsimp only
    have pr := diff_paired PI_uniq (paired_rev p₁) p₂ .nil
    rw [hP3] at pr
    obtain ⟨pr1, pr2⟩ := pr
    have F₄ := F₂.slots nle nla gle gla hk fun oL' ho' => ⟨slt, by rw [hoL] at ho'; cases ho'; exact hLc⟩
    obtain ⟨g', hgg, F₅, hfr', _, _⟩ := F₄.rebase
    have hlm' := hfr' _ _ (F₂.fresh hlm) hlmo
    have hla' := hfr' _ _ nla hlao'
    refine wpAny_assign_Tuple (x1 := 0) hA.hh (items := #[.ref lm, .ref la]) ⟨_, hrto, rfl, 0, rfl⟩ rfl rfl fun h₆ hx₆ => ?_
    replace hx₆ : Heap.ExtBut h₄.objs.size h₄ h₆ := hx₆
    have F₆ := F₅.extBut (h' := h₆) (fun b o hb e => hx₆ b o hb e) (F₅.fresh (size_none h₄)) (none_of_ext F₅.keep (size_none h₄))
    show wpAny _ _ (do holding [.ref la] (assign (.Name "gone" _) _ (.ref lm)); do holding [] (assign (.Name "come" _) _ (.ref la)); pure ()) _ _ _
    refine wpAny_bind (wpAny_holding (wpAny_assign_Name (sC (s := { s with heap := h₆, toks := tk₄ }) F₆ (c_gone L) fun h₇ tk₇ F₇ => ?_)))
    refine wpAny_bind (wpAny_holding (wpAny_assign_Name (sC (s := { s with heap := h₇, toks := tk₇ }) F₇ (c_come L) fun h₈ tk₈ F₈ => wpAny_pure ?_)))
    exact k g' h₈ tk₈ lm la hgg ⟨_, nm, hlm', paired_ints' pr2⟩ ⟨_, na, hla', paired_ints' pr1⟩ F₈
theorem t_dtest (G : Gd mg mb g) (hA : Okk A 1) (F : LS g (lenv L fa cd) (lcs L) s.heap σ mu) (hm : (lr, lobj (rr.map Value.ref) nr) ∈ mu) (hr : σ "rows" = some (.ref lr)) (hi : σ "i" = some (.int (i : Nat) ti))
    (hra : rr[i]? = some ra) (hrb : rr[i + 1]? = some rb) (hib : i ≤ 1000) (N : NL g ra row) (N' : NL g rb row') (hlen : row.length ≤ 400) (hlen' : row'.length ≤ 400) {lg lc : Addr} (hg : σ "gone" = some (.ref lg)) (hc : σ "come" = some (.ref lc)) (Ng : NL g lg (goneL row row')) (Nc : NL g lc (comeL row row'))
    (k : ∀ h tk, LS g (lenv L fa cd) (lcs L) h σ mu → Q .next { s with heap := h, toks := tk }) :
    wpAny (model prog w) A (exec (tSt 6) (lenv L fa cd)) Q E s := by
  have hu := hA.units
  refine wpAny_If (wpAny_isTrue_BoolOp (wpAny_allTrue_Or_cons (wpAny_isTrue_Compare1 (nC F hg (cDef dGone G F (by unfold recs; simp) rfl fun f1 hf1 => args_cons (evAt F hm hr hi hra hib (args_cons (evAt1 F hm hr hi hrb hib (fun tk => args_nil ⟨F.keep, ?_⟩) (.inr (c_rows L)) (.inr (c_i L)))) (.inr (c_rows L)) (.inr (c_i L)))) (c_gone L)))))
  refine gone_spec (s := { s with toks := tk }) (G.keeps F.keep) hA hf1 (N.keep F.keep) (N'.keep F.keep) (by omega) fun h₁ tk₁ r₁ hx₁ hr₁ N₁ => ?_
  dsimp only at hx₁ hr₁
  dsimp only
  have F₁ := F.ext hx₁
  obtain ⟨vs, hl, hI⟩ := (Ng.keep F₁.keep).isList
  obtain ⟨vs₁, hl₁, hI₁⟩ := N₁.isList
  refine ke_ne_ints (s := { s with heap := h₁, toks := tk₁ }) hl hl₁ hI hI₁ (by omega) (wpAny_truthy_bool ?_)
  rw [decide_eq_true rfl, Bool.not_true, if_neg (by simp)]
  refine wpAny_allTrue_Or_cons (wpAny_isTrue_Compare1 (nC F₁ hc (cDef dCome G F₁ (by unfold recs; simp) rfl fun f1 hf1 => args_cons (evAt F₁ hm hr hi hra hib (args_cons (evAt1 F₁ hm hr hi hrb hib (fun tk => args_nil ⟨F₁.keep, ?_⟩) (.inr (c_rows L)) (.inr (c_i L)))) (.inr (c_rows L)) (.inr (c_i L)))) (c_come L)))
  refine come_spec (s := { s with heap := h₁, toks := tk }) (G.keeps F₁.keep) hA hf1 (N.keep F₁.keep) (N'.keep F₁.keep) (by omega) (by omega) fun h₂ tk₂ r₂ hx₂ hr₂ N₂ => ?_
  dsimp only at hx₂ hr₂
  dsimp only
  have F₂ := F₁.ext hx₂
  obtain ⟨us, hul, hJ⟩ := (Nc.keep F₂.keep).isList
  obtain ⟨us₁, hul₁, hJ₁⟩ := N₂.isList
  refine ke_ne_ints (s := { s with heap := h₂, toks := tk₂ }) hul hul₁ hJ hJ₁ (by omega) (wpAny_truthy_bool ?_)
  rw [decide_eq_true rfl, Bool.not_true, if_neg (by simp)]
  refine wpAny_allTrue_Or_nil ?_
  rw [if_neg (by simp)]
  exact wpAny_execs_nil (k h₂ _ F₂)
end
end
section
local macro_rules | `(tactic| walk_at "lk") => `(tactic| first | exact put_eq | (refine (put_ne (by decide)).trans ?_; walk_at "lk") | assumption | rfl)
section
variable {prog : Program} {w : World} {A : Around} {E : Value → Shared → Prop} {s : Shared} {env : Env} {cs : List (Str × Addr)} {g : Heap} {σ : Str → Option Value} {mu : List (Addr × Obj)} {Q : Flow → Shared → Prop} {K : Type} [DecidableEq K]
/-- «y = {kx: vx for x in iter}», y a local on the same line -/
theorem asgDict {kx vx iter : Expr} {x y : Str} {px py : Pos} {scope : Scope} {cl : List (Str × Addr)} {pos spos : Pos} (knd : KeyKind prog w K) (FK : Value → K → Prop) (FV : Value → Value → Prop)
    (hsw : swapsWith (.DictComp kx vx [⟨.Name x px, iter, [], 0⟩] scope pos) (some (.Name y py)) spos.line env = pure true) (hh : A.handled = none) (hclos : closureFor scope env = pure cl) (hcell : ∀ z ∈ scope.names, z.2 ≠ .cell) (hkind : scope.kind = .function)
    (hnames : ∀ z ∈ scope.names, z.2 = .local → scope.names.lookup z.1 = some .local) (hx : scope.names.lookup x = some .local) (hy : env.kindOf y = some .local) (hkf : env.scope.kind = .function)
    (h : wpAny (model prog w) A (eval iter env) (fun xv s₁ => ∃ ax vs, xv = .ref ax ∧ s₁.heap.IsList ax vs.toArray ∧ vs.length ≤ 1000 ∧ LS g env cs s₁.heap σ mu ∧
      (∀ C (i : Nat) v s₃ m₃ E', vs[i]? = some v → s₃.heap.Ns C m₃ → m₃ x = some v → Ext s₁.heap s₃.heap → wpAny (model prog w) A (eval kx (compEnvC scope cl C env)) (fun key s₄ => (∃ k, knd.is k key = true ∧ FK v k) ∧ Keeps s₃ s₄) E' s₃) ∧
      (∀ C (i : Nat) v s₃ m₃ E', vs[i]? = some v → s₃.heap.Ns C m₃ → m₃ x = some v → Ext s₁.heap s₃.heap → wpAny (model prog w) A (eval vx (compEnvC scope cl C env)) (fun y s₄ => FV v y ∧ Keeps s₃ s₄) E' s₃) ∧
      (∀ g' h tk D kvs, Ext g g' → s₁.heap.get? D = none → g'.DictOf knd D kvs → StoredAll FK FV vs kvs → LS g' env cs h (put σ y (.ref D)) mu → Q .next { s₁ with heap := h, toks := tk })) E s)
    (hs : ∀ x, foldedSetIterable iter env x = pure x := by intro _; rfl) :
    wpAny (model prog w) A (exec (.Assign [.Name y py] (.DictComp kx vx [⟨.Name x px, iter, [], 0⟩] scope pos) spos) env) Q E s := by
  rw [exec_Assign_Name_used _ _ _ _ hsw]
  refine wpAny_bind (wpAny_standAt (wpAny_bind ?_))
  show wpAny _ A (do let _ ← comprehension (.DictComp kx vx [⟨.Name x px, iter, [], 0⟩] scope pos) scope env _ newDict false (eval iter env) (some (assign (.Name y py) env))) _ _ s
  refine wpAny_bind (wpAny_mono (wpAny_comprehension_free (use := some (assign (.Name y py) env)) (Q := fun _ s' => Q .next s') rfl hs hclos hkind hnames
    (wpAny_mono h (fun xv s₁ h₁ => ?_) fun _ _ e => e)) (fun _ s' hq => wpAny_pure (wpAny_pure hq)) fun _ _ e => e)
  obtain ⟨ax, vs, rfl, hl, hsz, F, hkey, hval, hQ⟩ := h₁
  have hlt : ax < s₁.heap.objs.size := by obtain ⟨_, e, _⟩ := hl; exact Heap.lt_size e
  have hE : Ext s₁.heap (s₁.heap.push { cls := .type "list_iterator", data := .fields #[.ref ax, .int 0 0] }) := fun b o e => Heap.get?_push_of_some _ e
  have up : ∀ (h₃ : Heap), (∀ b o, b ∉ [s₁.heap.objs.size] → (s₁.heap.push { cls := .type "list_iterator", data := .fields #[.ref ax, .int 0 0] }).get? b = some o → h₃.get? b = some o) → Ext s₁.heap h₃ :=
    fun s₃ hk b o e => hk b o (fun hm => Nat.lt_irrefl _ (List.mem_singleton.mp hm ▸ Heap.lt_size e)) (hE _ _ e)
  refine wpAny_pyIter_list hl ?_
  refine comp_block_walkCD (knd := knd) (RR := fun acc C => compPost (model prog w) A E (some (assign (.Name y py) env)) (fun _ s' => Q .next s') acc C) (Walks.list hh _ _ (Nat.ne_of_lt hlt) vs.toArray) (by rw [List.size_toArray, sl]; omega) (fun _ => true)
    FK FV hcell hkind hx ⟨⟨_, Heap.get?_push_size _ rfl, rfl, rfl⟩, hl.push _⟩ ?_ ⟨?_, ?_, ?_⟩ ?_
  · intro b hb
    show b < (s₁.heap.push _).objs.size
    rw [Heap.size_push]
    rcases List.mem_cons.mp hb with rfl | hb
    · exact Nat.lt_succ_self _
    · rw [List.mem_singleton.mp hb]; exact Nat.lt_succ_of_lt hlt
  · intro C i v s₃ m₃ E' hP hn hm hk
    refine tst_nil ⟨rfl, s₃.heap, s₃.toks, rfl, fun _ _ e => e⟩
  · intro C i v s₃ m₃ E' hP _ hn hm hk
    exact hkey C i v s₃ m₃ E' (by simpa using hP) hn hm (up _ hk)
  · intro C i v s₃ m₃ E' hP _ hn hm hk
    exact hval C i v s₃ m₃ E' (by simpa using hP) hn hm (up _ hk)
  · intro D C h' tk m' kvs vs' hD hC hDC hnC hlD hlen hP hF hk
    have e : vs' = vs := by simpa using list_of_places hlen hP
    subst e
    have hF' : StoredAll FK FV vs' kvs := by
      have : vs'.filter (fun _ => true) = vs' := by simp
      rw [this] at hF; exact hF
    have hx' := up _ hk
    have F' := F.ext hx'
    have hD' := none_of_ext hE hD
    have hC' := none_of_ext hE hC
    obtain ⟨oD, hoD, hID⟩ := Heap.dictOf_iff.mp hlD
    obtain ⟨oC, esC, epC, hoC, rC⟩ := id hnC
    have F₁ := F'.watch hoD (F.fresh hD') (none_of_ext F.keep hD')
    have hCf : C ∉ fence env cs ((D, oD) :: mu) := fun q => by
      rcases fence_split q with q | ⟨y, q⟩ | ⟨o, q⟩
      · exact F.fresh hC' (q ▸ fence_loc)
      · exact F.fresh hC' (fence_cell q)
      · rcases List.mem_cons.mp q with q | q
        · cases q; exact hDC rfl
        · exact F.fresh hC' (fence_mu q)
    have F₂ := F₁.watch hoC hCf (none_of_ext F.keep hC')
    show wpAny _ A (assign (.Name y py) env (.ref D)) _ _ _
    refine wpAny_assign_Name (sL (s := { s₁ with heap := h', toks := tk }) F₂ (fun h₂ tk₂ F₃ => ?_) hkf hy)
    refine ⟨m', hnC.at' fun o e => ?_, fun h₃ hs₃ => ?_⟩
    · rw [hoC] at e; cases e; exact F₃.led (C, oC) List.mem_cons_self
    · have F₄ := F₃.tail.extBut (a := C) (h' := h₃) (fun b o hb e => hs₃.extBut b o hb e) hCf (none_of_ext F.keep hC')
      obtain ⟨g', hgg, F₅, hfr', _, _⟩ := F₄.tail.rebase
      have hgD : g'.get? D = some oD := hfr' _ _ (head_off F₄) (F₄.led (D, oD) List.mem_cons_self)
      exact hQ g' h₃ tk₂ D kvs hgg hD' (Heap.dictOf_iff.mpr ⟨oD, hgD, hID⟩) hF' F₅
end
def setP (ts : List (Int × Int)) (k v : Int) : List (Int × Int) := if ts.any (fun p => decide (p.1 = k)) then ts.map (fun p => if p.1 = k then (p.1, v) else p) else ts ++ [(k, v)]
theorem strip_setV (vals : List (Int × Int × Tok)) (k v : Int) (t : Tok) : strip (setV vals k v t) = setP (strip vals) k v := by
  unfold setV setP
  rw [strip_any]
  cases vals.any fun x => decide (x.1 = k) with
  | false => simp [strip]
  | true =>
    simp only [if_true, strip, List.map_map]
    apply List.map_congr_left
    intro x _
    simp only [Function.comp]
    by_cases h : x.1 = k <;> simp [h]
def valI : Value → Int
  | .int n _ => n
  | _ => 0
theorem valI_ints : ∀ {vs : List Value} {ns : List Int}, IntsAre vs ns → vs.map valI = ns
  | _, _, .nil => rfl
  | _, _, .cons n t h => by rw [List.map_cons, valI_ints h]; rfl
theorem stored_fold {f : Int → Int} {l : List Value} {kvs : List (Int × Value)} (h : StoredAll (fun v k => ∃ t, v = .int k t) (fun v y => ∃ n t t', v = .int n t ∧ y = .int (f n) t') l kvs) : ∃ vals, kvs = intPairs vals ∧ strip vals = (l.map valI).foldl (fun acc x => setP acc x (f x)) [] := by
  induction h with
  | nil => exact ⟨[], rfl, rfl⟩
  | snoc _ hk hv ih =>
    obtain ⟨vals, rfl, hs⟩ := ih
    obtain ⟨t, rfl⟩ := hk
    obtain ⟨n, t1, t2, e1, rfl⟩ := hv
    cases e1
    refine ⟨setV vals _ _ t2, stored_intPairs .., ?_⟩
    rw [strip_setV, hs, List.map_append, List.foldl_append]; rfl
def changeT (wt : Int) (come gone : List Int) : List (Int × Int) := (come ++ gone).foldl (fun acc x => setP acc x (wt * (((come.count x : Nat) : Int) - ((gone.count x : Nat) : Int)))) []
section
variable {prog : Program} {w : World} {A : Around} {E : Value → Shared → Prop} {s : Shared} {L fa : Addr} {cd : Value} {g : Heap} {σ : Str → Option Value} {mu : List (Addr × Obj)} {Q : Flow → Shared → Prop} {mg mb : Str → Option Value} {tw : Tok} {wt : Int} {come gone : List Int}
set_option maxHeartbeats 4000000 in
theorem t_change (hsm : ∃ o, g.get? sysModules = some o) (hA : Okk A 1) (F : LS g (lenv L fa cd) (lcs L) s.heap σ mu) {lg lc : Addr} (hw : σ "weight" = some (.int wt tw)) (hg : σ "gone" = some (.ref lg)) (hc : σ "come" = some (.ref lc)) (Ng : NL g lg gone) (Nc : NL g lc come) (hs1 : come.length ≤ 400) (hs2 : gone.length ≤ 400)
    (k : ∀ g' h tk D, Ext g g' → Tab prog w g' D (changeT wt come gone) → LS g' (lenv L fa cd) (lcs L) h (put σ "change" (.ref D)) mu → Q .next { s with heap := h, toks := tk }) :
    wpAny (model prog w) A (exec (tSt 7) (lenv L fa cd)) Q E s := by
  obtain ⟨vc, nc, hlc, hIc⟩ := id (Nc.keep F.keep)
  obtain ⟨vg, ng, hlg, hIg⟩ := id (Ng.keep F.keep)
  have e1 := hIc.length
  have e2 := hIg.length
  have hcw : s.heap.IsCell (L + 1) (some (.int wt tw)) := hw ▸ F.cl "weight" (L + 1) (by simp)
  have hcg : s.heap.IsCell (L + 1 + 1 + 1 + 1) (some (.ref lg)) := hg ▸ F.cl "gone" (L + 1 + 1 + 1 + 1) (by simp)
  have hcc : s.heap.IsCell (L + 1 + 1 + 1 + 1 + 1) (some (.ref lc)) := hc ▸ F.cl "come" (L + 1 + 1 + 1 + 1 + 1) (by simp)
  refine asgDict (g := g) (cs := lcs L) (σ := σ) (mu := mu) (cl := [("weight", L + 1), ("gone", L + 1 + 1 + 1 + 1), ("come", L + 1 + 1 + 1 + 1 + 1)]) (intKind prog w) (fun v k => ∃ t, v = .int k t) (fun v y => ∃ n t t', v = .int n t ∧ y = .int (wt * (((come.count n : Nat) : Int) - ((gone.count n : Nat) : Int))) t')
    rfl hA.hh rfl (by decide) rfl (by decide) rfl rfl rfl (wpAny_BinOp (nC F hc (nC F hg (PySem.P.add_list hlc hlg ?_ (by rw [sl, List.size_toArray, List.size_toArray]; omega)) (c_gone L)) (c_come L)))
  have hx : Ext s.heap (s.heap.push { cls := .type "list", data := .seq (vc.toArray ++ vg.toArray) }) := fun b o e => Heap.get?_push_of_some _ e
  have e : vc.toArray ++ vg.toArray = (vc ++ vg).toArray := by simp
  rw [e] at hx ⊢
  have hl : (s.heap.push { cls := .type "list", data := .seq (vc ++ vg).toArray }).IsList s.heap.objs.size (vc ++ vg).toArray := ⟨_, Heap.get?_push_size _ rfl, rfl, 0, rfl⟩
  have hI := hIc.append hIg
  refine ⟨_, vc ++ vg, rfl, hl, by simp; omega, F.ext hx, ?_, ?_, ?_⟩
  · intro C i v s₃ m₃ E' hv hn hm hE
    obtain ⟨n, t, rfl, _⟩ := hI.at i v hv
    exact wpAny_Name (wpAny_loadName_local rfl rfl hn hm ⟨⟨n, by simp [intKind, Value.isInt], t, rfl⟩, _, _, rfl, fun _ _ e => e⟩) (by decide)
  · intro C i v s₃ m₃ E' hv hn hm hE
    obtain ⟨n, t, rfl, _⟩ := hI.at i v hv
    have hE' : Ext s.heap s₃.heap := fun b o e => hE _ _ (hx _ _ e)
    refine wpAny_BinOp (wpAny_Name (wpAny_loadName_cell rfl rfl (c := L + 1) rfl (hcw.keeps hE') ?_) (by decide))
    refine wpAny_BinOp (mCount rfl rfl rfl (wpAny_Name (wpAny_loadName_cell rfl rfl (c := L + 1 + 1 + 1 + 1 + 1) rfl (hcc.keeps hE') ⟨lc, come, rfl, (Nc.keep F.keep).keep hE', wpAny_Name (wpAny_loadName_local rfl rfl hn hm ⟨n, t, rfl, (Nc.keep F.keep).keep hE', ?_⟩) (by decide)⟩) (by decide)))
    refine mCount rfl rfl rfl (wpAny_Name (wpAny_loadName_cell rfl rfl (c := L + 1 + 1 + 1 + 1) rfl (hcg.keeps hE') ⟨lg, gone, rfl, (Ng.keep F.keep).keep hE', wpAny_Name (wpAny_loadName_local rfl rfl hn hm ⟨n, t, rfl, (Ng.keep F.keep).keep hE', ?_⟩) (by decide)⟩) (by decide))
    have b1 : come.count n ≤ 400 := Nat.le_trans List.count_le_length hs1
    have b2 : gone.count n ≤ 400 := Nat.le_trans List.count_le_length hs2
    refine PyProof.Rows.sub_int (PyProof.Rows.mul_int ⟨⟨n, t, _, rfl, rfl⟩, s₃.heap, _, rfl, fun _ _ e => e⟩ (IntMulOk.of_right (intBits_le_64 (by omega) (by omega))))
  · intro g' h tk D kvs hgg hD hd hF F'
    obtain ⟨vals, rfl, hs⟩ := stored_fold (f := fun n => wt * (((come.count n : Nat) : Int) - ((gone.count n : Nat) : Int))) hF
    rw [valI_ints hI] at hs
    refine k g' h tk D hgg ⟨?_, vals, hd, hs⟩ F'
    refine beq_false_of_ne fun q => ?_
    obtain ⟨o, ho⟩ := hsm
    rw [q] at hD
    rw [hx _ _ (F.keep _ _ ho)] at hD; cases hD
end
end
section
local macro_rules | `(tactic| walk_at "lk") => `(tactic| first | exact put_eq | (refine (put_ne (by decide)).trans ?_; walk_at "lk") | assumption | rfl)
/-- what a round's plain numbers fulfil -/
structure Fact (wt : Int) (row row' : List Int) (tab tab' : List (Int × Int)) : Prop where
  nxt : row' = nextR row
  len : row.length ≤ 400
  len' : row'.length ≤ 400
  sum : (tab.map (·.2)).sum = wt * ((row.length : Nat) : Int)
  p4 : diffV eqZ (row ++ row').reverse (row', []) = ([], row.reverse)
  p3 : diffV eqZ row.reverse (row', []) = (comeL row row', goneL row row')
  add : addT tab (changeT wt (comeL row row') (goneL row row')) = tab'
  small : tab.length + (changeT wt (comeL row row') (goneL row row')).length ≤ 1000
  lc : (comeL row row').length ≤ 400
  lg : (goneL row row').length ≤ 400
section
variable {prog : Program} {w : World} {A : Around} {E : Value → Shared → Prop} {s : Shared} {L fa : Addr} {cd : Value} {g : Heap} {σ : Str → Option Value} {pre post : List (Addr × Obj)} {Q : Flow → Shared → Prop} {mg mb : Str → Option Value} {lt lr ta : Addr} {tr rr : List Addr} {nt nr i : Nat} {ti tw tkk : Tok} {wt kk : Int} {ts us : List (Int × Int)}
set_option maxHeartbeats 2000000 in
theorem t_tabs (G : Gd mg mb g) (hA : Okk A 1) (F : LS g (lenv L fa cd) (lcs L) s.heap σ (pre ++ (lt, lobj (tr.map Value.ref) nt) :: post)) {D : Addr} (ht : σ "tables" = some (.ref lt)) (hi : σ "i" = some (.int (i : Nat) ti)) (hc : σ "change" = some (.ref D))
    (hta : tr[i]? = some ta) (hib : i ≤ 1000) (T : Tab prog w g ta ts) (U : Tab prog w g D us) (hsz : ts.length + us.length ≤ 1000) (hrl : tr.length ≤ 1000)
    (k : ∀ g' h tk b nt', Ext g g' → Tab prog w g' b (addT ts us) → LS g' (lenv L fa cd) (lcs L) h σ (pre ++ (lt, lobj ((tr ++ [b]).map Value.ref) nt') :: post) → Q .next { s with heap := h, toks := tk }) :
    wpAny (model prog w) A (exec (tSt 8) (lenv L fa cd)) Q E s := by
  have hlt : IsL s.heap lt (tr.map Value.ref).toArray nt := F.led (lt, lobj (tr.map Value.ref) nt) (by simp)
  refine sAppend (D := lt) (fun Q' hq => nL F ht hq) hlt (cDef dAdd G F (by unfold recs; simp) rfl fun f1 hf1 => args_cons (evAt (nr := nt) F (by simp) ht hi hta hib (args_cons (nL F hc (args_nil ⟨F.keep, ?_⟩))) (.inl rfl) (.inr (c_i L))))
  refine add_spec (G.keeps F.keep) hA hf1 (T.keep F.keep) (U.keep F.keep) hsz fun h₁ tk₁ b hx hb T' => ?_
  dsimp only
  have F₁ := F.ext hx
  have hlt₁ : IsL h₁ lt (tr.map Value.ref).toArray nt := F₁.led (lt, lobj (tr.map Value.ref) nt) (by simp)
  refine ⟨_, _, by rw [sl, List.size_toArray]; simp; omega, hlt₁, ?_⟩
  obtain ⟨g', hgg, F₆, hfr', _, _⟩ := F₁.rebase
  obtain ⟨n', hn'⟩ := IsL_push (v := .ref b) hlt₁
  have F₇ := LS.upd (pre := pre) (post := post) F₆ (SameBut_update _ _ _) hn'
  have e : tr.map Value.ref ++ [.ref b] = (tr ++ [b]).map Value.ref := by simp
  rw [e] at F₇
  exact k g' _ _ b n' hgg (T'.at fun o q => hfr' _ _ (F.fresh hb) q) F₇
/-- what holds of the law's frame ahead of a round -/
def Inv (prog : Program) (w : World) (lt lr : Addr) (wt kk : Int) (rowAt : Nat → List Int) (tabAt : Nat → List (Int × Int)) (j : Nat) (g : Heap) (σ : Str → Option Value) (mu : List (Addr × Obj)) : Prop :=
  ∃ tr rr nt nr tw tkk, mu = [(lt, lobj (tr.map Value.ref) nt), (lr, lobj (rr.map Value.ref) nr)] ∧ σ "rows" = some (.ref lr) ∧ σ "tables" = some (.ref lt) ∧ σ "weight" = some (.int wt tw) ∧ σ "k" = some (.int kk tkk) ∧
    Al (NL g) rr ((List.range (j + 1)).map rowAt) ∧ Al (Tab prog w g) tr ((List.range (j + 1)).map tabAt)
theorem range_at {α : Type} (f : Nat → α) (n i : Nat) (h : i < n) : ((List.range n).map f)[i]? = some (f i) := by simp [h]
theorem range_snoc {α : Type} (f : Nat → α) (n : Nat) : (List.range (n + 1)).map f = (List.range n).map f ++ [f n] := by rw [List.range_succ, List.map_append]; rfl
set_option maxHeartbeats 4000000 in
theorem t_turn {rowAt : Nat → List Int} {tabAt : Nat → List (Int × Int)} {j : Nat} {tv : Tok} {mu : List (Addr × Obj)} {I : Addr} {oI : Obj} {E' : Value → Shared → Prop} {h : Heap} {tk : Nat} {Q' : Value → Shared → Prop} {Q'' : Shared → Prop} (G : Gd mg mb g) (hsm : ∃ o, g.get? sysModules = some o) (hA : Okk A 1) (hfr : A.frames = some [lenv L fa cd]) (hw0 : wt ≠ 0) (hj : j ≤ 100) (fact : Fact wt (rowAt j) (rowAt (j + 1)) (tabAt j) (tabAt (j + 1)))
    (hJ : Inv prog w lt lr wt kk rowAt tabAt j g σ mu) (F : LS g (lenv L fa cd) (lcs L) h (put σ "i" (.int (j : Nat) tv)) ((I, oI) :: mu)) :
    wpAny (model prog w) A (execs lBody (lenv L fa cd)) (fun f s₃ => match f with
      | .next | .cont => Left s (lenv L fa cd) (lcs L) g I oI (Inv prog w lt lr wt kk rowAt tabAt (j + 1)) s₃
      | .brk => Q'' s₃
      | .ret v => Q' v s₃) E' { s with heap := h, toks := tk } := by
  obtain ⟨tr, rr, nt, nr, tw, tkk, rfl, hr, ht, hw, hkk, AR, AT⟩ := hJ
  obtain ⟨ra, hra, NR⟩ := AR.at (range_at rowAt (j + 1) j (by omega))
  obtain ⟨ta, hta, TT⟩ := AT.at (range_at tabAt (j + 1) j (by omega))
  have hrl : rr.length = j + 1 := by rw [AR.1]; simp
  have htl : tr.length = j + 1 := by rw [AT.1]; simp
  have hnx := fact.nxt
  show wpAny _ _ (execs [tSt 0, tSt 1, tSt 2, tSt 3, tSt 4, tSt 5, tSt 6, tSt 7, tSt 8] (lenv L fa cd)) _ _ _
  refine wpAny_execs_cons (t_told (lt := lt) (tr := tr) (nt := nt) (ti := tv) G hA F (by simp) (by walk_at "lk") (by walk_at "lk") hta (by omega) TT fun h₁ tk₁ t₁ F₁ => ?_)
  rw [fact.sum] at F₁
  dsimp only
  refine wpAny_execs_cons (t_test (wt := wt) (c := (rowAt j).length) (t := t₁) (tw := tw) G F₁ (by walk_at "lk") (by walk_at "lk") hw0 fun tk₂ => ?_)
  dsimp only
  refine wpAny_execs_cons (t_rows (pre := [(I, oI), (lt, lobj (tr.map Value.ref) nt)]) (wt := wt) (row := rowAt j) (t := t₁) (ti := tv) (tw := tw) hA F₁ (by walk_at "lk") (by walk_at "lk") (by walk_at "lk") (by walk_at "lk") hw0 hra (by omega) NR (by have := fact.len; omega) (by omega) fun g₃ h₃ tk₃ b nr' hg₃ Nb F₃ => ?_)
  rw [← hnx] at Nb
  dsimp only
  have NR₃ := NR.keep hg₃
  have hra₃ : (rr ++ [b])[j]? = some ra := by rw [List.getElem?_append_left (by omega)]; exact hra
  have hrb₃ : (rr ++ [b])[j + 1]? = some b := by rw [← hrl]; simp
  have hm₃ : (lr, lobj ((rr ++ [b]).map Value.ref) nr') ∈ [(I, oI), (lt, lobj (tr.map Value.ref) nt)] ++ [(lr, lobj ((rr ++ [b]).map Value.ref) nr')] := by simp
  refine wpAny_execs_cons (t_first (ti := tv) (G.keeps hg₃) hA hfr F₃ hm₃ (by walk_at "lk") (by walk_at "lk") hra₃ hrb₃ (by omega) NR₃ Nb fact.len fact.len' fact.p4 fun g₄ h₄ tk₄ rt lm la nm na mis hg₄ hrt hlm hla pm F₄ => ?_)
  dsimp only
  have NR₄ := NR₃.keep hg₄
  have Nb₄ := Nb.keep hg₄
  have G₄ := (G.keeps hg₃).keeps hg₄
  refine wpAny_execs_cons (t_ftest (ti := tv) G₄ hA F₄ hm₃ (by walk_at "lk") (by walk_at "lk") hra₃ (by omega) NR₄ fact.len (by walk_at "lk") hrt hlm hla pm fun h₅ tk₅ F₅ => ?_)
  dsimp only
  refine wpAny_execs_cons (t_diff (ti := tv) G₄ hA hfr F₅ hm₃ (by walk_at "lk") (by walk_at "lk") hra₃ hrb₃ (by omega) NR₄ Nb₄ fact.len fact.len' fact.p3 fun g₆ h₆ tk₆ lg lc hg₆ Ng Nc F₆ => ?_)
  dsimp only
  have NR₆ := NR₄.keep hg₆
  have Nb₆ := Nb₄.keep hg₆
  have G₆ := G₄.keeps hg₆
  refine wpAny_execs_cons (t_dtest (ti := tv) G₆ hA F₆ hm₃ (by walk_at "lk") (by walk_at "lk") hra₃ hrb₃ (by omega) NR₆ Nb₆ fact.len fact.len' (by walk_at "lk") (by walk_at "lk") Ng Nc fun h₇ tk₇ F₇ => ?_)
  dsimp only
  have e06 : Ext g g₆ := fun b o e => hg₆ _ _ (hg₄ _ _ (hg₃ _ _ e))
  refine wpAny_execs_cons (t_change (wt := wt) (tw := tw) (let ⟨o, ho⟩ := hsm; ⟨o, e06 _ _ ho⟩) hA F₇ (by walk_at "lk") (by walk_at "lk") (by walk_at "lk") Ng Nc fact.lc fact.lg fun g₈ h₈ tk₈ D hg₈ TD F₈ => ?_)
  dsimp only
  have e08 : Ext g g₈ := fun b o e => hg₈ _ _ (e06 _ _ e)
  refine wpAny_execs_cons (t_tabs (pre := [(I, oI)]) (post := [(lr, lobj ((rr ++ [b]).map Value.ref) nr')]) (ti := tv) (G₆.keeps hg₈) hA F₈ (by walk_at "lk") (by walk_at "lk") (by walk_at "lk") hta (by omega) (TT.keep e08) TD fact.small (by omega) fun g₉ h₉ tk₉ b' nt' hg₉ Tb F₉ => ?_)
  dsimp only
  rw [fact.add] at Tb
  have e09 : Ext g g₉ := fun b o e => hg₉ _ _ (e08 _ _ e)
  refine wpAny_execs_nil ⟨g₉, _, _, h₉, tk₉, rfl, e09, F₉, tr ++ [b'], rr ++ [b], nt', nr', tw, tkk, rfl, by walk_at "lk", by walk_at "lk", by walk_at "lk", by walk_at "lk", ?_, ?_⟩
  · rw [range_snoc rowAt (j + 1)]
    exact (AR.mono fun a x n => n.keep e09).snoc (Nb₆.keep fun b o e => hg₉ _ _ (hg₈ _ _ e))
  · rw [range_snoc tabAt (j + 1)]
    exact (AT.mono fun a x n => n.keep e09).snoc Tb
end
end
section
local macro_rules | `(tactic| walk_at "lk") => `(tactic| first | exact put_eq | (refine (put_ne (by decide)).trans ?_; walk_at "lk") | assumption | rfl)
open SeqAt (EqAt RcAt RcNeAt)
/-- a ref to a tuple of two ints -/
def PT (h : Heap) (v : Value) (p : Int × Int) : Prop := ∃ b t t', v = .ref b ∧ h.get? b = some { cls := .type "tuple", data := .seq #[.int p.1 t, .int p.2 t'] }
theorem PT.keep {h h' : Heap} {v : Value} {p : Int × Int} (x : PT h v p) (e : Ext h h') : PT h' v p := let ⟨b, t, t', h1, h2⟩ := x; ⟨b, t, t', h1, e _ _ h2⟩
def PTs (h : Heap) (vs : List Value) (ps : List (Int × Int)) : Prop := vs.length = ps.length ∧ ∀ (j : Nat) v p, vs[j]? = some v → ps[j]? = some p → PT h v p
theorem eqAt_pt {A : Around} {s : Shared} {v u : Value} {p : Int × Int} (hv : PT s.heap v p) (hu : PT s.heap u p) (hA : A.units + 50 < cLine) : EqAt A s v u true := by
  obtain ⟨b, t, t', rfl, hb⟩ := hv
  obtain ⟨c, w, w', rfl, hc⟩ := hu
  by_cases q : b = c
  · subst q; exact EqAt.same _
  refine EqAt.of_refs q ?_
  have := RcAt.tuples (A := A) (s := s) (l := b) (b := c) (items := #[.int p.1 t, .int p.2 t']) (items2 := #[.int p.1 w, .int p.2 w']) (e := fun _ => true) ⟨_, hb, rfl, 0, rfl⟩ ⟨_, hc, rfl, 0, rfl⟩ (by omega) fun j h1 h2 => ?_
  · exact this
  · match j, h1, h2 with
    | 0, _, _ =>
      have := (MeetsSeq.EqGives.int p.1 p.1 t w).at A.in1 s
      rw [beq_self_eq_true] at this
      exact this
    | 1, _, _ =>
      have := (MeetsSeq.EqGives.int p.2 p.2 t' w').at A.in1 s
      rw [beq_self_eq_true] at this
      exact this
theorem ne_pts {prog : Program} {w : World} {A : Around} {E : Value → Shared → Prop} {s : Shared} {Q : Value → Shared → Prop} {l m : Addr} {vs us : List Value} {ps : List (Int × Int)} (hl : s.heap.IsList l vs.toArray) (hm : s.heap.IsList m us.toArray) (p : PTs s.heap vs ps) (q : PTs s.heap us ps) (hu : A.units + 100 < cLine) (h : Q (.bool false) s) :
    wpAny (model prog w) A (compareOp .NotEq (.ref l) (.ref m)) Q E s := by
  have hsz : vs.toArray.size = us.toArray.size := by simp [p.1, q.1]
  refine cmp_ofNotEq (RcNeAt.lists (A := A) (s := s) (l := l) (b := m) (items := vs.toArray) (items2 := us.toArray) (e := fun _ => true) hl hm hsz (by omega) (fun j h1 h2 => ?_) _ _ _ _ ?_)
  · have h1' : j < vs.length := by simpa using h1
    have hp : j < ps.length := by rw [← p.1]; exact h1'
    exact eqAt_pt (p := ps[j]) (p.2 j _ _ (by simp) (by simp)) (q.2 j _ _ (by simp) (by simp)) (by show A.units + 1 + 50 < cLine; omega)
  · have e : (!(List.range vs.toArray.size).all fun _ => true) = false := by rw [List.all_eq_true.mpr (fun _ _ => rfl)]; rfl
    rw [e]; exact h
theorem isInt_of {n : Int} {v : Value} (h : Value.isInt n v = true) : ∃ t, v = .int n t := by
  cases v <;> simp [Value.isInt] at h
  subst h; exact ⟨_, rfl⟩
def sBody : List Stmt := match lSt 5 with
  | .For _ _ b _ _ => b
  | _ => []
def sSt : Stmt := sBody.getD 0 (.Pass ⟨0,0,0,0⟩)
def tabOf (wt : Int) (rs : List (List Int)) (row : List Int) : List (Int × Int) := (metL rs).map fun x => (x, wt * ((row.count x : Nat) : Int))
theorem rl_of {h : Heap} {r : Addr} {rr : List Addr} {rs : List (List Int)} {n : Nat} (hr : h.get? r = some (lobj (rr.map Value.ref) n)) (a : Al (NL h) rr rs) : RL h r rs := ⟨rr, n, hr, a.1, fun i b x h1 h2 => a.2 i b x h1 h2⟩
theorem Al.take {α : Type} {P : Addr → α → Prop} {as : List Addr} {xs : List α} (h : Al P as xs) (n : Nat) : Al P (as.take n) (xs.take n) := by
  refine ⟨by simp [h.1], fun i a x h1 h2 => ?_⟩
  rw [List.getElem?_take] at h1 h2
  split at h1
  · rename_i hi; rw [if_pos hi] at h2; exact h.2 i a x h1 h2
  · cases h1
section
variable {prog : Program} {w : World} {A : Around} {E : Value → Shared → Prop} {s : Shared} {L fa : Addr} {cd : Value} {g : Heap} {σ : Str → Option Value} {mu : List (Addr × Obj)} {Q : Flow → Shared → Prop} {mg mb : Str → Option Value} {lt lr ta ra : Addr} {tr rr : List Addr} {nt nr i : Nat} {ti tw : Tok} {wt : Int} {row : List Int} {rs : List (List Int)}
set_option maxHeartbeats 4000000 in
theorem s_test (G : Gd mg mb g) (hA : Okk A 1) (F : LS g (lenv L fa cd) (lcs L) s.heap σ mu) (hmr : (lr, lobj (rr.map Value.ref) nr) ∈ mu) (hmt : (lt, lobj (tr.map Value.ref) nt) ∈ mu) (hr : σ "rows" = some (.ref lr)) (ht : σ "tables" = some (.ref lt)) (hw : σ "weight" = some (.int wt tw)) (hi : σ "i" = some (.int (i : Nat) ti))
    (hra : rr[i]? = some ra) (hta : tr[i]? = some ta) (hib : i ≤ 1000) (N : NL g ra row) (hlen : row.length ≤ 400) (AR : Al (NL g) (rr.take (i + 1)) rs) (hflat : rs.flatten.length ≤ 1000) (hrl : rr.length ≤ 1000) (T : Tab prog w g ta (tabOf wt rs row))
    (k : ∀ h tk, LS g (lenv L fa cd) (lcs L) h σ mu → Q .next { s with heap := h, toks := tk }) :
    wpAny (model prog w) A (exec sSt (lenv L fa cd)) Q E s := by
  have hu := hA.units
  have hml : (metL rs).length ≤ 1000 := by
    have := metR_length rs []
    simp only [List.length_nil, Nat.zero_add] at this
    change (metL rs).length ≤ _ at this
    omega
  obtain ⟨hds, vals, hd, hvals⟩ := T
  have hvl : vals.length = (metL rs).length := by have := congrArg List.length hvals; simpa [tabOf] using this
  obtain ⟨ep, hd₀⟩ := hd.dictAt
  refine wpAny_If (wpAny_isTrue_Compare1 (tC1 G F boot_list (wpAny_Call_items (knd := intKind prog w) hds (hd.keep F.keep) rfl rfl (fun Q' hq => evAt F hmt ht hi hta hib hq (.inl rfl) (.inr (c_i L))) ?_)))
  have F₁ := (F.push { cls := .type "dict_items", data := .fields #[.ref ta] }).tail
  have hv₁ : (s.heap.push { cls := .type "dict_items", data := .fields #[.ref ta] }).IsItemsView s.heap.objs.size ta := ⟨_, Heap.get?_push_size _ rfl, rfl, rfl⟩
  generalize s.heap.push { cls := .type "dict_items", data := .fields #[.ref ta] } = h₁ at F₁ hv₁ ⊢
  generalize s.heap.objs.size = r₁ at hv₁ ⊢
  refine kdx_call (s := { s with heap := h₁ }) (knd := intKind prog w) hA.hh hv₁ (hd₀.keep F₁.keep) (by rw [sl, length_intPairs]; omega) fun h₂ tk₂ acc c as hx₂ hl₂ hal KG hacc => ?_
  dsimp only at hx₂ hl₂ KG
  dsimp only
  have F₂ := F₁.ext hx₂
  generalize h₁.objs.size = l1 at hl₂ KG ⊢
  have p₂ : PTs h₂ (as.map Value.ref) (tabOf wt rs row) := by
    refine ⟨by rw [List.length_map, hal, length_intPairs, hvl]; simp [tabOf], fun j v p h1 h2 => ?_⟩
    rw [List.getElem?_map] at h1
    cases q : as[j]? with
    | none => rw [q] at h1; cases h1
    | some a =>
      rw [q] at h1; cases h1
      obtain ⟨key, kk, x, h3, h4, h5⟩ := KG.pairs j a q
      obtain ⟨n, t, rfl, h6⟩ := intPairs_get vals j kk x h3
      obtain ⟨t', rfl⟩ := isInt_of (by simpa [intKind] using h4)
      have : (vals.map fun x => (x.1, x.2.1))[j]? = some (kk, n) := by rw [List.getElem?_map, h6]; rfl
      rw [hvals, h2] at this
      cases this
      exact ⟨a, t', t, rfl, h5⟩
  have hlr₂ : IsL h₂ lr (rr.map Value.ref).toArray nr := F₂.led (lr, lobj (rr.map Value.ref) nr) hmr
  refine evComp (cl := [("weight", L + 1), ("rows", L + 1 + 1), ("i", L + 1 + 1 + 1)]) rfl rfl (by decide) (cDef dMet G F₂ (by unfold recs; simp) rfl fun f1 hf1 => args_cons (evSl (nC F₂ hr (evalPart_none_step (evalPart_some_step (wpAny_BinOp (nC F₂ hi (wpAny_Constant_int (PyProof.Rows.add_int (evalPart_none_step ⟨lr, (rr.map Value.ref).toArray, none, some ((i : Int) + 1), none, rfl, IsL.isList hlr₂, by rw [sl]; simp; omega, .none, .int _ _, .none, by simp, ?_⟩))) (c_i L))))) (c_rows L))))
  intro h₃ r₃ hx₃ hr₃ hro₃
  dsimp only at hx₃ hr₃
  rw [show (i : Int) + 1 = ((i + 1 : Nat) : Int) by push_cast; rfl, slicePick_upto'] at hro₃
  have e₃ : ((rr.map Value.ref).toArray.toList.take (i + 1)).toArray.toList = (rr.take (i + 1)).map Value.ref := by simp [List.map_take]
  rw [e₃] at hro₃
  have F₃ := F₂.ext hx₃
  refine args_nil ⟨F₃.keep, ?_⟩
  refine met_spec (s := { s with heap := h₃, toks := _ }) (G.keeps F₃.keep) hA hf1 (rl_of hro₃ (AR.mono fun a x n => n.keep F₃.keep)) hflat fun h₄ tk₄ r₄ hx₄ hr₄ N₄ => ?_
  dsimp only at hx₄ hr₄
  dsimp only
  have F₄ := F₃.ext hx₄
  obtain ⟨ms, nm, hms, hIm⟩ := N₄
  have hmsl := hIm.length
  have hlr₄ : h₄.get? lr = some (lobj (rr.map Value.ref) nr) := F₄.led (lr, lobj (rr.map Value.ref) nr) hmr
  have hcw : h₄.IsCell (L + 1) (some (.int wt tw)) := hw ▸ F₄.cl "weight" (L + 1) (by simp)
  have hcr : h₄.IsCell (L + 1 + 1) (some (.ref lr)) := hr ▸ F₄.cl "rows" (L + 1 + 1) (by simp)
  have hci : h₄.IsCell (L + 1 + 1 + 1) (some (.int (i : Nat) ti)) := hi ▸ F₄.cl "i" (L + 1 + 1 + 1) (by simp)
  have Nr₄ : NL h₄ ra row := N.keep F₄.keep
  refine compOverList (s₁ := { s with heap := h₄, toks := tk₄ }) hA.hh (IsL.isList hms) (by simp; omega) (by decide) rfl rfl
    (fun j g₁ ys => ys.length = j ∧ ∀ (m : Nat) v x, ys[m]? = some v → (metL rs)[m]? = some x → PT g₁ v (x, wt * ((row.count x : Nat) : Int))) (fun g₁ hg => ⟨rfl, fun m v x h => by simp at h⟩) ?_ ?_
  · rintro C D I j v g₁ ys τ oI nD h tk E' hv hyl hD hC hI' hg ⟨hyj, hP⟩ F'
    dsimp only at hD hC hI' hg
    obtain ⟨x, t, rfl, hx⟩ := hIm.at j v (by simpa using hv)
    refine tst_nil ?_
    rw [if_pos rfl]
    have hNr : NL h ra row := Nr₄.keep fun b o e => F'.keep _ _ (hg _ _ e)
    have hb1 : row.count x ≤ 400 := Nat.le_trans List.count_le_length hlen
    refine Tuple_ (args_cons (nL F' (by walk_at "lk") (args_cons (wpAny_BinOp (nK F' (c := L + 1) rfl (hcw.keeps hg) (mCount rfl rfl rfl (evItem (fun _ _ _ => rfl) (nK F' (c := L + 1 + 1) rfl (hcr.keeps hg) (nK F' (c := L + 1 + 1 + 1) rfl (hci.keeps hg) ⟨lr, (rr.map Value.ref).toArray, i, ti, .ref ra, rfl, rfl, IsL.isList (F'.keep _ _ (hg _ _ hlr₄)), by omega, by omega, refs_at (by simpa using hra),
      ra, row, rfl, hNr, nL F' (by walk_at "lk") ⟨x, t, rfl, hNr, PyProof.Rows.mul_int (args_nil (wpAny_newObj_type ?_)) (IntMulOk.of_right (intBits_le_64 (by omega) (by omega)))⟩⟩)))))))))
    dsimp only
    have F₅ := (F'.push { cls := .type "tuple", data := .seq #[.int x t, .int (wt * ((row.count x : Nat) : Int)) (tk + 1)] }).tail
    have ho₅ : (h.push { cls := .type "tuple", data := .seq #[.int x t, .int (wt * ((row.count x : Nat) : Int)) (tk + 1)] }).get? h.objs.size = some { cls := .type "tuple", data := .seq #[.int x t, .int (wt * ((row.count x : Nat) : Int)) (tk + 1)] } := Heap.get?_push_size _ rfl
    obtain ⟨g₂, hgg, F₆, hfr', _, _⟩ := F₅.rebase
    refine ⟨_, _, g₂, _, rfl, hgg, F₆, by simp [hyj], fun m v y h1 h2 => ?_⟩
    by_cases hm : m < ys.length
    · rw [List.getElem?_append_left hm] at h1; exact (hP m v y h1 h2).keep hgg
    · have hm' : m = ys.length := by have := (List.getElem?_eq_some_iff.mp h1).1; simp at this; omega
      subst hm'
      simp at h1; subst h1
      rw [hyj, hx] at h2; cases h2
      exact ⟨h.objs.size, t, tk + 1, rfl, hfr' _ _ (F'.fresh (size_none h)) ho₅⟩
  · rintro D ys nD h tk g₁ hg hD hgD hDo hgh hyl ⟨hyj, hP⟩
    dsimp only at hg hD
    dsimp only
    have hx₅ : Ext h₄ h := fun b o e => hgh _ _ (hg _ _ e)
    have F₅ := F₄.ext hx₅
    have e25 : Ext h₂ h := fun b o e => hx₅ _ _ (hx₄ _ _ (hx₃ _ _ e))
    have hl1 : h.IsList l1 (as.map Value.ref).toArray := ⟨_, e25 _ _ hl₂, rfl, c, by rw [← hacc]⟩
    refine ne_pts (ps := tabOf wt rs row) hl1 (IsL.isList hDo) ⟨p₂.1, fun j v p h1 h2 => (p₂.2 j v p h1 h2).keep e25⟩ ⟨?_, fun j v p h1 h2 => ?_⟩ (by omega) (wpAny_truthy_bool ?_)
    · rw [hyj]; simp [tabOf, hmsl]
    · unfold tabOf at h2
      rw [List.getElem?_map] at h2
      cases q : (metL rs)[j]? with
      | none => rw [q] at h2; cases h2
      | some x => rw [q] at h2; cases h2; exact (hP j v x h1 q).keep hgh
    · rw [if_neg (by simp)]
      exact wpAny_execs_nil (k h _ F₅)
end
end
section
local macro_rules | `(tactic| walk_at "lk") => `(tactic| first | exact put_eq | (refine (put_ne (by decide)).trans ?_; walk_at "lk") | assumption | rfl)
def kOf (n : Nat) : Nat := 2 + min 2 (n / 3)
def nnOf (kk : Nat) : Nat := kk * (kk + 1) / 2
def wtOf (ns : List Int) : Int := if ns.sum = 0 then 1 else ns.sum
theorem kOf_le (n : Nat) : kOf n ≤ 4 := by unfold kOf; omega
theorem kOf_ge (n : Nat) : 2 ≤ kOf n := by unfold kOf; omega
theorem fdiv3 (n : Nat) : ((n : Int)).fdiv 3 = ((n / 3 : Nat) : Int) := by
  rw [Int.fdiv_eq_ediv_of_nonneg _ (by omega)]; rfl
section
variable {prog : Program} {w : World} {A : Around} {E : Value → Shared → Prop} {s : Shared} {L fa : Addr} {cd : Value} {g : Heap} {σ : Str → Option Value} {mu : List (Addr × Obj)} {Q : Flow → Shared → Prop} {mg mb : Str → Option Value} {l : Addr} {vs : List Value} {script : List Int} {kk : Nat} {tkk tw : Tok} {wt : Int}
theorem l_k (G : Gd mg mb g) (hh : A.handled = none) (F : LS g (lenv L fa cd) (lcs L) s.heap σ mu) (hsc : σ "script" = some (.ref l)) (hl : g.IsList l vs.toArray) (hvl : vs.length ≤ 1000)
    (k : ∀ h tk t, LS g (lenv L fa cd) (lcs L) h (put σ "k" (.int ((kOf vs.length : Nat) : Int) t)) mu → Q .next { s with heap := h, toks := tk }) :
    wpAny (model prog w) A (exec (lSt 0) (lenv L fa cd)) Q E s := by
  have F₀ : ∀ tk, LS g (lenv L fa cd) (lcs L) ({ s with toks := tk } : Shared).heap σ mu := fun _ => F
  refine wpAny_Assign_Name (wpAny_BinOp (wpAny_Constant_int (bC2 G (F₀ _) boot_min (wpAny_Constant_int (wpAny_BinOp (bC1 G (F₀ _) boot_len (nL (F₀ _) hsc (call_len_list (hl.at fun o e => F.keep _ _ e) (by simp; omega) (wpAny_Constant_int (floordiv_int (by decide) ?_ (.inl (PyProof.noPylong_small (by decide)))))))))))))
  refine min_two_ints hh fun h₁ tk₁ hx₁ => ?_
  have F₁ := F.ext hx₁
  dsimp only
  have hm : ∃ t, (if ((vs.toArray.size : Nat) : Int).fdiv 3 < 2 then Value.int (((vs.toArray.size : Nat) : Int).fdiv 3) (s.toks + 1 + 1 + 1 + 1 + 1) else Value.int 2 (s.toks + 1)) = .int ((min 2 (vs.length / 3) : Nat) : Int) t := by
    rw [show vs.toArray.size = vs.length by simp, fdiv3]
    split
    · exact ⟨_, by congr 1; omega⟩
    · exact ⟨_, by congr 1; omega⟩
  obtain ⟨t, ht⟩ := hm
  rw [ht]
  refine PyProof.Rows.add_int (sL F₁ fun h₂ tk₂ F₂ => ?_)
  have e : (2 : Int) + ((min 2 (vs.length / 3) : Nat) : Int) = ((kOf vs.length : Nat) : Int) := by unfold kOf; omega
  rw [e] at F₂
  exact k h₂ _ _ F₂
theorem l_weight (G : Gd mg mb g) (hh : A.handled = none) (F : LS g (lenv L fa cd) (lcs L) s.heap σ mu) (hsc : σ "script" = some (.ref l)) (hl : g.IsList l vs.toArray) (hI : IntsAre vs script)
    (k : ∀ h tk t, LS g (lenv L fa cd) (lcs L) h (put σ "weight" (.int (wtOf script) t)) mu → Q .next { s with heap := h, toks := tk }) :
    wpAny (model prog w) A (exec (lSt 1) (lenv L fa cd)) Q E s := by
  refine wpAny_Assign_Name (wpAny_Or2 (bC1 G F boot_sum (nL F hsc (call_sumL hh (hl.at fun o e => F.keep _ _ e) hI fun h₁ tk₁ t hx₁ => ?_))))
  have F₁ := F.ext hx₁
  refine PyProof.Rows.truthy_int ?_
  by_cases h0 : script.sum = 0
  · rw [h0, if_neg (by decide)]
    refine wpAny_Constant_int (sC F₁ (c_weight L) fun h₂ tk₂ F₂ => ?_)
    have e : (1 : Int) = wtOf script := by unfold wtOf; rw [if_pos h0]
    rw [e] at F₂
    exact k h₂ tk₂ _ F₂
  · rw [if_pos (by simpa using h0)]
    refine sC F₁ (c_weight L) fun h₂ tk₂ F₂ => k h₂ tk₂ t ?_
    unfold wtOf; rw [if_neg h0]; exact F₂
theorem nn_int (kk : Nat) : (((kk : Nat) : Int) * (((kk : Nat) : Int) + 1)).fdiv 2 = ((nnOf kk : Nat) : Int) := by
  rw [Int.fdiv_eq_ediv_of_nonneg _ (by omega)]
  unfold nnOf
  push_cast
  rfl
set_option maxHeartbeats 2000000 in
theorem l_rows (G : Gd mg mb g) (hA : Okk A 1) (F : LS g (lenv L fa cd) (lcs L) s.heap σ mu) (hsc : σ "script" = some (.ref l)) (hk : σ "k" = some (.int (kk : Nat) tkk)) (hl : g.IsList l vs.toArray) (hI : IntsAre vs script) (hs1 : script.length ≤ 1000) (hk1 : 1 ≤ kk) (hk2 : kk ≤ 4)
    (k : ∀ g' h tk b lr, Ext g g' → NL g' b (pilesL script (nnOf kk)) → LS g' (lenv L fa cd) (lcs L) h (put σ "rows" (.ref lr)) ((lr, lobj ([b].map Value.ref) 0) :: mu) → Q .next { s with heap := h, toks := tk }) :
    wpAny (model prog w) A (exec (lSt 2) (lenv L fa cd)) Q E s := by
  have F₀ : ∀ tk, LS g (lenv L fa cd) (lcs L) ({ s with toks := tk } : Shared).heap σ mu := fun _ => F
  have hb : Builtin.Int.intBits (kk : Int) ≤ 64 := intBits_le_64 (by omega) (by omega)
  have hnn : 0 < nnOf kk ∧ nnOf kk ≤ 1000 := by
    have : kk = 1 ∨ kk = 2 ∨ kk = 3 ∨ kk = 4 := by omega
    rcases this with rfl | rfl | rfl | rfl <;> decide
  refine wpAny_Assign_Name (List_ (args_cons (cDef dPiles G F (by unfold recs; simp) rfl fun f1 hf1 => args_cons (nL F hsc (args_cons (wpAny_BinOp (wpAny_BinOp (nL F hk (wpAny_BinOp (nL F hk (wpAny_Constant_int (PyProof.Rows.add_int (PyProof.Rows.mul_int (wpAny_Constant_int (floordiv_int (by decide) ?_ (.inl (PyProof.noPylong_small (by decide))))) (IntMulOk.of_left hb))))))))))))))
  refine args_nil ⟨F.keep, ?_⟩
  rw [nn_int]
  refine piles_spec (G.keeps F.keep) hA hf1 (hl.at fun o e => F.keep _ _ e) hI hs1 hnn.1 hnn.2 fun h₁ tk₁ b hx₁ hb₁ N₁ => ?_
  dsimp only at hx₁ hb₁
  dsimp only
  have F₁ := F.ext hx₁
  obtain ⟨g', hgg, F₂, hfr', _, _⟩ := F₁.rebase
  have N₂ : NL g' b (pilesL script (nnOf kk)) := N₁.at fun o e => hfr' _ _ (F.fresh hb₁) e
  refine args_nil (wpAny_newObj_type ?_)
  dsimp only
  have F₃ := F₂.push (lobj ([b].map Value.ref) 0)
  refine sC F₃ (c_rows L) fun h₄ tk₄ F₄ => ?_
  exact k g' h₄ tk₄ b _ hgg N₂ F₄
set_option maxHeartbeats 2000000 in
theorem l_tables (G : Gd mg mb g) (hA : Okk A 2) {row : List Int} {b lr : Addr} {nr : Nat} (F : LS g (lenv L fa cd) (lcs L) s.heap σ mu) (hm : (lr, lobj ([b].map Value.ref) nr) ∈ mu) (hr : σ "rows" = some (.ref lr)) (hw : σ "weight" = some (.int wt tw)) (N : NL g b row) (hlen : row.length ≤ 400)
    (k : ∀ g' h tk t lt, Ext g g' → Tab prog w g' t (row.foldl (fun a n => bump a n wt) []) → LS g' (lenv L fa cd) (lcs L) h (put σ "tables" (.ref lt)) ((lt, lobj ([t].map Value.ref) 0) :: mu) → Q .next { s with heap := h, toks := tk }) :
    wpAny (model prog w) A (exec (lSt 3) (lenv L fa cd)) Q E s := by
  refine wpAny_Assign_Name (List_ (args_cons (cDef dLaid G F (by unfold recs; simp) rfl fun f1 hf1 => args_cons (wpAny_Dict_empty (args_cons ?_)))))
  have F₁ := (F.push { cls := .type "dict", data := .dict #[] }).tail
  have hDs : (s.heap.objs.size == sysModules) = false := beq_false_of_ne (Nat.ne_of_gt (modules_low (G.keeps F.keep).nolimit))
  have T₁ : Tab prog w (s.heap.push { cls := .type "dict", data := .dict #[] }) s.heap.objs.size [] := ⟨hDs, [], Heap.dictOf_iff.mpr ⟨_, Heap.get?_push_size _ rfl, newDict_is prog w⟩, rfl⟩
  have hDf := size_none s.heap
  generalize s.heap.push { cls := .type "dict", data := .dict #[] } = h₁ at F₁ T₁ ⊢
  generalize s.heap.objs.size = d at T₁ hDf ⊢
  have hlr : IsL h₁ lr ([b].map Value.ref).toArray nr := F₁.led (lr, lobj ([b].map Value.ref) nr) hm
  have hw₁ := hw
  refine evItem (fun _ _ _ => rfl) (nC F₁ hr (wpAny_Constant_int ⟨lr, ([b].map Value.ref).toArray, 0, _, .ref b, rfl, rfl, IsL.isList hlr, by omega, by omega, rfl, args_cons (nC F₁ hw (args_nil ⟨F₁.keep, ?_⟩) (c_weight L))⟩) (c_rows L))
  refine laid_spec (s := { s with heap := h₁, toks := _ }) (G.keeps F₁.keep) hA hf1 T₁ (N.keep F₁.keep) (by simp; omega) fun h₂ tk₂ t hx₂ ht₂ T₂ => ?_
  dsimp only at hx₂ ht₂
  dsimp only
  have F₂ := F₁.ext hx₂
  obtain ⟨g', hgg, F₃, hfr', _, _⟩ := F₂.rebase
  have htf : t ∉ fence (lenv L fa cd) (lcs L) mu := by
    rcases ht₂ with h | h
    · exact F₁.fresh h
    · rw [h]; exact F.fresh hDf
  have T₃ := T₂.at (h' := g') fun o e => hfr' _ _ htf e
  refine args_nil (wpAny_newObj_type ?_)
  dsimp only
  have F₄ := F₃.push (lobj ([t].map Value.ref) 0)
  refine sL F₄ fun h₄ tk₄ F₅ => ?_
  exact k g' h₄ tk₄ t _ hgg T₃ F₅
end
end
section
local macro_rules | `(tactic| walk_at "lk") => `(tactic| first | exact put_eq | (refine (put_ne (by decide)).trans ?_; walk_at "lk") | assumption | rfl)
/-- what the plain numbers of the whole law fulfil -/
structure LF (script : List Int) (kk m : Nat) (wt : Int) (rowAt : Nat → List Int) (tabAt : Nat → List (Int × Int)) : Prop where
  hm : m + kk = kk * kk + 1
  base : rowAt 0 = pilesL script (nnOf kk)
  tab0 : (rowAt 0).foldl (fun a n => bump a n wt) [] = tabAt 0
  tabs : ∀ j, j ≤ m → tabAt j = tabOf wt ((List.range (j + 1)).map rowAt) (rowAt j)
  facts : ∀ j, j < m → Fact wt (rowAt j) (rowAt (j + 1)) (tabAt j) (tabAt (j + 1))
  flat : ∀ j, j ≤ m → ((List.range (j + 1)).map rowAt).flatten.length ≤ 1000
  len : ∀ j, j ≤ m → (rowAt j).length ≤ 60
  end1 : ∀ ns : List Int, ns.Perm (rowAt (m - 1)) → ns.Pairwise (· ≤ ·) → ns = (List.range kk).map (fun (i : Nat) => 1 + (i : Int) * 1)
  end2 : ∀ ns : List Int, ns.Perm (rowAt m) → ns.Pairwise (· ≤ ·) → ns = (List.range kk).map (fun (i : Nat) => 1 + (i : Int) * 1)
section
variable {prog : Program} {w : World} {A : Around} {E : Value → Shared → Prop} {s : Shared} {L fa : Addr} {cd : Value} {g : Heap} {σ : Str → Option Value} {mu : List (Addr × Obj)} {Q : Flow → Shared → Prop} {mg mb : Str → Option Value} {lt lr : Addr} {script : List Int} {kk m : Nat} {wt : Int} {rowAt : Nat → List Int} {tabAt : Nat → List (Int × Int)}
set_option maxHeartbeats 2000000 in
theorem l_loop1 (G : Gd mg mb g) (hsm : ∃ o, g.get? sysModules = some o) (hA : Okk A 1) (hfr : A.frames = some [lenv L fa cd]) (hw0 : wt ≠ 0) (hk4 : kk ≤ 4) (lf : LF script kk m wt rowAt tabAt) (F : LS g (lenv L fa cd) (lcs L) s.heap σ mu) (hJ : Inv prog w lt lr wt kk rowAt tabAt 0 g σ mu)
    (k : ∀ g' σ' mu' h tk, Ext g g' → Inv prog w lt lr wt kk rowAt tabAt m g' σ' mu' → LS g' (lenv L fa cd) (lcs L) h σ' mu' → Q .next { s with heap := h, toks := tk }) :
    wpAny (model prog w) A (exec (lSt 4) (lenv L fa cd)) Q E s := by
  obtain ⟨tr, rr, nt, nr, tw, tkk, rfl, hr, ht, hw, hkk, AR, AT⟩ := id hJ
  have hb : Builtin.Int.intBits (kk : Int) ≤ 64 := intBits_le_64 (by omega) (by omega)
  have hm := lf.hm
  have hm100 : m ≤ 100 := by
    have : kk * kk ≤ 4 * 4 := Nat.mul_le_mul hk4 hk4
    omega
  have hmi : (kk : Int) * (kk : Int) - (kk : Int) + 1 = ((m : Nat) : Int) := by
    have : ((m + kk : Nat) : Int) = ((kk * kk + 1 : Nat) : Int) := by rw [hm]
    push_cast at this
    omega
  refine wpAny_For (tC1 G F boot_range (wpAny_BinOp (wpAny_BinOp (wpAny_BinOp (nL F hkk (nL F hkk (PyProof.Rows.mul_int (nL (s := { s with toks := s.toks + 1 }) F hkk (PyProof.Rows.sub_int (wpAny_Constant_int (PyProof.Rows.add_int (call_range_1 ?_))))) (IntMulOk.of_left hb))))))))
  dsimp only
  rw [hmi]
  have F₁ := (F.push { cls := .type "range", data := .fields #[.int 0 (s.toks + 1 + 1 + 1 + 1), .int (m : Nat) (s.toks + 1 + 1 + 1), .int 1 (s.toks + 1 + 1 + 1 + 1 + 1)] }).tail
  refine forRange (a := 0) (b := (m : Nat)) (c := 1) (n := m) F₁ hA.hh (IsRange.new ..) (small_one (by omega) (by omega) (by omega) (by omega)) (by rw [rangeSize_one]; split <;> omega) (.inr (c_i L)) (Inv prog w lt lr wt kk rowAt tabAt) hJ ?_ ?_
  · intro i tv g' σ' mu' I oI h tk E' hi hg hJ' F'
    have e : (0 : Int) + (i : Int) * 1 = (i : Nat) := by omega
    rw [e] at F'
    exact t_turn (G.keeps hg) (let ⟨o, ho⟩ := hsm; ⟨o, hg _ _ ho⟩) hA hfr hw0 (by omega) (lf.facts i hi) hJ' F'
  · intro g' σ' mu' h tk hg hJ' F'
    exact k g' σ' mu' h tk hg hJ' F'
set_option maxHeartbeats 2000000 in
theorem l_loop2 (G : Gd mg mb g) (hA : Okk A 1) (hk4 : kk ≤ 4) (lf : LF script kk m wt rowAt tabAt) (F : LS g (lenv L fa cd) (lcs L) s.heap σ mu) (hJ : Inv prog w lt lr wt kk rowAt tabAt m g σ mu)
    (k : ∀ g' σ' mu' h tk, Ext g g' → Inv prog w lt lr wt kk rowAt tabAt m g' σ' mu' → LS g' (lenv L fa cd) (lcs L) h σ' mu' → Q .next { s with heap := h, toks := tk }) :
    wpAny (model prog w) A (exec (lSt 5) (lenv L fa cd)) Q E s := by
  obtain ⟨tr, rr, nt, nr, tw, tkk, rfl, hr, ht, hw, hkk, AR, AT⟩ := id hJ
  have hm := lf.hm
  have hm100 : m ≤ 100 := by
    have : kk * kk ≤ 4 * 4 := Nat.mul_le_mul hk4 hk4
    omega
  have hrl : rr.length = m + 1 := by rw [AR.1]; simp
  have hlr : IsL s.heap lr (rr.map Value.ref).toArray nr := F.led (lr, lobj (rr.map Value.ref) nr) (by simp)
  refine wpAny_For (tC1 G F boot_range (bC1 G F boot_len (nC F hr (call_len_list (IsL.isList hlr) (by simp; omega) (call_range_1 ?_)) (c_rows L))))
  dsimp only
  rw [show ((rr.map Value.ref).toArray.size : Nat) = m + 1 by simp [hrl]]
  have F₁ := (F.push { cls := .type "range", data := .fields #[.int 0 (s.toks + 1 + 1), .int ((m + 1 : Nat) : Int) (s.toks + 1), .int 1 (s.toks + 1 + 1 + 1)] }).tail
  refine forRange (a := 0) (b := ((m + 1 : Nat) : Int)) (c := 1) (n := m + 1) F₁ hA.hh (IsRange.new ..) (small_one (by omega) (by omega) (by omega) (by omega)) (by rw [rangeSize_one]; split <;> omega) (.inr (c_i L)) (fun _ => Inv prog w lt lr wt kk rowAt tabAt m) hJ ?_ ?_
  · intro i tv g' σ' mu' I oI h tk E' hi hg hJ' F'
    have e : (0 : Int) + (i : Int) * 1 = (i : Nat) := by omega
    rw [e] at F'
    obtain ⟨tr, rr, nt, nr, tw, tkk, rfl, hr, ht, hw, hkk, AR, AT⟩ := id hJ'
    obtain ⟨ra, hra, NR⟩ := AR.at (range_at rowAt (m + 1) i hi)
    obtain ⟨ta, hta, TT⟩ := AT.at (range_at tabAt (m + 1) i hi)
    rw [lf.tabs i (by omega)] at TT
    have hrl : rr.length = m + 1 := by rw [AR.1]; simp
    have ARt := AR.take (i + 1)
    have et : ((List.range (m + 1)).map rowAt).take (i + 1) = (List.range (i + 1)).map rowAt := by
      rw [← List.map_take, List.take_range, Nat.min_eq_left (by omega)]
    rw [et] at ARt
    show wpAny _ _ (execs [sSt] (lenv L fa cd)) _ _ _
    refine wpAny_execs_cons (s_test (lr := lr) (rr := rr) (nr := nr) (lt := lt) (tr := tr) (nt := nt) (tw := tw) (ti := tv) (G.keeps hg) hA F' (by simp) (by simp) (by walk_at "lk") (by walk_at "lk") (by walk_at "lk") (by walk_at "lk") hra hta (by omega) NR (by have := lf.len i (by omega); omega) ARt (lf.flat i (by omega)) (by omega) TT fun h₁ tk₁ F₁ => ?_)
    exact wpAny_execs_nil ⟨g', _, _, h₁, _, rfl, fun _ _ e => e, F₁, tr, rr, nt, nr, tw, tkk, rfl, by walk_at "lk", by walk_at "lk", by walk_at "lk", by walk_at "lk", AR, AT⟩
  · intro g' σ' mu' h tk hg hJ' F'
    exact k g' σ' mu' h tk hg hJ' F'
end
end
section
local macro_rules | `(tactic| walk_at "lk") => `(tactic| first | exact put_eq | (refine (put_ne (by decide)).trans ?_; walk_at "lk") | assumption | rfl)
section
variable {prog : Program} {w : World} {A : Around} {E : Value → Shared → Prop} {s : Shared} {env : Env} {value slice : Expr} {pos p : Pos} {Q : Value → Shared → Prop}
theorem evItemN (hsub : ∀ l k u, subscripted slice false (.ref l) (.int k u) = operate [.ref l, .int k u] (getItem (.ref l) (.int k u)))
    (h : wpAny (model prog w) A (eval value env) (fun o s₁ => wpAny (model prog w) A (eval slice env) (fun i s₂ => ∃ l items k u x, o = .ref l ∧ i = .int k u ∧ s₂.heap.IsList l items ∧ k < 0 ∧ -(items.size : Int) ≤ k ∧ -(2 ^ 63) ≤ k ∧ items[(k + items.size).toNat]? = some x ∧ Q x s₂) E s₁) E s) :
    wpAny (model prog w) A (eval (.Subscript value slice pos) env) Q E s := by
  refine Subscript_ (wpAny_mono h (fun o s₁ h₁ => wpAny_mono h₁ (fun i s₂ h₂ => ?_) fun _ _ x => x) fun _ _ x => x)
  obtain ⟨l, items, k, u, x, rfl, rfl, hl, h0, h1, hhi, hx, hq⟩ := h₂
  exact tail_any hl.typeIs slot_list_getitem.lookup (wpAny_getItem_list_neg hl h0 h1 hhi hx hq) (hsub l k u)
end
section
variable {prog : Program} {w : World} {A : Around} {E : Value → Shared → Prop} {s : Shared} {L fa : Addr} {cd : Value} {g : Heap} {σ : Str → Option Value} {mu : List (Addr × Obj)} {Q : Flow → Shared → Prop} {mg mb : Str → Option Value} {lt lr : Addr} {script : List Int} {kk m : Nat} {wt : Int} {rowAt : Nat → List Int} {tabAt : Nat → List (Int × Int)}
abbrev stairsL (kk : Nat) : List Int := (List.range kk).map (fun (i : Nat) => 1 + (i : Int) * 1)
set_option maxHeartbeats 2000000 in
theorem l_stairs (G : Gd mg mb g) (hA : Okk A 1) (hk4 : kk ≤ 4) {tkk : Tok} (F : LS g (lenv L fa cd) (lcs L) s.heap σ mu) (hk : σ "k" = some (.int (kk : Nat) tkk))
    (k : ∀ g' h tk ls, Ext g g' → NL g' ls (stairsL kk) → LS g' (lenv L fa cd) (lcs L) h (put σ "stairs" (.ref ls)) mu → Q .next { s with heap := h, toks := tk }) :
    wpAny (model prog w) A (exec (lSt 6) (lenv L fa cd)) Q E s := by
  have F₀ : ∀ tk, LS g (lenv L fa cd) (lcs L) ({ s with toks := tk } : Shared).heap σ mu := fun _ => F
  refine wpAny_Assign_Name (tC1 G F boot_list (tC2 G F boot_range (wpAny_Constant_int (wpAny_BinOp (nL (F₀ _) hk (wpAny_Constant_int (PyProof.Rows.add_int (call_range_2 ?_))))))))
  dsimp only
  generalize hob : ({ cls := .type "range", data := .fields #[.int 1 s.toks, .int ((kk : Nat) + 1) (s.toks + 1 + 1), .int 1 (s.toks + 1 + 1 + 1)] } : Obj) = ob
  have F₁ := F.ext (h' := s.heap.push ob) fun b o e => Heap.get?_push_of_some _ e
  refine call_list_range (n := kk) hA.hh (hob ▸ IsRange.new ..) (small_one (by omega) (by omega) (by omega) (by omega)) (by rw [rangeSize_one]; split <;> omega) (by omega) fun h₂ tk₂ acc c hx₂ hl₂ hacc => ?_
  dsimp only at hx₂ hl₂
  dsimp only
  have F₂ := F₁.ext hx₂
  obtain ⟨g', hgg, F₃, hfr', _, _⟩ := F₂.rebase
  have N : NL h₂ (s.heap.push ob).objs.size (stairsL kk) := ⟨acc.toList, c, hl₂, ints_of_items hacc⟩
  have hn := size_none (s.heap.push ob)
  generalize (s.heap.push ob).objs.size = ls at N hn ⊢
  refine sL F₃ fun h₄ tk₄ F₄ => k g' h₄ tk₄ ls hgg (N.at fun o e => hfr' _ _ (F₁.fresh hn) e) F₄
/-- «sorted(rows[-d])» -/
theorem sorted_of {Q : Value → Shared → Prop} {ra : Addr} {row : List Int} (N : NL s.heap ra row) (hlen : row.length < 64)
    (h : ∀ h' r ns, Ext s.heap h' → NL h' r ns → ns.Perm row → ns.Pairwise (· ≤ ·) → Q (.ref r) { s with heap := h' }) : wpAny (model prog w) A (call (.builtin "sorted") [.ref ra]) Q E s := by
  obtain ⟨vs, hl, hI⟩ := N.isList
  refine sorted_ints hl hI (by rw [hI.length]; exact hlen) fun out ns' h1 h2 h3 => ?_
  obtain ⟨e, he⟩ := sortedAll_at s.heap vs out
  exact h _ _ ns' (fun b o q => sortedAll_old q) ⟨out.toList, e, he, h1⟩ h2 h3
set_option maxHeartbeats 2000000 in
theorem l_ret (G : Gd mg mb g) (hA : Okk A 1) (hk4 : kk ≤ 4) (lf : LF script kk m wt rowAt tabAt) (F : LS g (lenv L fa cd) (lcs L) s.heap σ mu) {rr : List Addr} {nr : Nat} {ls : Addr} (hmr : (lr, lobj (rr.map Value.ref) nr) ∈ mu) (hr : σ "rows" = some (.ref lr)) (hs : σ "stairs" = some (.ref ls)) (Ns : NL g ls (stairsL kk)) (AR : Al (NL g) rr ((List.range (m + 1)).map rowAt)) (hm1 : 1 ≤ m)
    (k : ∀ h tk, LS g (lenv L fa cd) (lcs L) h σ mu → Q (.ret (.bool true)) { s with heap := h, toks := tk }) :
    wpAny (model prog w) A (exec (lSt 7) (lenv L fa cd)) Q E s := by
  have hu := hA.units
  have hm := lf.hm
  have hm100 : m ≤ 100 := by
    have : kk * kk ≤ 4 * 4 := Nat.mul_le_mul hk4 hk4
    omega
  have hrl : rr.length = m + 1 := by rw [AR.1]; simp
  obtain ⟨r1, hr1, N1⟩ := AR.at (range_at rowAt (m + 1) (m - 1) (by omega))
  obtain ⟨r2, hr2, N2⟩ := AR.at (range_at rowAt (m + 1) m (by omega))
  have hlr : IsL s.heap lr (rr.map Value.ref).toArray nr := F.led (lr, lobj (rr.map Value.ref) nr) hmr
  have hsz : (rr.map Value.ref).toArray.size = m + 1 := by simp [hrl]
  refine wpAny_Return_some (wpAny_And2 (wpAny_Compare1 (bC1 G F boot_sorted (evItemN (fun _ _ _ => rfl) (nC F hr (wpAny_UnaryOp (wpAny_Constant_int (PySem.P.neg_int ⟨lr, (rr.map Value.ref).toArray, -2, _, .ref r1, rfl, rfl, IsL.isList hlr, by omega, by rw [hsz]; omega, by omega, by rw [hsz, show ((-2 : Int) + ((m + 1 : Nat) : Int)).toNat = m - 1 by omega]; exact refs_at hr1, ?_⟩))) (c_rows L))))))
  refine sorted_of (N1.keep F.keep) (by have := lf.len (m - 1) (by omega); omega) fun h₁ t₁ ns₁ hx₁ Nn₁ pm₁ pw₁ => ?_
  have F₁ := F.ext hx₁
  dsimp only
  rw [lf.end1 ns₁ pm₁ pw₁] at Nn₁
  obtain ⟨vs, hl, hI⟩ := Nn₁.isList
  obtain ⟨us, hul, hJ⟩ := (Ns.keep F₁.keep).isList
  refine nL F₁ hs (ke_eq_ints hl hul hI hJ (by omega) (wpAny_truthy_bool ?_))
  rw [decide_eq_true rfl, if_pos rfl]
  have hlr₁ : IsL h₁ lr (rr.map Value.ref).toArray nr := F₁.led (lr, lobj (rr.map Value.ref) nr) hmr
  refine wpAny_Compare1 (bC1 G F₁ boot_sorted (evItemN (fun _ _ _ => rfl) (nC F₁ hr (wpAny_UnaryOp (wpAny_Constant_int (PySem.P.neg_int ⟨lr, (rr.map Value.ref).toArray, -1, _, .ref r2, rfl, rfl, IsL.isList hlr₁, by omega, by rw [hsz]; omega, by omega, by rw [hsz, show ((-1 : Int) + ((m + 1 : Nat) : Int)).toNat = m by omega]; exact refs_at hr2, ?_⟩))) (c_rows L))))
  refine sorted_of (N2.keep F₁.keep) (by have := lf.len m (by omega); omega) fun h₂ t₂ ns₂ hx₂ Nn₂ pm₂ pw₂ => ?_
  have F₂ := F₁.ext hx₂
  dsimp only
  rw [lf.end2 ns₂ pm₂ pw₂] at Nn₂
  obtain ⟨vs', hl', hI'⟩ := Nn₂.isList
  obtain ⟨us', hul', hJ'⟩ := (Ns.keep F₂.keep).isList
  refine nL F₂ hs (ke_eq_ints hl' hul' hI' hJ' (by omega) ?_)
  rw [decide_eq_true rfl]
  exact k h₂ _ F₂
end
end
section
local macro_rules | `(tactic| walk_at "lk") => `(tactic| first | exact put_eq | (refine (put_ne (by decide)).trans ?_; walk_at "lk") | assumption | rfl)
section
variable {prog : Program} {w : World} {A : Around} {s : Shared} {R : Result → Shared → Prop} {mg mb : Str → Option Value} {fa l : Addr} {vs : List Value} {script : List Int} {m : Nat} {rowAt : Nat → List Int} {tabAt : Nat → List (Int × Int)}
theorem al_one {α : Type} {P : Addr → α → Prop} {a : Addr} {x : α} (h : P a x) : Al P [a] [x] := ⟨rfl, fun i b y h1 h2 => by
  cases i with
  | zero => simp at h1 h2; subst h1 h2; exact h
  | succ i => simp at h1⟩
set_option maxHeartbeats 4000000 in
theorem law_spec (G : Gd mg mb s.heap) (hsm : ∃ o, s.heap.get? sysModules = some o) (hA : Okk A 3) (hfr : A.frames = some []) (hf : mg dLaw.name = some (.ref fa)) (hl : s.heap.IsList l vs.toArray) (hI : IntsAre vs script) (hs1 : script.length ≤ 1000)
    (lf : LF script (kOf script.length) m (wtOf script) rowAt tabAt)
    (k : ∀ h tk, Ext s.heap h → R (.ok (.ret (.bool true))) { s with heap := h, toks := tk }) :
    codeAny (model prog w) A (.call (.ref fa) ⟨[.ref l], []⟩) R s := by
  refine enterC dLaw (binds := [("script", .ref l)]) (by unfold recs; simp) G hf hA.room (fun _ _ _ => rfl) ?_ law_sep fun L cd h₁ tk F => ?_
  · intro x hx
    rw [List.mem_singleton.mp hx]; exact .inl rfl
  rw [law_cs] at F
  replace F : LS s.heap (lenv L fa cd) (lcs L) h₁ (put (fun _ => none) "script" (.ref l)) [] := F
  have hA' := hA.deeper (env := lenv L fa cd)
  have hA1 : Okk (A.deeper (lenv L fa cd)) 1 := by
    obtain ⟨a1, a2, a3⟩ := hA'
    exact ⟨a1, by omega, by omega⟩
  have hfr' : (A.deeper (lenv L fa cd)).frames = some [lenv L fa cd] := Around.frames_deeper hfr
  have hvl := hI.length
  have hk4 := kOf_le script.length
  have hk2 := kOf_ge script.length
  have hm := lf.hm
  have hm1 : 1 ≤ m := by
    have : kOf script.length * 1 ≤ kOf script.length * kOf script.length := Nat.mul_le_mul_left _ (by omega)
    omega
  have hw0 : wtOf script ≠ 0 := by unfold wtOf; split <;> omega
  show wpAny _ _ (execs [lSt 0, lSt 1, lSt 2, lSt 3, lSt 4, lSt 5, lSt 6, lSt 7] (lenv L fa cd)) _ _ _
  refine wpAny_execs_cons (l_k G hA1.hh F (by walk_at "lk") hl (by omega) fun h₂ tk₂ t₂ F₂ => ?_)
  rw [hvl] at F₂
  dsimp only
  refine wpAny_execs_cons (l_weight G hA1.hh F₂ (by walk_at "lk") hl hI fun h₃ tk₃ t₃ F₃ => ?_)
  dsimp only
  refine wpAny_execs_cons (l_rows (kk := kOf script.length) (tkk := t₂) G hA1 F₃ (by walk_at "lk") (by walk_at "lk") hl hI hs1 (by omega) hk4 fun g₄ h₄ tk₄ b lr hg₄ N₄ F₄ => ?_)
  rw [← lf.base] at N₄
  dsimp only
  refine wpAny_execs_cons (l_tables (lr := lr) (nr := 0) (b := b) (tw := t₃) (wt := wtOf script) (G.keeps hg₄) hA' F₄ (by simp) (by walk_at "lk") (by walk_at "lk") N₄ (by have := lf.len 0 (by omega); omega) fun g₅ h₅ tk₅ t lt hg₅ T₅ F₅ => ?_)
  rw [lf.tab0] at T₅
  dsimp only
  have G₅ := (G.keeps hg₄).keeps hg₅
  have hsm₅ : ∃ o, g₅.get? sysModules = some o := let ⟨o, ho⟩ := hsm; ⟨o, hg₅ _ _ (hg₄ _ _ ho)⟩
  refine wpAny_execs_cons (l_loop1 (lt := lt) (lr := lr) G₅ hsm₅ hA1 hfr' hw0 hk4 lf F₅ ⟨[t], [b], 0, 0, t₃, t₂, rfl, by walk_at "lk", by walk_at "lk", by walk_at "lk", by walk_at "lk", al_one (N₄.keep hg₅), al_one T₅⟩ fun g₆ σ₆ mu₆ h₆ tk₆ hg₆ hJ₆ F₆ => ?_)
  dsimp only
  refine wpAny_execs_cons (l_loop2 (lt := lt) (lr := lr) (G₅.keeps hg₆) hA1 hk4 lf F₆ hJ₆ fun g₇ σ₇ mu₇ h₇ tk₇ hg₇ hJ₇ F₇ => ?_)
  dsimp only
  obtain ⟨tr, rr, nt, nr, tw, tkk, rfl, hr, ht, hw, hkk, AR, AT⟩ := id hJ₇
  have G₇ := (G₅.keeps hg₆).keeps hg₇
  refine wpAny_execs_cons (l_stairs (kk := kOf script.length) (tkk := tkk) G₇ hA1 hk4 F₇ (by walk_at "lk") fun g₈ h₈ tk₈ ls hg₈ N₈ F₈ => ?_)
  dsimp only
  refine wpAny_execs_cons (l_ret (lr := lr) (rr := rr) (nr := nr) (G₇.keeps hg₈) hA1 hk4 lf F₈ (by simp) (by walk_at "lk") (by walk_at "lk") N₈ (AR.mono fun a x n => n.keep hg₈) hm1 fun h₉ tk₉ F₉ => ?_)
  dsimp only
  exact k h₉ tk₉ fun b o e => F₉.keep _ _ (hg₈ _ _ (hg₇ _ _ (hg₆ _ _ (hg₅ _ _ (hg₄ _ _ e)))))
end
end
section
local macro_rules | `(tactic| walk_at "lk") => `(tactic| first | exact put_eq | (refine (put_ne (by decide)).trans ?_; walk_at "lk") | assumption | rfl)
def decB (b : Int → Nat) (a : Int) : Int → Nat := fun x => if x = a then b x - 1 else b x
def incB (b : Int → Nat) (a : Int) : Int → Nat := fun x => if x = a then b x + 1 else b x
/-- of each number the first b are left out -/
def keepF (b : Int → Nat) : List Int → List Int
  | [] => []
  | a :: l => if 0 < b a then keepF (decB b a) l else a :: keepF b l
theorem keep_cons_pos {b : Int → Nat} {a : Int} {l : List Int} (h : 0 < b a) : keepF b (a :: l) = keepF (decB b a) l := by rw [keepF, if_pos h]
theorem keep_cons_zero {b : Int → Nat} {a : Int} {l : List Int} (h : b a = 0) : keepF b (a :: l) = a :: keepF b l := by rw [keepF, if_neg (by omega)]
theorem keep_count (x : Int) : ∀ (l : List Int) (b : Int → Nat), (keepF b l).count x = l.count x - b x
  | [], b => by simp [keepF]
  | a :: l, b => by
    by_cases h : 0 < b a
    · rw [keep_cons_pos h, keep_count x l, List.count_cons]
      unfold decB
      by_cases hx : x = a
      · subst hx; simp only [if_true, beq_self_eq_true]; omega
      · have : (a == x) = false := by simpa using fun e => hx e.symm
        simp [hx, this]
    · rw [keep_cons_zero (by omega), List.count_cons, List.count_cons, keep_count x l]
      by_cases hx : x = a
      · subst hx; simp only [beq_self_eq_true, if_true]; omega
      · have : (a == x) = false := by simpa using fun e => hx e.symm
        simp [this]
theorem keep_mem {x : Int} {l : List Int} {b : Int → Nat} : x ∈ keepF b l ↔ b x < l.count x := by
  rw [← List.count_pos_iff, keep_count]; omega
theorem keep_inc_out {x : Int} : ∀ (l : List Int) (b : Int → Nat), l.count x ≤ b x → keepF (incB b x) l = keepF b l
  | [], _, _ => rfl
  | a :: l, b, h => by
    by_cases hx : a = x
    · subst hx
      rw [List.count_cons_self] at h
      have h0 : 0 < b a := by omega
      have h1 : 0 < incB b a a := by unfold incB; simp
      rw [keep_cons_pos h0, keep_cons_pos h1]
      have e : decB (incB b a) a = incB (decB b a) a := by
        funext y; unfold decB incB; by_cases hy : y = a
        · subst hy; simp; omega
        · simp [hy]
      rw [e]
      exact keep_inc_out l _ (by unfold decB; simp; omega)
    · have hc : (a :: l).count x = l.count x := by rw [List.count_cons]; simp [hx]
      rw [hc] at h
      have hb : incB b x a = b a := by unfold incB; simp [hx]
      by_cases h0 : 0 < b a
      · rw [keep_cons_pos h0, keep_cons_pos (by rw [hb]; exact h0)]
        have e : decB (incB b x) a = incB (decB b a) x := by
          funext y; unfold decB incB
          by_cases hy : y = a
          · subst hy; simp [hx]
          · simp [hy]
        rw [e]
        exact keep_inc_out l _ (by unfold decB; rw [if_neg (fun e : x = a => hx e.symm)]; exact h)
      · rw [keep_cons_zero (b := b) (by omega), keep_cons_zero (b := incB b x) (by rw [hb]; omega), keep_inc_out l b h]
/-- the first that is kept, gone -/
theorem keep_inc_in {x : Int} : ∀ (l : List Int) (b : Int → Nat), b x < l.count x → ∃ j, (keepF b l).findIdx? (fun y => eqZ y x) = some j ∧ (keepF b l).eraseIdx j = keepF (incB b x) l
  | [], _, h => by simp at h
  | a :: l, b, h => by
    by_cases hx : a = x
    · subst hx
      rw [List.count_cons_self] at h
      by_cases h0 : 0 < b a
      · have h1 : 0 < incB b a a := by unfold incB; simp
        rw [keep_cons_pos h0, keep_cons_pos h1]
        have e : decB (incB b a) a = incB (decB b a) a := by
          funext y; unfold decB incB; by_cases hy : y = a
          · subst hy; simp; omega
          · simp [hy]
        rw [e]
        exact keep_inc_in l _ (by unfold decB; simp; omega)
      · have h1 : 0 < incB b a a := by unfold incB; simp
        rw [keep_cons_zero (by omega), keep_cons_pos h1]
        refine ⟨0, by rw [List.findIdx?_cons]; simp [eqZ], ?_⟩
        have e : decB (incB b a) a = b := by
          funext y; unfold decB incB; by_cases hy : y = a
          · subst hy; simp
          · simp [hy]
        rw [e]; rfl
    · have hc : (a :: l).count x = l.count x := by rw [List.count_cons]; simp [hx]
      rw [hc] at h
      have hb : incB b x a = b a := by unfold incB; simp [hx]
      by_cases h0 : 0 < b a
      · rw [keep_cons_pos h0, keep_cons_pos (by rw [hb]; exact h0)]
        have e : decB (incB b x) a = incB (decB b a) x := by
          funext y; unfold decB incB
          by_cases hy : y = a
          · subst hy; simp [hx]
          · simp [hy]
        rw [e]
        exact keep_inc_in l _ (by unfold decB; rw [if_neg (fun e : x = a => hx e.symm)]; exact h)
      · rw [keep_cons_zero (by omega), keep_cons_zero (by rw [hb]; omega)]
        obtain ⟨j, h1, h2⟩ := keep_inc_in l b h
        refine ⟨j + 1, ?_, ?_⟩
        · rw [List.findIdx?_cons]
          have : eqZ a x = false := by unfold eqZ; simpa using hx
          simp [this, h1]
        · rw [List.eraseIdx_cons_succ, h2]
theorem keep_snoc (x : Int) : ∀ (l : List Int) (b : Int → Nat), keepF b (l ++ [x]) = keepF b l ++ (if b x ≤ l.count x then [x] else [])
  | [], b => by
    by_cases h : 0 < b x
    · rw [List.nil_append, keep_cons_pos h]; simp [keepF]; omega
    · rw [List.nil_append, keep_cons_zero (by omega)]; simp [keepF]; omega
  | a :: l, b => by
    rw [List.cons_append]
    by_cases h : 0 < b a
    · rw [keep_cons_pos h, keep_cons_pos h, keep_snoc x l]
      congr 1
      rw [List.count_cons]
      unfold decB
      by_cases hx : x = a
      · subst hx
        simp only [if_true, beq_self_eq_true]
        by_cases q : b x - 1 ≤ l.count x
        · rw [if_pos q, if_pos (by omega)]
        · rw [if_neg q, if_neg (by omega)]
      · have : (a == x) = false := by simpa using fun e => hx e.symm
        simp [hx, this]
    · rw [keep_cons_zero (by omega), keep_cons_zero (by omega), keep_snoc x l, List.cons_append]
      congr 2
      rw [List.count_cons]
      by_cases hx : x = a
      · subst hx
        have : b x = 0 := by omega
        simp [this]
      · have : (a == x) = false := by simpa using fun e => hx e.symm
        simp [this]
theorem keep_filter (q : Int → Bool) : ∀ (l : List Int) (b : Int → Nat), (∀ x, q x = true → b x = 0) → (keepF b l).filter q = l.filter q
  | [], _, _ => rfl
  | a :: l, b, h => by
    by_cases h0 : 0 < b a
    · rw [keep_cons_pos h0]
      have hq : q a = false := by
        cases hqa : q a with
        | false => rfl
        | true => have := h a hqa; omega
      rw [List.filter_cons, hq, keep_filter q l _ fun x hx => ?_]
      · simp
      · unfold decB
        split
        · have := h x hx; omega
        · exact h x hx
    · rw [keep_cons_zero (by omega), List.filter_cons, List.filter_cons, keep_filter q l b h]
/-- what the walk gives, said so -/
theorem diff_keep : ∀ (xs ys : List Int) (act : List Int), diffV eqZ xs (keepF (fun x => ys.count x) act, keepF (fun x => act.count x) ys) = (keepF (fun x => (ys ++ xs).count x) act, keepF (fun x => act.count x) (ys ++ xs))
  | [], ys, act => by simp [diffV]
  | x :: xs, ys, act => by
    have ih := diff_keep xs (ys ++ [x]) act
    rw [List.append_assoc, List.singleton_append] at ih
    rw [← ih]
    have eb : incB (fun z => ys.count z) x = fun z => (ys ++ [x]).count z := by
      funext z
      unfold incB
      rw [List.count_append]
      by_cases hz : z = x
      · subst hz; simp
      · have : (x == z) = false := by simpa using fun e => hz e.symm
        simp [hz, List.count_cons, this]
    conv => lhs; unfold diffV
    by_cases h : ys.count x < act.count x
    · obtain ⟨j, h1, h2⟩ := keep_inc_in act (fun z => ys.count z) (x := x) h
      rw [h1]
      simp only
      rw [h2, eb, keep_snoc, if_neg (by omega), List.append_nil]
    · have hn : (keepF (fun z => ys.count z) act).findIdx? (fun y => eqZ y x) = none := by
        rw [List.findIdx?_eq_none_iff]
        intro y hy
        unfold eqZ
        refine decide_eq_false fun e => ?_
        subst e
        exact h (keep_mem.mp hy)
      rw [hn]
      simp only
      have e2 := keep_inc_out act (fun z => ys.count z) (x := x) (by omega)
      rw [eb] at e2
      rw [← e2, keep_snoc, if_pos (by omega)]
theorem keep_none (l : List Int) : keepF (fun x => ([] : List Int).count x) l = l := by
  induction l with
  | nil => rfl
  | cons a l ih => rw [keep_cons_zero (by simp), ih]
theorem diff_is (xs act : List Int) : diffV eqZ xs (act, []) = (keepF (fun x => xs.count x) act, keepF (fun x => act.count x) xs) := by
  have := diff_keep xs [] act
  rw [keep_none, List.nil_append] at this
  exact this
theorem come_is (row after : List Int) : comeL row after = keepF (fun x => row.count x) after := by
  have : ∀ m, m ≤ after.length → ((List.range m).filter (comeP row after)).map (fun i => after.getD i 0) = keepF (fun x => row.count x) (after.take m) := by
    intro m
    induction m with
    | zero => intro _; simp [keepF]
    | succ m ih =>
      intro hm
      have hm' : m < after.length := by omega
      have hg : after.getD m 0 = after[m] := by rw [List.getD_eq_getElem?_getD, List.getElem?_eq_getElem hm']; rfl
      rw [fm_succ, ih (by omega), ← List.take_append_getElem hm', keep_snoc]
      congr 1
      unfold comeP
      rw [hg, ← List.take_append_getElem hm', List.count_append, List.count_singleton_self]
      by_cases q : row.count after[m] ≤ (after.take m).count after[m]
      · rw [if_pos q, if_pos (by simp; omega)]
      · rw [if_neg q, if_neg (by simp; omega)]
  have h := this after.length (Nat.le_refl _)
  rw [List.take_length] at h
  exact h
theorem gone_is (row after : List Int) : goneL row after = keepF (fun x => after.count x) row.reverse := by
  rw [← come_is]
  unfold goneL comeL
  rw [List.length_reverse]
  have hg : ∀ j, j < row.length → row.reverse.getD j 0 = row.getD (row.length - 1 - j) 0 := fun j hj => by
    rw [List.getD_eq_getElem?_getD, List.getD_eq_getElem?_getD, List.getElem?_reverse hj]
  have hf : (List.range row.length).filter (goneP row after) = (List.range row.length).filter (comeP after row.reverse) := by
    apply List.filter_congr
    intro j hj
    have hj' := List.mem_range.mp hj
    unfold goneP comeP
    rw [hg j hj', List.take_reverse, List.count_reverse, show row.length - (j + 1) = row.length - 1 - j by omega]
  rw [hf]
  apply List.map_congr_left
  intro j hj
  exact (hg j (List.mem_range.mp (List.mem_filter.mp hj).1)).symm
def notIn (row : List Int) (x : Int) : Bool := !row.contains x
/-- what holds of a row and the next -/
structure Chk (row row' come gone : List Int) : Prop where
  p4 : diffV eqZ (row ++ row').reverse (row', []) = ([], row.reverse)
  p3 : diffV eqZ row.reverse (row', []) = (come, gone)
  cm : come.filter (notIn row) = row'.filter (notIn row)
  gn : gone.filter (notIn row) = []
  ct : ∀ x, row.count x + come.count x = row'.count x + gone.count x
theorem keep_all {b : Int → Nat} : ∀ (l : List Int), (∀ x, l.count x ≤ b x) → keepF b l = [] := fun l h =>
  List.eq_nil_iff_forall_not_mem.mpr fun x hx => by have := keep_mem.mp hx; have := h x; omega
theorem keep_rest (a c : List Int) : keepF (fun x => a.count x) (a ++ c) = c := by
  induction a with
  | nil => exact keep_none c
  | cons x a ih =>
    rw [List.cons_append, keep_cons_pos (by simp)]
    have : decB (fun z => (x :: a).count z) x = fun z => a.count z := by
      funext z; unfold decB; show (if z = x then (x :: a).count z - 1 else (x :: a).count z) = a.count z
      rw [List.count_cons]
      by_cases hz : z = x
      · subst hz; simp
      · have : (x == z) = false := by simpa using fun e => hz e.symm
        simp [hz, this]
    rw [this]; exact ih
theorem keep_congr {b b' : Int → Nat} (h : ∀ x, b x = b' x) (l : List Int) : keepF b l = keepF b' l := by rw [funext h]
theorem chk_row (row row' : List Int) : Chk row row' (comeL row row') (goneL row row') := by
  have ec := come_is row row'
  have eg := gone_is row row'
  refine ⟨?_, ?_, ?_, ?_, fun x => ?_⟩
  · rw [diff_is]
    refine Prod.ext ?_ ?_
    · exact keep_all _ fun x => by simp only [List.count_reverse, List.count_append]; omega
    · show keepF (fun x => row'.count x) (row ++ row').reverse = row.reverse
      rw [List.reverse_append, keep_congr (b' := fun x => row'.reverse.count x) (fun x => by rw [List.count_reverse])]
      exact keep_rest _ _
  · rw [diff_is, ec, eg]
    refine Prod.ext ?_ rfl
    exact keep_congr (fun x => by rw [List.count_reverse]) _
  · rw [ec]
    refine keep_filter _ _ _ fun x hx => List.count_eq_zero_of_not_mem ?_
    unfold notIn at hx; simpa using hx
  · rw [eg, List.filter_eq_nil_iff]
    intro x hx
    have h1 := keep_mem.mp hx
    have h2 : x ∈ row := by
      have : 0 < row.reverse.count x := by omega
      rw [List.count_reverse] at this
      exact List.count_pos_iff.mp this
    unfold notIn; simpa using h2
  · rw [ec, eg, keep_count, keep_count, List.count_reverse]; omega
end
section
local macro_rules | `(tactic| walk_at "lk") => `(tactic| first | exact put_eq | (refine (put_ne (by decide)).trans ?_; walk_at "lk") | assumption | rfl)
def iterR : Nat → List Int → List Int
  | 0, r => r
  | n + 1, r => nextR (iterR n r)
/-- the falling rows of parts up to k, n in all, at most f parts -/
def parts : Nat → Nat → Nat → List (List Int)
  | 0, _, n => if n = 0 then [[]] else []
  | f + 1, k, n => if n = 0 then [[]] else (List.range k).flatMap fun i => if i + 1 ≤ n then (parts f (i + 1) (n - (i + 1))).map fun r => ((i + 1 : Nat) : Int) :: r else []
def endR (kk m : Nat) (row : List Int) : Bool := (iterR (m - 1) row).isPerm (stairsL kk) && (iterR m row).isPerm (stairsL kk)
theorem end3 : (parts 3 3 3).all (endR 2 3) = true := by decide +kernel
theorem end6 : (parts 6 6 6).all (endR 3 7) = true := by decide +kernel
theorem end10 : (parts 10 10 10).all (endR 4 13) = true := by decide +kernel
theorem next_perm {a b : List Int} (h : a.Perm b) : (nextR a).Perm (nextR b) := by
  unfold nextR
  rw [h.length_eq]
  exact ((h.filter _).map _).append_right _
theorem iter_perm {a b : List Int} (h : a.Perm b) : ∀ j, (iterR j a).Perm (iterR j b)
  | 0 => h
  | j + 1 => next_perm (iter_perm h j)
/-- a row of piles: each of at least one card, n in all -/
def PS (n : Nat) (l : List Int) : Prop := (∀ x ∈ l, 1 ≤ x) ∧ l.sum = (n : Int)
theorem PS.nonneg {l : List Int} (h : ∀ x ∈ l, 1 ≤ x) : ((l.length : Nat) : Int) ≤ l.sum := by
  induction l with
  | nil => simp
  | cons x r ih =>
    have h1 := h x (by simp)
    have h2 := ih fun y hy => h y (by simp [hy])
    simp only [List.sum_cons, List.length_cons]
    push_cast
    omega
theorem PS.len {n : Nat} {l : List Int} (h : PS n l) : l.length ≤ n := by
  have h1 := PS.nonneg h.1
  have h2 := h.2
  omega
theorem mem_parts : ∀ (f k n : Nat) (l : List Int), l.Pairwise (fun a b => b ≤ a) → (∀ x ∈ l, 1 ≤ x ∧ x ≤ (k : Int)) → l.sum = (n : Int) → l.length ≤ f → l ∈ parts f k n
  | 0, k, n, l, _, _, hs, hl => by
    have : l = [] := List.length_eq_zero_iff.mp (by omega)
    subst this
    have : n = 0 := by simp at hs; omega
    subst this; simp [parts]
  | f + 1, k, n, [], _, _, hs, _ => by
    have : n = 0 := by simp at hs; omega
    subst this; simp [parts]
  | f + 1, k, n, x :: r, hp, hb, hs, hl => by
    obtain ⟨hx1, hxk⟩ := hb x (by simp)
    obtain ⟨hp1, hp2⟩ := List.pairwise_cons.mp hp
    have hr1 : ∀ y ∈ r, 1 ≤ y := fun y hy => (hb y (by simp [hy])).1
    have h0 := PS.nonneg hr1
    rw [List.sum_cons] at hs
    have hn : n ≠ 0 := by omega
    unfold parts
    rw [if_neg hn, List.mem_flatMap]
    refine ⟨x.toNat - 1, List.mem_range.mpr (by omega), ?_⟩
    have e : x.toNat - 1 + 1 = x.toNat := by omega
    rw [e, if_pos (by omega), List.mem_map]
    refine ⟨r, mem_parts f x.toNat (n - x.toNat) r hp2 (fun y hy => ⟨hr1 y hy, by have := hp1 y hy; omega⟩) (by omega) (by simpa using hl), ?_⟩
    congr 1; omega
theorem PS.sorted {n : Nat} {l : List Int} (h : PS n l) : ∃ m ∈ parts n n n, l.Perm m := by
  have hp := List.mergeSort_perm l (fun a b => decide (b ≤ a))
  have hs : (l.mergeSort (fun a b => decide (b ≤ a))).Pairwise (fun a b => decide (b ≤ a) = true) := List.pairwise_mergeSort (fun a b c h1 h2 => by simp at h1 h2 ⊢; omega) (fun a b => by simp; omega) l
  generalize l.mergeSort (fun a b => decide (b ≤ a)) = m at hp hs
  have h1 : ∀ x ∈ m, 1 ≤ x := fun x hx => h.1 x (hp.mem_iff.mp hx)
  have h2 : m.sum = (n : Int) := by
    rw [← h.2]
    have : ∀ {a b : List Int}, a.Perm b → a.sum = b.sum := by
      intro a b hab
      induction hab with
      | nil => rfl
      | cons x _ ih => rw [List.sum_cons, List.sum_cons, ih]
      | swap x y l => simp only [List.sum_cons]; omega
      | trans _ _ ih1 ih2 => exact ih1.trans ih2
    exact this hp
  refine ⟨m, mem_parts n n n m (hs.imp fun h => by simpa using h) (fun x hx => ⟨h1 x hx, ?_⟩) h2 (by rw [hp.length_eq]; exact h.len), hp.symm⟩
  obtain ⟨a, b, e⟩ := List.append_of_mem hx
  have ha := PS.nonneg (l := a) fun y hy => h1 y (by rw [e]; simp [hy])
  have hb := PS.nonneg (l := b) fun y hy => h1 y (by rw [e]; simp [hy])
  rw [e, List.sum_append, List.sum_cons] at h2
  omega
theorem down_sum (l : List Int) (h : ∀ x ∈ l, 1 ≤ x) : ((l.filter downP).map (fun x => x - 1)).sum + ((l.length : Nat) : Int) = l.sum := by
  induction l with
  | nil => simp
  | cons x r ih =>
    have h1 := h x (by simp)
    have h2 := ih fun y hy => h y (by simp [hy])
    rw [List.filter_cons]
    by_cases hx : 1 < x
    · rw [if_pos (by unfold downP; simpa using hx)]
      simp only [List.map_cons, List.sum_cons, List.length_cons]
      push_cast; omega
    · rw [if_neg (by unfold downP; simpa using hx)]
      simp only [List.sum_cons, List.length_cons]
      push_cast; omega
theorem PS.next {n : Nat} {l : List Int} (hn : 1 ≤ n) (h : PS n l) : PS n (nextR l) := by
  have h1 := down_sum l h.1
  refine ⟨fun x hx => ?_, ?_⟩
  · unfold nextR at hx
    rcases List.mem_append.mp hx with hx | hx
    · obtain ⟨y, hy, rfl⟩ := List.mem_map.mp hx
      have := (List.mem_filter.mp hy).2
      unfold downP at this
      have : 1 < y := by simpa using this
      omega
    · rw [List.mem_singleton.mp hx]
      cases l with
      | nil => have := h.2; simp at this; omega
      | cons y r => simp only [List.length_cons]; push_cast; omega
  · unfold nextR
    rw [List.sum_append]
    simp only [List.sum_cons, List.sum_nil]
    have := h.2
    omega
theorem PS.iter {n : Nat} {l : List Int} (hn : 1 ≤ n) (h : PS n l) : ∀ j, PS n (iterR j l)
  | 0 => h
  | j + 1 => (h.iter hn j).next hn
/-- the end, for every row of n cards -/
theorem end_all {kk m n : Nat} (he : (parts n n n).all (endR kk m) = true) {l : List Int} (h : PS n l) : (iterR (m - 1) l).Perm (stairsL kk) ∧ (iterR m l).Perm (stairsL kk) := by
  obtain ⟨p, hp, hl⟩ := h.sorted
  have := List.all_eq_true.mp he p hp
  unfold endR at this
  rw [Bool.and_eq_true] at this
  exact ⟨(iter_perm hl _).trans (List.isPerm_iff.mp this.1), (iter_perm hl _).trans (List.isPerm_iff.mp this.2)⟩
end
section
local macro_rules | `(tactic| walk_at "lk") => `(tactic| first | exact put_eq | (refine (put_ne (by decide)).trans ?_; walk_at "lk") | assumption | rfl)
theorem mem_meet1 {m : List Int} {x y : Int} : x ∈ meet1 m y ↔ x ∈ m ∨ x = y := by
  unfold meet1
  split
  · rename_i h
    have : y ∈ m := by simpa using h
    constructor
    · exact .inl
    · rintro (h | rfl)
      · exact h
      · exact this
  · simp
theorem nodup_meet1 {m : List Int} {y : Int} (h : m.Nodup) : (meet1 m y).Nodup := by
  unfold meet1
  split
  · exact h
  · rename_i hc
    have : y ∉ m := by simpa using hc
    refine List.nodup_append.mpr ⟨h, by simp, fun a ha b hb e => ?_⟩
    rw [List.mem_singleton.mp hb] at e
    exact this (e ▸ ha)
theorem mem_meetF : ∀ {l m : List Int} {x : Int}, x ∈ l.foldl meet1 m ↔ x ∈ m ∨ x ∈ l
  | [], m, x => by simp
  | y :: l, m, x => by
    rw [List.foldl_cons, mem_meetF, mem_meet1, List.mem_cons, or_assoc]
theorem nodup_meetF : ∀ {l m : List Int}, m.Nodup → (l.foldl meet1 m).Nodup
  | [], _, h => h
  | _ :: l, _, h => by rw [List.foldl_cons]; exact nodup_meetF (nodup_meet1 h)
theorem meet1_in {m : List Int} {x : Int} (h : x ∈ m) : meet1 m x = m := meet1_t (by simpa using h)
theorem meet1_out {m : List Int} {x : Int} (h : x ∉ m) : meet1 m x = m ++ [x] := meet1_f (by simpa using h)
theorem meetF_filter (row : List Int) : ∀ (l m : List Int), (∀ x ∈ row, x ∈ m) → l.foldl meet1 m = (l.filter (notIn row)).foldl meet1 m
  | [], _, _ => rfl
  | y :: l, m, h => by
    rw [List.foldl_cons, List.filter_cons]
    by_cases hy : y ∈ row
    · rw [if_neg (by unfold notIn; simpa using hy), meet1_in (h y hy)]
      exact meetF_filter row l m h
    · rw [if_pos (by unfold notIn; simpa using hy), List.foldl_cons]
      exact meetF_filter row l _ fun x hx => mem_meet1.mpr (.inl (h x hx))
theorem meetF_meetF : ∀ (l m0 m : List Int), (l.foldl meet1 m0).foldl meet1 m = l.foldl meet1 (m0.foldl meet1 m)
  | [], _, _ => rfl
  | x :: l, m0, m => by
    rw [List.foldl_cons, List.foldl_cons, meetF_meetF l]
    congr 1
    by_cases hx : x ∈ m0
    · rw [meet1_in hx, meet1_in (mem_meetF.mpr (.inr hx))]
    · rw [meet1_out hx, List.foldl_append]; rfl
theorem any_keys (ms : List Int) (F : Int → Int) (d : Int) : ((ms.map fun x => (x, F x)).any fun p => decide (p.1 = d)) = ms.contains d := by
  induction ms with
  | nil => rfl
  | cons x r ih =>
    rw [List.map_cons, List.any_cons, ih, List.contains_cons]
    congr 1
    by_cases h : x = d
    · subst h; simp
    · have h' : ¬ d = x := fun e => h e.symm
      simp [h, h']
theorem bump_map (ms : List Int) (F : Int → Int) (hF : ∀ x, x ∉ ms → F x = 0) (d v : Int) : bump (ms.map fun x => (x, F x)) d v = (meet1 ms d).map fun x => (x, F x + if x = d then v else 0) := by
  unfold bump
  rw [any_keys]
  by_cases hd : d ∈ ms
  · rw [meet1_in hd, if_pos (by simpa using hd), List.map_map]
    apply List.map_congr_left
    intro x _
    simp only [Function.comp]
    by_cases h : x = d <;> simp [h]
  · rw [meet1_out hd, if_neg (by simpa using hd), List.map_append]
    congr 1
    · apply List.map_congr_left
      intro x hx
      have : x ≠ d := fun e => hd (e ▸ hx)
      simp [this]
    · simp [hF d hd]
theorem addT_map : ∀ (ds ms : List Int) (F f : Int → Int), (∀ x, x ∉ ms → F x = 0) → addT (ms.map fun x => (x, F x)) (ds.map fun x => (x, f x)) = (ds.foldl meet1 ms).map fun x => (x, F x + (ds.map fun d => if x = d then f d else 0).sum)
  | [], ms, F, f, _ => by simp [addT]
  | d :: ds, ms, F, f, hF => by
    have ih := addT_map ds (meet1 ms d) (fun x => F x + if x = d then f d else 0) f fun x hx => by
      have h1 : x ∉ ms := fun h => hx (mem_meet1.mpr (.inl h))
      have h2 : x ≠ d := fun h => hx (mem_meet1.mpr (.inr h))
      simp [hF x h1, h2]
    unfold addT at ih ⊢
    rw [List.map_cons, List.foldl_cons, bump_map ms F hF, ih, List.foldl_cons]
    apply List.map_congr_left
    intro x _
    simp only [List.map_cons, List.sum_cons]
    congr 1
    omega
theorem sum_one (f : Int → Int) (x : Int) : ∀ (ds : List Int), ds.Nodup → (ds.map fun d => if x = d then f d else 0).sum = if x ∈ ds then f x else 0
  | [], _ => by simp
  | d :: ds, h => by
    obtain ⟨h1, h2⟩ := List.nodup_cons.mp h
    rw [List.map_cons, List.sum_cons, sum_one f x ds h2]
    by_cases hx : x = d
    · subst hx
      simp [h1]
    · simp [hx]
theorem setP_map (ms : List Int) (f : Int → Int) (d : Int) : setP (ms.map fun x => (x, f x)) d (f d) = (meet1 ms d).map fun x => (x, f x) := by
  unfold setP
  rw [any_keys]
  by_cases hd : d ∈ ms
  · rw [meet1_in hd, if_pos (by simpa using hd), List.map_map]
    apply List.map_congr_left
    intro x _
    simp only [Function.comp]
    by_cases h : x = d <;> simp [h]
  · rw [meet1_out hd, if_neg (by simpa using hd), List.map_append]; rfl
theorem setF_map (f : Int → Int) : ∀ (l ms : List Int), l.foldl (fun acc x => setP acc x (f x)) (ms.map fun x => (x, f x)) = (l.foldl meet1 ms).map fun x => (x, f x)
  | [], _ => rfl
  | d :: l, ms => by rw [List.foldl_cons, setP_map, List.foldl_cons, setF_map f l]
theorem laid_map (c : Int) : ∀ (l ms : List Int) (F : Int → Int), (∀ x, x ∉ ms → F x = 0) → l.foldl (fun a n => bump a n c) (ms.map fun x => (x, F x)) = (l.foldl meet1 ms).map fun x => (x, F x + c * ((l.count x : Nat) : Int))
  | [], ms, F, _ => by simp
  | d :: l, ms, F, hF => by
    rw [List.foldl_cons, bump_map ms F hF, laid_map c l (meet1 ms d) _ fun x hx => by
      have h1 : x ∉ ms := fun h => hx (mem_meet1.mpr (.inl h))
      have h2 : x ≠ d := fun h => hx (mem_meet1.mpr (.inr h))
      simp [hF x h1, h2], List.foldl_cons]
    apply List.map_congr_left
    intro x _
    congr 1
    rw [List.count_cons]
    by_cases h : x = d
    · subst h
      simp only [if_true, beq_self_eq_true]
      push_cast
      rw [Int.mul_add]; omega
    · have h' : ¬ d = x := fun e => h e.symm
      simp [h, h']
theorem metL_snoc (rs : List (List Int)) (r : List Int) : metL (rs ++ [r]) = r.foldl meet1 (metL rs) := by unfold metL; rw [List.foldl_append]; rfl
theorem metL_nodup (rs : List (List Int)) : (metL rs).Nodup := by
  have : ∀ (rs : List (List Int)) (m : List Int), m.Nodup → (rs.foldl (fun m r => r.foldl meet1 m) m).Nodup := by
    intro rs
    induction rs with
    | nil => intro m h; exact h
    | cons r rs ih => intro m h; rw [List.foldl_cons]; exact ih _ (nodup_meetF h)
  exact this rs [] .nil
/-- P0 -/
theorem tab0 (wt : Int) (r : List Int) : r.foldl (fun a n => bump a n wt) [] = tabOf wt [r] r := by
  have := laid_map wt r [] (fun _ => 0) (fun _ _ => rfl)
  rw [List.map_nil] at this
  rw [this]
  unfold tabOf metL
  simp
/-- P1 -/
theorem count_sum : ∀ (row met : List Int), met.Nodup → (∀ x ∈ row, x ∈ met) → (met.map fun x => ((row.count x : Nat) : Int)).sum = ((row.length : Nat) : Int)
  | [], met, _, _ => by
    have : (met.map fun x => ((([] : List Int).count x : Nat) : Int)) = met.map fun _ => 0 := by simp
    rw [this]
    have : ∀ l : List Int, (l.map fun _ => (0 : Int)).sum = 0 := by
      intro l; induction l with
      | nil => rfl
      | cons _ _ ih => rw [List.map_cons, List.sum_cons, ih]; rfl
    rw [this]; rfl
  | a :: row, met, hn, h => by
    have ih := count_sum row met hn fun x hx => h x (by simp [hx])
    have h1 := sum_one (fun _ => 1) a met hn
    rw [if_pos (h a (by simp))] at h1
    have e : ∀ l : List Int, (l.map fun x => (((a :: row).count x : Nat) : Int)).sum = (l.map fun x => ((row.count x : Nat) : Int)).sum + (l.map fun d => if a = d then (1 : Int) else 0).sum := by
      intro l
      induction l with
      | nil => rfl
      | cons x l ihl =>
        simp only [List.map_cons, List.sum_cons, ihl]
        rw [List.count_cons]
        by_cases hx : a = x
        · subst hx; simp only [beq_self_eq_true, if_true]; push_cast; omega
        · have : (a == x) = false := by simpa using hx
          simp only [this, hx, if_false, Bool.false_eq_true]; push_cast; omega
    rw [e, ih, h1, List.length_cons]; push_cast; rfl
theorem tab_sum (wt : Int) (rs : List (List Int)) (row : List Int) (h : ∀ x ∈ row, x ∈ metL rs) : ((tabOf wt rs row).map (·.2)).sum = wt * ((row.length : Nat) : Int) := by
  unfold tabOf
  rw [List.map_map, ← count_sum row (metL rs) (metL_nodup rs) h]
  have : ∀ l : List Int, (l.map ((fun x : Int × Int => x.2) ∘ fun x => (x, wt * ((row.count x : Nat) : Int)))).sum = wt * (l.map fun x => ((row.count x : Nat) : Int)).sum := by
    intro l
    induction l with
    | nil => simp
    | cons x l ih => simp only [List.map_cons, List.sum_cons, ih, Function.comp, Int.mul_add]
  exact this _
theorem change_map (wt : Int) (come gone : List Int) : changeT wt come gone = ((come ++ gone).foldl meet1 []).map fun x => (x, wt * (((come.count x : Nat) : Int) - ((gone.count x : Nat) : Int))) := by
  unfold changeT
  exact setF_map (fun x => wt * (((come.count x : Nat) : Int) - ((gone.count x : Nat) : Int))) (come ++ gone) []
/-- P2 -/
theorem tab_add (wt : Int) (rs : List (List Int)) {row row' come gone : List Int} (h : ∀ x ∈ row, x ∈ metL rs) (c : Chk row row' come gone) : addT (tabOf wt rs row) (changeT wt come gone) = tabOf wt (rs ++ [row']) row' := by
  have hF : ∀ x, x ∉ metL rs → wt * ((row.count x : Nat) : Int) = 0 := fun x hx => by
    rw [List.count_eq_zero_of_not_mem fun q => hx (h x q)]; simp
  rw [change_map]
  unfold tabOf
  rw [addT_map _ _ _ _ hF, metL_snoc]
  have e1 : ((come ++ gone).foldl meet1 []).foldl meet1 (metL rs) = row'.foldl meet1 (metL rs) := by
    rw [meetF_meetF, List.foldl_nil, meetF_filter row _ _ h, List.filter_append, c.cm, c.gn, List.append_nil, ← meetF_filter row _ _ h]
  rw [e1]
  apply List.map_congr_left
  intro x _
  rw [sum_one _ _ _ (nodup_meetF .nil)]
  congr 1
  have ct := c.ct x
  have e2 : (if x ∈ (come ++ gone).foldl meet1 [] then wt * (((come.count x : Nat) : Int) - ((gone.count x : Nat) : Int)) else 0) = wt * (((come.count x : Nat) : Int) - ((gone.count x : Nat) : Int)) := by
    split
    · rfl
    · rename_i hx
      have hx' : x ∉ come ++ gone := fun q => hx (mem_meetF.mpr (.inr q))
      simp only [List.mem_append, not_or] at hx'
      rw [List.count_eq_zero_of_not_mem hx'.1, List.count_eq_zero_of_not_mem hx'.2]; simp
  rw [e2, ← Int.mul_add]
  congr 1
  omega
end
section
local macro_rules | `(tactic| walk_at "lk") => `(tactic| first | exact put_eq | (refine (put_ne (by decide)).trans ?_; walk_at "lk") | assumption | rfl)
theorem places_len (script : List Int) (nn : Nat) : (placesL script nn).length = nn := by
  unfold placesL minL
  simp only [List.length_append, List.length_map, List.length_take, List.length_range]
  split <;> omega
theorem places_in (script : List Int) (nn : Nat) (hn : 0 < nn) : ∀ x ∈ placesL script nn, 0 ≤ x ∧ x < (nn : Int) := by
  intro x hx
  unfold placesL at hx
  rcases List.mem_append.mp hx with hx | hx
  · obtain ⟨y, _, rfl⟩ := List.mem_map.mp hx
    exact ⟨Int.fmod_nonneg_of_pos _ (by omega), Int.fmod_lt_of_pos _ (by omega)⟩
  · obtain ⟨i, hi, rfl⟩ := List.mem_map.mp hx
    have hi' := List.mem_range.mp hi
    have : 0 ≤ minL nn script.length := by unfold minL; split <;> omega
    omega
theorem piles_sum (pl : List Int) : ∀ n : Nat, (((List.range n).filter (pilesP pl)).map fun (p : Nat) => ((pl.count (p : Int) : Nat) : Int)).sum = ((List.range n).map fun (p : Nat) => ((pl.count (p : Int) : Nat) : Int)).sum := by
  intro n
  generalize List.range n = l
  induction l with
  | nil => rfl
  | cons p l ih =>
    rw [List.filter_cons]
    by_cases hp : pilesP pl p = true
    · rw [if_pos hp, List.map_cons, List.map_cons, List.sum_cons, List.sum_cons, ih]
    · rw [if_neg hp, List.map_cons, List.sum_cons, ih]
      have : pl.count (p : Int) = 0 := List.count_eq_zero_of_not_mem fun q => hp (by unfold pilesP; simpa using q)
      rw [this]; simp
theorem places_ps (script : List Int) (nn : Nat) (hn : 0 < nn) : PS nn (pilesL script nn) := by
  refine ⟨fun x hx => ?_, ?_⟩
  · unfold pilesL at hx
    obtain ⟨p, hp, rfl⟩ := List.mem_map.mp hx
    have h1 := (List.mem_filter.mp hp).2
    unfold pilesP at h1
    have h2 : (p : Int) ∈ placesL script nn := by simpa using h1
    have := List.count_pos_iff.mpr h2
    omega
  · unfold pilesL
    rw [piles_sum]
    have h := count_sum (placesL script nn) ((List.range nn).map fun (p : Nat) => (p : Int)) ?_ ?_
    · rw [List.map_map, places_len] at h
      exact h
    · exact List.pairwise_map.mpr (List.Pairwise.imp (fun {a b} hab e => hab (by omega)) List.nodup_range)
    · intro x hx
      obtain ⟨h0, h1⟩ := places_in script nn hn x hx
      exact List.mem_map.mpr ⟨x.toNat, List.mem_range.mpr (by omega), by omega⟩
theorem come_len (row after : List Int) : (comeL row after).length ≤ after.length := by
  unfold comeL
  rw [List.length_map]
  exact Nat.le_trans (List.length_filter_le _ _) (by simp)
theorem gone_len (row after : List Int) : (goneL row after).length ≤ row.length := by
  unfold goneL
  rw [List.length_map]
  exact Nat.le_trans (List.length_filter_le _ _) (by simp)
theorem sorted_eq : ∀ {l m : List Int}, l.Perm m → l.Pairwise (· ≤ ·) → m.Pairwise (· ≤ ·) → l = m
  | [], m, h, _, _ => (List.nil_perm.mp h).symm
  | a :: l, [], h, _, _ => (List.perm_nil.mp h)
  | a :: l, b :: m, h, h1, h2 => by
    obtain ⟨ha, hl⟩ := List.pairwise_cons.mp h1
    obtain ⟨hb, hm⟩ := List.pairwise_cons.mp h2
    have e : a = b := by
      have hb' : b ∈ a :: l := h.mem_iff.mpr (by simp)
      have ha' : a ∈ b :: m := h.mem_iff.mp (by simp)
      rcases List.mem_cons.mp hb' with q | q
      · exact q.symm
      · rcases List.mem_cons.mp ha' with q' | q'
        · exact q'
        · exact Int.le_antisymm (ha b q) (hb a q')
    subst e
    rw [sorted_eq (List.Perm.cons_inv h) hl hm]
theorem stairs_sorted (kk : Nat) : (stairsL kk).Pairwise (· ≤ ·) := by
  refine List.pairwise_map.mpr (List.Pairwise.imp (fun {a b} hab => by omega) List.pairwise_lt_range)
theorem flat_len {f : Nat → List Int} {n : Nat} (h : ∀ j, j < n → (f j).length ≤ 10) : ((List.range n).map f).flatten.length ≤ 10 * n := by
  induction n with
  | zero => simp
  | succ n ih =>
    rw [range_snoc, List.flatten_append, List.length_append]
    have h1 := ih fun j hj => h j (by omega)
    have h2 := h n (by omega)
    simp
    simp at h1
    omega
theorem kOf_cases (n : Nat) : kOf n = 2 ∨ kOf n = 3 ∨ kOf n = 4 := by unfold kOf; omega
/-- the plain law -/
theorem plain (script : List Int) : LF script (kOf script.length) (kOf script.length * kOf script.length + 1 - kOf script.length) (wtOf script) (fun j => iterR j (pilesL script (nnOf (kOf script.length)))) (fun j => tabOf (wtOf script) ((List.range (j + 1)).map fun j => iterR j (pilesL script (nnOf (kOf script.length)))) (iterR j (pilesL script (nnOf (kOf script.length))))) := by
  generalize hkk : kOf script.length = kk
  have hc := kOf_cases script.length
  rw [hkk] at hc
  have hn : nnOf kk = 3 ∨ nnOf kk = 6 ∨ nnOf kk = 10 := by
    rcases hc with rfl | rfl | rfl
    · exact .inl rfl
    · exact .inr (.inl rfl)
    · exact .inr (.inr rfl)
  have hn1 : 1 ≤ nnOf kk := by omega
  have ps := places_ps script (nnOf kk) (by omega)
  generalize hr0 : pilesL script (nnOf kk) = r0 at ps
  have psj := ps.iter hn1
  have lenj : ∀ j, (iterR j r0).length ≤ 10 := fun j => Nat.le_trans (psj j).len (by omega)
  have hm13 : kk * kk + 1 - kk ≤ 13 := by rcases hc with rfl | rfl | rfl <;> decide
  have mem : ∀ j, ∀ x ∈ iterR j r0, x ∈ metL ((List.range (j + 1)).map fun j => iterR j r0) := fun j x hx => by
    rw [range_snoc, metL_snoc]; exact mem_meetF.mpr (.inr hx)
  have flat : ∀ j, j ≤ 13 → ((List.range (j + 1)).map fun j => iterR j r0).flatten.length ≤ 140 := fun j hj => Nat.le_trans (flat_len fun i _ => lenj i) (by omega)
  have metl : ∀ j, j ≤ 13 → (metL ((List.range (j + 1)).map fun j => iterR j r0)).length ≤ 140 := fun j hj => by
    have h1 := metR_length ((List.range (j + 1)).map fun j => iterR j r0) []
    have h2 := flat j hj
    simp only [List.length_nil, Nat.zero_add] at h1
    exact Nat.le_trans h1 h2
  have ends : (iterR (kk * kk + 1 - kk - 1) r0).Perm (stairsL kk) ∧ (iterR (kk * kk + 1 - kk) r0).Perm (stairsL kk) := by
    rcases hc with rfl | rfl | rfl
    · exact end_all end3 ps
    · exact end_all end6 ps
    · exact end_all end10 ps
  refine ⟨?_, hr0.symm, ?_, fun j _ => rfl, fun j hj => ?_, fun j hj => Nat.le_trans (flat j (by omega)) (by omega), fun j _ => Nat.le_trans (lenj j) (by omega), fun ns h1 h2 => ?_, fun ns h1 h2 => ?_⟩
  · rcases hc with rfl | rfl | rfl <;> rfl
  · exact tab0 (wtOf script) r0
  · have c := chk_row (iterR j r0) (nextR (iterR j r0))
    have l1 := lenj j
    have l2 := lenj (j + 1)
    have lc := come_len (iterR j r0) (iterR (j + 1) r0)
    have lg := gone_len (iterR j r0) (iterR (j + 1) r0)
    refine ⟨rfl, by omega, by omega, tab_sum _ _ _ (mem j), c.p4, c.p3, ?_, ?_, by omega, by omega⟩
    · rw [show iterR (j + 1) r0 = nextR (iterR j r0) from rfl, tab_add (wtOf script) _ (mem j) c, range_snoc (fun j => iterR j r0) (j + 1)]; rfl
    · rw [change_map]
      have h1 := metl j (by omega)
      have h2 := meetF_length (comeL (iterR j r0) (iterR (j + 1) r0) ++ goneL (iterR j r0) (iterR (j + 1) r0)) []
      rw [List.length_append] at h2
      simp only [List.length_map, tabOf]
      simp only [List.length_nil] at h2
      omega
  · exact sorted_eq (h1.trans ends.1) h2 (stairs_sorted kk)
  · exact sorted_eq (h1.trans ends.2) h2 (stairs_sorted kk)
end
end Mine
namespace Mine
theorem ground {p : Program} {loose : List Str} {mean : ExcName → Option Value} {mg mb : Str → Option Value} {h : Heap} (hr : recsOf p = recs)
    (hb : bis.all (fun x => !(startupNames.contains x) && (!(loose.contains x) && (!(((recsOf p).map (·.name)).contains x) && (!(((litsOf p).map (·.1)).contains x) && (!(((clssOf p loose).map (·.name)).contains x) && decide (x ≠ "__name__")))))) = true)
    (T : Top p loose mean mg mb h) : Gd mg mb h := by
  refine ⟨T.g, T.b, T.nolimit, fun d hd => T.fn d (hr ▸ hd), fun x hx => ?_⟩
  have h := List.all_eq_true.mp hb x hx
  simp only [Bool.and_eq_true, Bool.not_eq_true', decide_eq_true_eq] at h
  obtain ⟨h1, h2, h3, h4, h5, h6⟩ := h
  have nm : ∀ {l : List Str}, l.contains x = false → x ∉ l := fun {l} hc hm => by rw [List.contains_iff_mem.mpr hm] at hc; cases hc
  exact ⟨T.free x (nm h1) (nm h2) (nm h3) (nm h4) (nm h5), T.builtins x h6⟩
theorem mods {h : Heap} (x : h.NoSeer) : ∃ o, h.get? sysModules = some o := by
  obtain ⟨mm, ⟨o, _, _, ho, _⟩, _⟩ := x.mods
  exact ⟨o, ho⟩
theorem caller_ok : Okk callerA 3 := by
  refine ⟨rfl, ?_, ?_⟩ <;> decide +kernel
end Mine
set_option maxHeartbeats 8000000 in
theorem PySem.Challenge.cw_mr0033_01_holds : PySem.Challenge.rw_mr0033_01.Holds := by
  refine Mine.hd ?_
  intro w s₀ s₁ mg mb G Y fa o pm cd doc dV kV ho hd hcd hD hmg hg args vals as hpre hlay hrd hwl hlo
  refine Ground.open G ?_
  intro T B D TE TW
  wrow_args hpre hlay hrd hwl hlo
  all_goals (first | refine callC_kw (enter_call ?_) | refine enter_call ?_ | refine callC_kw (enter_callW ?_) | refine enter_callW ?_ | w_how)
  rename_i script _ _ _ _ _ _ _ l vs _ hL _ _ _ hI _ hlen _
  refine Mine.law_spec (Mine.ground (by kernel_rfl) (by decide +kernel) T) (Mine.mods (T.seer (by decide +kernel))) Mine.caller_ok rfl hmg hL hI (by omega) (Mine.plain script) fun h tk hx => ?_
  refine GoodW.toG ⟨.inl ⟨.bool true, .bool true, [], rfl, raisesW_false ?_, .bool true, ?_, unshared_nil⟩, hx, rfl, hg⟩
  · wrow_none_raised
  · kc_post
