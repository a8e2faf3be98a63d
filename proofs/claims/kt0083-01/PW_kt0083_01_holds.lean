import PyProof.Rows.All
import Wide.All
import OpenK.AllK
import Wide.FinOn
import PySem.Challenge.RW_kt0083_01
set_option maxHeartbeats 8000000
set_option maxRecDepth 100000
set_option Elab.async false
set_option linter.unusedVariables false
namespace Mine
open PySem PySem.W PyProof.Rows PySem.Calls PySem.W.X
open_top hd for PySem.Challenge.rw_kt0083_01
section
/-! ## what only grows -/
def Up (s s' : Shared) : Prop := s.toks ≤ s'.toks ∧ s.heap.objs.size ≤ s'.heap.objs.size
theorem Up.rfl {s : Shared} : Up s s := ⟨Nat.le_refl _, Nat.le_refl _⟩
theorem Up.trans {a b c : Shared} (x : Up a b) (y : Up b c) : Up a c := ⟨Nat.le_trans x.1 y.1, Nat.le_trans x.2 y.2⟩
theorem up_runs {M : Model} {Γ : Ctx} {p : Pos} {t : Sem Fin} {fs : List Frame} {s s' : Shared} {e : End} (h : Runs M Γ p t fs s e s') : Up s s' := by
  induction h with
  | done | raise | yield => exact Up.rfl
  | update _ _ ih => exact ⟨ih.1, by have := ih.2; rwa [Heap.size_after_update] at this⟩
  | alloc _ ih => exact ⟨ih.1, by have := ih.2; rw [Heap.size_push] at this; omega⟩
  | fresh _ ih => exact ⟨by have := ih.1; dsimp only at this; omega, ih.2⟩
  | call _ _ ih1 ih2 | segRet _ _ ih1 ih2 => exact ih1.trans ih2
  | segGen _ _ ih1 ih2 => exact ih1.trans ih2
  | resumeFresh _ _ _ _ ih1 ih2 => exact ih1.trans ih2
  | resumeSuspended _ _ _ _ ih1 ih2 => exact ih1.trans ih2
  | segSuspGen _ _ _ _ ih1 ih2 => exact ih1.trans ih2
  | segSuspOut _ _ ih => exact ih
  | resumeThrowFresh _ _ ih => exact ih
  | resumeJustStarted _ _ _ ih => exact ih
  | _ => rename_i ih; exact ih
theorem up_wakes {M : Model} {Γ : Ctx} {p : Pos} {g : Nat} {r : Resume} {s s' : Shared} {res : GenResult} (h : Wakes M Γ p g r s res s') : Up s s' := by
  unfold Wakes at h
  split at h
  · exact h.elim
  · split at h
    · obtain ⟨_, _, h1, _, _, rfl⟩ := h; have u := up_runs h1; exact u
    · obtain ⟨_, rfl⟩ := h; exact Up.rfl
    · obtain ⟨_, rfl⟩ := h; exact Up.rfl
  · obtain ⟨_, _, h1, _, _, rfl⟩ := h; have u := up_runs h1; exact u
  · obtain ⟨_, rfl⟩ := h; exact Up.rfl
  · obtain ⟨_, rfl⟩ := h; exact Up.rfl
theorem up_wp {α : Type} {M : Model} {Γ : Ctx} {t : Sem α} : ∀ {Q : α → Pos → Shared → Prop} {E : Value → Pos → Shared → Prop} {p : Pos} {s : Shared},
    Sem.wp M Γ t Q E p s → Sem.wp M Γ t (fun a p' s' => Q a p' s' ∧ Up s s') (fun e p' s' => E e p' s' ∧ Up s s') p s := by
  induction t with
  | pure a => intro Q E p s h; exact ⟨h, Up.rfl⟩
  | raise a => intro Q E p s h; exact ⟨h, Up.rfl⟩
  | unsupported | finish | yield | fork | await | register => intro Q E p s h; exact h
  | load a _ k ih => intro Q E p s ⟨o, ho, h⟩; exact ⟨o, ho, ih o h⟩
  | genState a k ih => intro Q E p s ⟨o, ho, h⟩; exact ⟨o, ho, ih _ h⟩
  | update a _ f k ih =>
    intro Q E p s ⟨ho, h⟩
    refine ⟨ho, Sem.wp_mono M Γ _ (fun _ _ s' x => ⟨x.1, x.2.1, ?_⟩) (fun _ _ s' x => ⟨x.1, x.2.1, ?_⟩) _ _ (ih _ h)⟩ <;>
    (have := x.2.2; rwa [Heap.size_after_update] at this)
  | alloc o k ih =>
    intro Q E p s h
    refine Sem.wp_mono M Γ _ (fun _ _ s' x => ⟨x.1, x.2.1, ?_⟩) (fun _ _ s' x => ⟨x.1, x.2.1, ?_⟩) _ _ (ih _ h) <;>
    (have := x.2.2; rw [Heap.size_push] at this; omega)
  | fresh k ih =>
    intro Q E p s h
    refine Sem.wp_mono M Γ _ (fun _ _ s' x => ⟨x.1, ?_, x.2.2⟩) (fun _ _ s' x => ⟨x.1, ?_, x.2.2⟩) _ _ (ih _ h) <;>
    (have := x.2.1; dsimp only at this; omega)
  | choose src n k ih => intro Q E p s ⟨hn, h⟩; exact ⟨hn, ih _ h⟩
  | call c hd g l k ih =>
    intro Q E p s ⟨r, s', hr, h⟩
    have u := up_runs hr
    exact ⟨r, s', hr, Sem.wp_mono M Γ _ (fun _ _ _ x => ⟨x.1, u.trans x.2⟩) (fun _ _ _ x => ⟨x.1, u.trans x.2⟩) _ _ (ih _ h)⟩
  | resume g r l k ih =>
    intro Q E p s ⟨res, s', hw, h⟩
    have u := up_wakes hw
    exact ⟨res, s', hw, Sem.wp_mono M Γ _ (fun _ _ _ x => ⟨x.1, u.trans x.2⟩) (fun _ _ _ x => ⟨x.1, u.trans x.2⟩) _ _ (ih _ h)⟩
  | _ => rename_i ih; intro Q E p s h; exact ih _ h
theorem up {α : Type} {M : Model} {A : Around} {t : Sem α} {Q : α → Shared → Prop} {E : Value → Shared → Prop} {s : Shared}
    (h : wpAny M A t (fun a s' => Up s s' → Q a s') (fun e s' => Up s s' → E e s') s) : wpAny M A t Q E s :=
  fun Γ p hΓ => Sem.wp_mono M Γ _ (fun _ _ _ x => x.1 x.2) (fun _ _ _ x => x.1 x.2) _ _ (up_wp (h Γ p hΓ))
theorem up_code {M : Model} {A : Around} {c : Code} {R : Result → Shared → Prop} {s : Shared} (h : codeAny M A c (fun r s' => Up s s' → R r s') s) : codeAny M A c R s :=
  fun Γ p hc hΓ => let ⟨r, s', hr, hR⟩ := h Γ p hc hΓ; ⟨r, s', hr, hR (up_runs hr)⟩

/-! ## the static part, the frame, the ledger -/
def Bm (g : Heap) : Prop := ∃ mg bm ob, g.Ns mainGlobals mg ∧ mg "__builtins__" = some (.ref bm) ∧ bm ≠ builtinsNs ∧ g.get? bm = some ob ∧ ob.cls = .type "module" ∧ ob.dict = some builtinsNs ∧ ob.data = .plain
structure Sta (K : Frag) (g : Heap) : Prop where
  X : K.In g
  top : ∃ mg mb, g.Ns mainGlobals mg ∧ g.Ns builtinsNs mb ∧ (∀ x : Str, x ≠ "__name__" → mb x = bootBuiltins x)
  lim : g.NoLimit
  bm : Bm g
theorem Sta.keeps {K : Frag} {g h : Heap} (S : Sta K g) (k : ∀ b o, g.get? b = some o → h.get? b = some o) : Sta K h :=
  ⟨S.X.keeps k, let ⟨mg, mb, a, b, c⟩ := S.top; ⟨mg, mb, a.keeps k, b.keeps k, c⟩, S.lim.keeps k, let ⟨mg, bm, ob, a, b, c, d, e⟩ := S.bm; ⟨mg, bm, ob, a.keeps k, b, c, k _ _ d, e⟩⟩

def Rest (s s' : Shared) : Prop := s'.gens = s.gens ∧ s'.drawn = s.drawn ∧ s'.os = s.os
theorem Rest.rfl {s : Shared} : Rest s s := ⟨Eq.refl _, Eq.refl _, Eq.refl _⟩
theorem Rest.trans {a b c : Shared} (x : Rest a b) (y : Rest b c) : Rest a c := ⟨y.1.trans x.1, y.2.1.trans x.2.1, y.2.2.trans x.2.2⟩

abbrev Vals := List (Str × Option Value)
abbrev News' := List (Addr × Obj)

structure St (B : Shared) (g : Heap) (env : Env) (vals : Vals) (s : Shared) (news : News') : Prop where
  led : ∃ m, Led g env.locals m s.heap news ∧ ∀ p ∈ vals, m p.1 = p.2
  loc : ∀ p ∈ vals, env.kindOf p.1 = some .local ∧ (p.1 == ("__debug__" : Str)) = false
  nd : (vals.map (·.1)).Nodup
  kind : env.scope.kind = .function
  tok : 1 ≤ s.toks
  rest : Rest B s
  up : Up B s

inductive At : Vals → Str → Value → Prop
  | head {x v r} : At ((x, some v) :: r) x v
  | tail {p r x v} : At r x v → At (p :: r) x v
theorem At.mem {l : Vals} {x : Str} {v : Value} (h : At l x v) : (x, some v) ∈ l := by
  induction h with
  | head => exact .head _
  | tail _ ih => exact .tail _ ih
inductive Put (x : Str) (v : Value) : Vals → Vals → Prop
  | head {u r} : Put x v ((x, u) :: r) ((x, some v) :: r)
  | tail {p r r'} : Put x v r r' → Put x v (p :: r) (p :: r')
theorem Put.keys {x : Str} {v : Value} {l l' : Vals} (h : Put x v l l') : l'.map (·.1) = l.map (·.1) ∧ x ∈ l.map (·.1) := by
  induction h with
  | head => exact ⟨rfl, .head _⟩
  | tail _ ih => exact ⟨by rw [List.map_cons, List.map_cons, ih.1], .tail _ ih.2⟩
theorem Put.old {x : Str} {v : Value} {l l' : Vals} (h : Put x v l l') (nd : (l.map (·.1)).Nodup) : ∀ p ∈ l', p = (x, some v) ∨ (p ∈ l ∧ p.1 ≠ x) := by
  induction h with
  | head =>
    intro p hp
    rw [List.map_cons, List.nodup_cons] at nd
    rcases List.mem_cons.mp hp with rfl | hp
    · exact .inl rfl
    · exact .inr ⟨.tail _ hp, fun e => nd.1 (by rw [← e]; exact List.mem_map_of_mem (f := (·.1)) hp)⟩
  | tail h ih =>
    intro p hp
    rw [List.map_cons, List.nodup_cons] at nd
    rcases List.mem_cons.mp hp with rfl | hp
    · exact .inr ⟨.head _, fun e => nd.1 (e ▸ h.keys.2)⟩
    · exact (ih nd.2 p hp).imp id fun z => ⟨.tail _ z.1, z.2⟩

theorem Led.setLoc {g h h' : Heap} {L : Addr} {m m' : Str → Option Value} {news : News'} (D : Led g L m h news) (hn : h'.Ns L m') (hs : Heap.SameBut L h h') : Led g L m' h' news :=
  ⟨D.fr.set hn hs, D.nw.set hs, D.ord⟩

section
variable {B : Shared} {g : Heap} {env : Env} {vals vals' : Vals} {s : Shared} {news news' : News'} {M : Model} {A : Around} {E : Value → Shared → Prop} {K : Frag}

theorem St.to (D : St B g env vals s news) {h' : Heap} {tk : Tok} {vals' : Vals} {news' : News'} (hl : ∃ m, Led g env.locals m h' news' ∧ ∀ p ∈ vals', m p.1 = p.2)
    (hk : vals'.map (·.1) = vals.map (·.1)) (u : Up s ⟨h', s.gens, s.drawn, tk, s.os⟩) : St B g env vals' ⟨h', s.gens, s.drawn, tk, s.os⟩ news' where
  led := hl
  loc := fun p hp => by
    have : p.1 ∈ vals.map (·.1) := hk ▸ List.mem_map_of_mem hp
    obtain ⟨q, hq, e⟩ := List.mem_map.mp this
    exact e ▸ D.loc q hq
  nd := hk ▸ D.nd
  kind := D.kind
  tok := Nat.le_trans D.tok u.1
  rest := D.rest
  up := D.up.trans u
/-- the same heap, other tokens -/
theorem St.tk (D : St B g env vals s news) {tk : Tok} (u : Up s ⟨s.heap, s.gens, s.drawn, tk, s.os⟩) : St B g env vals ⟨s.heap, s.gens, s.drawn, tk, s.os⟩ news := D.to D.led rfl u
theorem St.tk1 (D : St B g env vals s news) {n : Nat} : St B g env vals ⟨s.heap, s.gens, s.drawn, s.toks + n, s.os⟩ news := D.tk ⟨Nat.le_add_right _ _, Nat.le_refl _⟩
/-- forget some of the ledger -/
theorem St.drop (D : St B g env vals s news) (h : news'.Sublist news) : St B g env vals s news' :=
  { D with led := let ⟨m, L, e⟩ := D.led; ⟨m, ⟨L.fr, fun p hp => L.nw p (h.subset hp), L.ord.sublist (h.map _)⟩, e⟩ }
theorem St.get (D : St B g env vals s news) {a : Addr} {o : Obj} (h : (a, o) ∈ news) : s.heap.get? a = some o := let ⟨_, L, _⟩ := D.led; L.nw.get h
theorem St.keep (D : St B g env vals s news) : ∀ b o, g.get? b = some o → s.heap.get? b = some o := let ⟨_, L, _⟩ := D.led; L.fr.keep

theorem r_ld {x : Str} {pos : Pos} {v : Value} {Q : Value → Shared → Prop} (D : St B g env vals s news) (hx : At vals x v) (k : Q v s) : wpAny M A (eval (.Name x pos) env) Q E s := by
  obtain ⟨m, L, e⟩ := D.led
  have h := D.loc _ hx.mem
  exact wpAny_Name (wpAny_loadName_local D.kind h.1 L.fr.ns (e _ hx.mem) k) h.2
theorem r_ldn {x : Str} {v : Value} {Q : Value → Shared → Prop} (D : St B g env vals s news) (hx : At vals x v) (k : Q v s) : wpAny M A (loadName env x) Q E s := by
  obtain ⟨m, L, e⟩ := D.led
  exact wpAny_loadName_local D.kind (D.loc _ hx.mem).1 L.fr.ns (e _ hx.mem) k
theorem r_st {x : Str} {v : Value} {Q : Unit → Shared → Prop} (D : St B g env vals s news) (hx : Put x v vals vals') (k : ∀ s', St B g env vals' s' news → Q () s') : wpAny M A (storeName env x v) Q E s := by
  obtain ⟨m, L, e⟩ := D.led
  have hm : ∃ p ∈ vals, p.1 = x := by obtain ⟨p, hp, h⟩ := List.mem_map.mp hx.keys.2; exact ⟨p, hp, h⟩
  obtain ⟨p, hp, rfl⟩ := hm
  refine wpAny_storeName_local (D.loc p hp).1 L.fr.ns (fun h' hn hs => k _ (D.to ⟨_, Led.setLoc L hn hs, fun q hq => ?_⟩ hx.keys.1 ⟨Nat.le_add_right _ _, Nat.le_of_eq hs.1.symm⟩)) ?_
  · rcases hx.old D.nd q hq with rfl | ⟨hq, hne⟩
    · exact if_pos rfl
    · exact (if_neg hne).trans (e q hq)
  · rw [D.kind]; rfl

/-- the names of the text's own and the built-ins -/
structure Glo (K : Frag) (env : Env) (gl : List (Str × Value)) : Prop where
  glo : env.globals = mainGlobals
  bui : env.builtins = builtinsNs
  gl : ∀ p ∈ gl, env.kindOf p.1 = some .globalImplicit ∧ (p.1 == ("__debug__" : Str)) = false ∧ (nsIn K mainGlobals p.1 = some (some p.2) ∨ (nsIn K mainGlobals p.1 = some none ∧ bootBuiltins p.1 = some p.2 ∧ p.1 ≠ "__name__"))
theorem r_gl {x : Str} {pos : Pos} {v : Value} {gl : List (Str × Value)} {Q : Value → Shared → Prop} (S : Sta K g) (H : Glo K env gl) (D : St B g env vals s news) (hx : (x, v) ∈ gl) (k : Q v s) :
    wpAny M A (eval (.Name x pos) env) Q E s := by
  obtain ⟨m, L, e⟩ := D.led
  obtain ⟨h1, h2, h3⟩ := H.gl _ hx
  obtain ⟨mg, mb, hg, hb, hbb⟩ := S.top
  refine Name_function_global D.kind h1 ?_ h2
  rcases h3 with h3 | ⟨h3, h4, h5⟩
  · exact loadGlobal_global (by rw [H.glo]; exact hg.keeps L.fr.keep) (mg_of S.X hg h3) k
  · exact loadGlobal_builtin (by rw [H.glo]; exact hg.keeps L.fr.keep) (mg_none_of S.X hg h3) (by rw [H.bui]; exact hb.keeps L.fr.keep) ((hbb _ h5).trans h4) k
end

/-! ## contracts -/
structure Room (A : Around) (n : Nat) : Prop where
  hd : A.handled = none
  dp : A.depth + n < recursionLimit
  un : A.units + 10 * n < cLine
theorem Room.less {A : Around} {n m : Nat} (h : Room A n) (k : m ≤ n) : Room A m := ⟨h.hd, by have := h.dp; omega, by have := h.un; omega⟩
theorem Room.in1 {A : Around} {n : Nat} (h : Room A (n + 1)) : Room A.in1 n := ⟨h.hd, by have := h.dp; rw [Around.in1_depth]; omega, by have := h.un; rw [Around.in1_units]; omega⟩
theorem Room.deeper {A : Around} {n : Nat} {env : Env} (h : Room A (n + 1)) : Room (A.deeper env) n := ⟨h.hd, by have := h.dp; simp only [Around.deeper]; omega, by have := h.un; simp only [Around.deeper]; omega⟩

structure Own (g : Heap) (s : Shared) (own : News') : Prop where
  keep : ∀ b o, g.get? b = some o → s.heap.get? b = some o
  size : g.objs.size ≤ s.heap.objs.size
  ord : (own.map (·.1)).Pairwise (· > ·)
  at_ : ∀ p ∈ own, s.heap.get? p.1 = some p.2 ∧ g.get? p.1 = none
  tok : 1 ≤ s.toks

def Fn (K : Frag) (prog : Program) (w : World) (n : Nat) (f : Value) (args : List Value) (own : News') (post : Value → News' → Prop) : Prop :=
  ∀ {A : Around} {s : Shared} {g : Heap} {R : Result → Shared → Prop}, Sta K g → Room A n → Own g s own →
    (∀ v s' own', post v own' → Own g s' own' → (∀ p ∈ own', p.1 ∈ own.map (·.1) ∨ s.heap.objs.size ≤ p.1) → Rest s s' → Up s s' → R (.ok (.ret v)) s') →
    codeAny (model prog w) A (.call f ⟨args, []⟩) R s

def retOf : Flow → Value
  | .ret v => v
  | _ => .none

/-- a body's start: the arguments are bound, nothing else -/
def startVals (binds : List (Str × Value)) (more : List Str) : Vals := binds.map (fun p => (p.1, some p.2)) ++ more.map fun x => (x, none)

theorem lookup_rev {binds : List (Str × Value)} (nd : (binds.map (·.1)).Nodup) {p : Str × Value} (hp : p ∈ binds) : binds.reverse.lookup p.1 = some p.2 := by
  induction binds with
  | nil => cases hp
  | cons q r ih =>
    rw [List.map_cons, List.nodup_cons] at nd
    rw [List.reverse_cons, List.lookup_append]
    rcases List.mem_cons.mp hp with rfl | hp
    · have : List.lookup p.1 r.reverse = none := by
        rw [List.lookup_eq_none_iff]
        intro q hq
        rw [List.mem_reverse] at hq
        simp only [beq_eq_false_iff_ne, ne_eq, bne_iff_ne]
        intro e
        exact nd.1 (by rw [e]; exact List.mem_map_of_mem (f := (·.1)) hq)
      rw [this]
      show List.lookup p.1 [(p.1, p.2)] = _
      simp [List.lookup]
    · rw [ih nd.2 hp]; rfl
theorem lookup_rev_none {binds : List (Str × Value)} {x : Str} (h : x ∉ binds.map (·.1)) : binds.reverse.lookup x = none := by
  rw [List.lookup_eq_none_iff]
  intro q hq
  rw [List.mem_reverse] at hq
  simp only [beq_eq_false_iff_ne, ne_eq, bne_iff_ne]
  intro e
  exact h (by rw [e]; exact List.mem_map_of_mem (f := (·.1)) hq)

section
variable {prog : Program} {w : World} {A : Around} {R : Result → Shared → Prop} {s : Shared} {g : Heap} {own : News'} {K : Frag} {n : Nat}
  {name qual : Str} {params : Arguments} {body : List Stmt} {scope : Scope} {dV kV doc pm cdv ct oc : Value} {an od : Option Addr} {osl : Array (Option Value)} {f : Addr} {args : Args} {binds : List (Str × Value)}
  {gl : List (Str × Value)} {more : List Str}

def bodyOk (scope : Scope) (binds : List Str) (more : List Str) : Bool :=
  (binds ++ more).all (fun x => scope.names.lookup x == some .local && !(x == ("__debug__" : Str))) && decide ((binds ++ more).Nodup) && scope.names.all (fun x => x.2 != .cell) && !scope.isCoroutine && !scope.isGenerator && scope.kind == .function
def gloOk (K : Frag) (scope : Scope) (gl : List (Str × Value)) : Bool :=
  gl.all fun p => scope.names.lookup p.1 == some .globalImplicit && !(p.1 == ("__debug__" : Str)) && (match nsIn K mainGlobals p.1 with
    | some (some v) => decide (v = p.2)
    | some none => decide (bootBuiltins p.1 = some p.2) && !(p.1 == ("__name__" : Str))
    | none => false)
theorem enterC (S : Sta K g) (O : Own g s own) (hroom : Room A (n + 1))
    (ho : K.lookup f = some ⟨oc, od, .func (fnX name qual params body scope [] dV kV doc pm an cdv ct), osl⟩) (hcd : codeIn K cdv qual = true)
    (hbind : BindsTo s (fnX name qual params body scope [] dV kV doc pm an cdv ct) args binds)
    (hok : bodyOk scope (binds.map (·.1)) more = true) (hgl : gloOk K scope gl = true)
    (h : ∀ env A' s1, Room A' n → env.code = cdv → Glo K env gl → St s g env (startVals binds more) s1 own →
      wpAny (model prog w) A' (execs body env) (fun fl s' => R (.ok (.ret (retOf fl))) s') (fun e s' => wpAny (model prog w) A' (leaving env e) (fun _ s'' => R (.error e) s'') (fun e' s'' => R (.error e') s'') s') s1) :
    codeAny (model prog w) A (.call (.ref f) args) R s := by
  unfold bodyOk at hok
  simp only [Bool.and_eq_true, List.all_eq_true, beq_iff_eq, Bool.not_eq_true', decide_eq_true_eq, bne_iff_ne, ne_eq] at hok
  obtain ⟨⟨⟨⟨⟨h1, h2⟩, h3⟩, h4⟩, h5⟩, h6⟩ := hok
  refine codeAny_call_def (by have := hroom.dp; omega) (O.keep _ _ (S.X _ _ ho)) rfl (S.lim.keeps O.keep) ((codeRec_of S.X hcd).keeps O.keep) rfl hbind h3
    (fun x hx => (h1 x.1 (List.mem_append_left _ (List.mem_map_of_mem hx))).1) (fun h₁ hns hk => ?_) h4 h5 h6
  refine wpAny_mono (h (callEnv (fnX name qual params body scope [] dV kV doc pm an cdv ct) s.heap.objs.size f) _ _ hroom.deeper rfl ⟨rfl, rfl, fun p hp => ?_⟩ ?_) (fun fl s' x => ?_) fun _ _ x => x
  · unfold gloOk at hgl
    have := List.all_eq_true.mp hgl p hp
    simp only [Bool.and_eq_true, beq_iff_eq, Bool.not_eq_true'] at this
    obtain ⟨⟨a, b⟩, c⟩ := this
    refine ⟨a, b, ?_⟩
    split at c
    · rename_i v e; exact .inl (by rw [e, of_decide_eq_true c])
    · rename_i e
      simp only [Bool.and_eq_true, decide_eq_true_eq, Bool.not_eq_true', beq_eq_false_iff_ne] at c
      exact .inr ⟨e, c.1, c.2⟩
    · cases c
  · have hne : ∀ p ∈ own, p.1 ≠ s.heap.objs.size := fun p hp => Nat.ne_of_lt (Heap.lt_size (O.at_ p hp).1)
    refine ⟨⟨_, ⟨⟨hns, fun b o e => hk b o (O.keep b o e), O.size⟩, fun p hp => ⟨hk _ _ (O.at_ p hp).1, hne p hp, (O.at_ p hp).2⟩, O.ord⟩, ?_⟩, ?_, ?_, h6, ?_, ?_, ?_⟩
    · intro p hp
      have nd' : (binds.map (·.1)).Nodup := (List.nodup_append.mp h2).1
      rcases List.mem_append.mp hp with hp | hp
      · obtain ⟨q, hq, rfl⟩ := List.mem_map.mp hp
        exact lookup_rev nd' hq
      · obtain ⟨q, hq, rfl⟩ := List.mem_map.mp hp
        exact lookup_rev_none fun z => (List.nodup_append.mp h2).2.2 _ z _ hq rfl
    · intro p hp
      refine h1 p.1 ?_
      rcases List.mem_append.mp hp with hp | hp
      · obtain ⟨q, hq, rfl⟩ := List.mem_map.mp hp
        exact List.mem_append_left _ (List.mem_map_of_mem hq)
      · obtain ⟨q, hq, rfl⟩ := List.mem_map.mp hp
        exact List.mem_append_right _ hq
    · have : (startVals binds more).map (·.1) = binds.map (·.1) ++ more := by
        unfold startVals; rw [List.map_append, List.map_map, List.map_map]; congr 1; exact List.map_id _
      rw [this]; exact h2
    · have := O.tok; show 1 ≤ s.toks + _; omega
    · exact ⟨rfl, rfl, rfl⟩
    · refine ⟨Nat.le_add_right _ _, ?_⟩
      show s.heap.objs.size ≤ h₁.objs.size
      exact Nat.le_of_lt hns.lt
  · cases fl <;> exact x
theorem enter (S : Sta K g) (O : Own g s own) (hroom : Room A (n + 1))
    (ho : K.lookup f = some ⟨oc, od, .func (fnX name qual params body scope [] dV kV doc pm an cdv ct), osl⟩) (hcd : codeIn K cdv qual = true)
    (hbind : BindsTo s (fnX name qual params body scope [] dV kV doc pm an cdv ct) args binds)
    (hok : bodyOk scope (binds.map (·.1)) more = true) (hgl : gloOk K scope gl = true)
    (h : ∀ env A' s1, Room A' n → Glo K env gl → St s g env (startVals binds more) s1 own →
      wpAny (model prog w) A' (execs body env) (fun fl s' => R (.ok (.ret (retOf fl))) s') (fun e s' => wpAny (model prog w) A' (leaving env e) (fun _ s'' => R (.error e) s'') (fun e' s'' => R (.error e') s'') s') s1) :
    codeAny (model prog w) A (.call (.ref f) args) R s :=
  enterC S O hroom ho hcd hbind hok hgl fun env A' s1 a _ b c => h env A' s1 a b c
end

inductive UpdP (a : Addr) (o o' : Obj) : News' → News' → Prop
  | head {r} : UpdP a o o' ((a, o) :: r) ((a, o') :: r)
  | tail {p r r'} : UpdP a o o' r r' → UpdP a o o' (p :: r) (p :: r')
theorem UpdP.keys {a : Addr} {o o' : Obj} {l l' : News'} (h : UpdP a o o' l l') : l'.map (·.1) = l.map (·.1) ∧ (a, o) ∈ l := by
  induction h with
  | head => exact ⟨rfl, .head _⟩
  | tail _ ih => exact ⟨by rw [List.map_cons, List.map_cons, ih.1], .tail _ ih.2⟩
theorem UpdP.old {a : Addr} {o o' : Obj} {l l' : News'} (h : UpdP a o o' l l') (nd : (l.map (·.1)).Pairwise (· > ·)) : ∀ p ∈ l', p = (a, o') ∨ (p ∈ l ∧ p.1 ≠ a) := by
  induction h with
  | head =>
    intro p hp
    rw [List.map_cons, List.pairwise_cons] at nd
    rcases List.mem_cons.mp hp with rfl | hp
    · exact .inl rfl
    · exact .inr ⟨.tail _ hp, Nat.ne_of_lt (nd.1 _ (List.mem_map_of_mem (f := (·.1)) hp))⟩
  | tail h ih =>
    intro p hp
    rw [List.map_cons, List.pairwise_cons] at nd
    rcases List.mem_cons.mp hp with rfl | hp
    · exact .inr ⟨.head _, Nat.ne_of_gt (nd.1 _ (List.mem_map_of_mem (f := (·.1)) h.keys.2))⟩
    · exact (ih nd.2 p hp).imp id fun z => ⟨.tail _ z.1, z.2⟩

section
variable {B : Shared} {g : Heap} {env : Env} {vals vals' : Vals} {s : Shared} {news news' : News'} {M : Model} {A : Around} {E : Value → Shared → Prop} {K : Frag} {prog : Program} {w : World} {n : Nat}
  {f : Value} {args : List Value}

/-- the frame behind a call that has turned the objects «own» of the ledger alone -/
theorem St.after (D : St B g env vals s news) {own own' : News'} {s' : Shared} (hsub : ∀ p ∈ own, p ∈ news) (O : Own (hideAll s.heap (own.map (·.1))) s' own') (r : Rest s s') (u : Up s s')
    (hm : ∀ p ∈ news', p ∈ own' ∧ g.get? p.1 = none ∧ p.1 ≠ env.locals ∨ (p ∈ news ∧ p.1 ∉ own.map (·.1))) (ho : (news'.map (·.1)).Pairwise (· > ·)) : St B g env vals s' news' := by
  obtain ⟨m, L, e⟩ := D.led
  have hg : ∀ b o, g.get? b = some o → b ∉ own.map (·.1) := fun b o q z => by
    obtain ⟨p, hp, rfl⟩ := List.mem_map.mp z
    rw [(L.nw p (hsub p hp)).2.2] at q; cases q
  have hL : env.locals ∉ own.map (·.1) := fun z => by
    obtain ⟨p, hp, q⟩ := List.mem_map.mp z
    exact (L.nw p (hsub p hp)).2.1 q
  refine ⟨⟨m, ⟨⟨?_, fun b o q => O.keep _ _ (hideAll_get _ (L.fr.keep b o q) (hg b o q)), L.fr.above⟩, fun p hp => ?_, ho⟩, e⟩, D.loc, D.nd, D.kind, Nat.le_trans D.tok u.1, D.rest.trans r, D.up.trans u⟩
  · obtain ⟨o, es, ep, h1, h2⟩ := L.fr.ns
    exact ⟨o, es, ep, O.keep _ _ (hideAll_get _ h1 hL), h2⟩
  · rcases hm p hp with ⟨h1, h2, h3⟩ | ⟨h1, h2⟩
    · exact ⟨(O.at_ p h1).1, h3, h2⟩
    · have z := L.nw p h1
      exact ⟨O.keep _ _ (hideAll_get _ z.1 h2), z.2⟩
theorem St.own (D : St B g env vals s news) {own : News'} (hsub : own.Sublist news) : Own (hideAll s.heap (own.map (·.1))) s own := by
  obtain ⟨m, L, e⟩ := D.led
  exact ⟨fun b o q => of_hideAll _ q, Nat.le_of_eq (hideAll_size _ _), L.ord.sublist (hsub.map _), fun p hp => ⟨(L.nw p (hsub.subset hp)).1, hideAll_none _ (List.mem_map_of_mem hp)⟩, D.tok⟩
theorem St.sta (D : St B g env vals s news) (S : Sta K g) {own : News'} (hsub : own.Sublist news) : Sta K (hideAll s.heap (own.map (·.1))) := by
  obtain ⟨m, L, e⟩ := D.led
  refine S.keeps fun b o q => hideAll_get _ (L.fr.keep b o q) fun z => ?_
  obtain ⟨p, hp, rfl⟩ := List.mem_map.mp z
  rw [(L.nw p (hsub.subset hp)).2.2] at q; cases q

/-- a call that changes nothing that stands, and hands back some new objects -/
theorem use0 {post : Value → News' → Prop} {Q : Value → Shared → Prop} (C : Fn K prog w n f args [] post) (S : Sta K g) (hA : Room A n) (D : St B g env vals s news)
    (k : ∀ v own' s', post v own' → St B g env vals s' (own' ++ news) → Q v s') : wpAny (model prog w) A (call f args []) Q E s := by
  have hs : ([] : News').Sublist news := List.nil_sublist _
  obtain ⟨m, L, e⟩ := D.led
  refine wpAny_call (C (D.sta S hs) hA (D.own hs) fun v s' own' hp O hnew r u => k v own' s' hp (D.after (own := []) (fun p hp => nomatch hp) O r u (fun p hp => ?_) ?_))
  · rcases List.mem_append.mp hp with hp | hp
    · have hge : s.heap.objs.size ≤ p.1 := (hnew p hp).resolve_left fun z => nomatch z
      refine .inl ⟨hp, ?_, fun q => ?_⟩
      · cases q : g.get? p.1 with
        | none => rfl
        | some o => exact absurd (Heap.lt_size (L.fr.keep _ _ q)) (Nat.not_lt.mpr hge)
      · have := L.fr.ns.lt; rw [← q] at this; exact absurd this (Nat.not_lt.mpr hge)
    · exact .inr ⟨hp, fun z => nomatch z⟩
  · rw [List.map_append]
    refine List.pairwise_append.mpr ⟨O.ord, L.ord, fun a ha b hb => ?_⟩
    obtain ⟨p, hp, rfl⟩ := List.mem_map.mp ha
    obtain ⟨q, hq, rfl⟩ := List.mem_map.mp hb
    have hge : s.heap.objs.size ≤ p.1 := (hnew p hp).resolve_left fun z => nomatch z
    exact Nat.lt_of_lt_of_le (Heap.lt_size (L.nw q hq).1) hge

/-- a frame's end: what the caller sees -/
theorem St.leave {own : News'} {B : Shared} (D : St B g env vals s news) (hB : ∀ p ∈ news, p.1 ∈ own.map (·.1) ∨ B.heap.objs.size ≤ p.1) (hg : g.objs.size ≤ B.heap.objs.size)
    {R : Result → Shared → Prop} {v : Value} {post : Value → News' → Prop} (hp : post v news)
    (k : ∀ v s' own', post v own' → Own g s' own' → (∀ p ∈ own', p.1 ∈ own.map (·.1) ∨ B.heap.objs.size ≤ p.1) → Rest B s' → Up B s' → R (.ok (.ret v)) s') : R (.ok (.ret v)) s := by
  obtain ⟨m, L, e⟩ := D.led
  exact k v s news hp ⟨L.fr.keep, Nat.le_trans hg D.up.2, L.ord, fun p hp => ⟨(L.nw p hp).1, (L.nw p hp).2.2⟩, D.tok⟩ hB D.rest D.up

/-- an end that hands back a text, nothing made -/
theorem St.leaveS {B : Shared} {l l' : List Nat} {t : Tok} (D : St B g env vals s []) (hg : g.objs.size ≤ B.heap.objs.size) {R : Result → Shared → Prop} {T' : List Nat → Str} (e : l = l')
    (k : ∀ v s' own', (∃ t, v = .str (T' l') t ∧ own' = []) → Own g s' own' → (∀ p ∈ own', p.1 ∈ ([] : News').map (·.1) ∨ B.heap.objs.size ≤ p.1) → Rest B s' → Up B s' → R (.ok (.ret v)) s') : R (.ok (.ret (.str (T' l) t))) s :=
  D.leave (own := []) (fun _ hp => nomatch hp) hg (post := fun v own => ∃ t, v = .str (T' l') t ∧ own = []) ⟨t, by rw [e], rfl⟩ k
/-! ## statements -/
theorem r_assign {x : Str} {pos' pos : Pos} {e : Expr} {Q : Flow → Shared → Prop} (h : wpAny M A (eval e env) (fun v s₁ => wpAny M A (storeName env x v) (fun _ => Q .next) E s₁) E s)
    (hs : swapsWith e (some (.Name x pos')) pos.line env = pure false := by rfl) : wpAny M A (exec (.Assign [.Name x pos'] e pos) env) Q E s := wpAny_Assign_Name h hs

theorem while_loop {test : Expr} {body orelse : List Stmt} {pos : Pos} {Q : Flow → Shared → Prop} (I : Nat → Shared → Prop)
    (turn : ∀ n s, I n s → wpAny M A (PySem.isTrue test env (eval test env)) (fun b s1 => if b = true then
        wpAny M A (execs body env) (fun f s2 => match f with | .next | .cont => ∃ m, m < n ∧ I m s2 | .brk => Q .next s2 | .ret v => Q (.ret v) s2) (fun _ _ => False) s1
      else wpAny M A (execs orelse env) Q (fun _ _ => False) s1) (fun _ _ => False) s) (n : Nat) (h : I n s) (hM : M.den = denote table := by rfl) : wpAny M A (exec (.While test body orelse pos) env) Q E s := by
  refine wpAny_While (codeAny_loop rfl I (fun n s hI => ?_) n h)
  rw [Around.under_of_weight (by rfl)]
  rw [hM]
  show wpAny M A ((whileTurn test body orelse env).onRaise _) _ _ s
  refine wpAny_onRaise (wpAny_mono ?_ (fun _ _ x => x) (fun _ _ x => x.elim) (E := fun _ _ => False))
  unfold whileTurn
  refine wpAny_bind (wpAny_mono (turn n s hI) (fun b s1 hb => ?_) fun _ _ x => x)
  cases b with
  | true =>
    rw [if_pos rfl] at hb ⊢
    refine wpAny_bind (wpAny_mono hb (fun fl s2 hf => ?_) fun _ _ x => x)
    cases fl with
    | next => exact wpAny_pure ⟨rfl, hf⟩
    | cont => exact wpAny_pure ⟨rfl, hf⟩
    | brk => exact wpAny_pure hf
    | ret v => exact wpAny_pure hf
  | false =>
    rw [if_neg (by decide)] at hb ⊢
    exact wpAny_bind (wpAny_mono hb (fun fl s2 hf => wpAny_pure hf) fun _ _ x => x)
end

/-! ## a subscript of a name -/
theorem subscripted_slice {lo up : Option Expr} {p : Pos} {b : Bool} {v i : Value} : subscripted (.Slice lo up none p) b v i = operate [i, v] (getItem v i) := rfl
theorem subscripted_name {x : Str} {p : Pos} {v i : Value} : subscripted (.Name x p) false v i = operate [v, i] (getItem v i) := rfl
theorem subscripted_const {x : Const} {n : Nat} {p : Pos} {v i : Value} : subscripted (.Constant x n p) false v i = operate [v, i] (getItem v i) := rfl
theorem subscripted_bin {x y : Expr} {op : Operator} {p : Pos} {v i : Value} : subscripted (.BinOp x op y p) false v i = operate [v, i] (getItem v i) := rfl
theorem subscripted_un {x : Expr} {op : UnaryOp} {p : Pos} {v i : Value} : subscripted (.UnaryOp op x p) false v i = operate [v, i] (getItem v i) := rfl
theorem temporary_str {e : Expr} {x : Str} {t : Tok} : ∀ r, letTemporaryGo e (.str x t) r = pure () := fun r => by cases e <;> rfl
theorem temporary_name {x : Str} {p : Pos} {v : Value} : ∀ r, letTemporaryGo (.Name x p) v r = pure () := fun _ => rfl

section
variable {B : Shared} {g : Heap} {env : Env} {vals vals' : Vals} {s : Shared} {news news' : News'} {M : Model} {A : Around} {E : Value → Shared → Prop} {K : Frag} {prog : Program} {w : World}

/-! ## constants -/
theorem r_str {x : Str} {i : Nat} {pos : Pos} {Q : Value → Shared → Prop} (D : St B g env vals s news) (k : ∀ t s', 1 ≤ t → St B g env vals s' news → (∀ s'', Up s' s'' → t < s''.toks) → Q (.str x t) s') : wpAny M A (eval (.Constant (.str x) i pos) env) Q E s :=
  Constant_str (k _ _ D.tok D.tk1 fun _ u => u.1)
theorem r_int {x : Int} {i : Nat} {pos : Pos} {Q : Value → Shared → Prop} (D : St B g env vals s news) (k : ∀ t s', St B g env vals s' news → Q (.int x t) s') : wpAny M A (eval (.Constant (.int x) i pos) env) Q E s :=
  wpAny_Constant_int (k _ _ D.tk1)

/-! ## texts -/
theorem r_add_str {x y : Str} {t u : Tok} {Q : Value → Shared → Prop} (D : St B g env vals s news) (hsz : x.length + y.length ≤ sizeLine) (k : ∀ t s', St B g env vals s' news → Q (.str (x ++ y) t) s') :
    wpAny (model prog w) A (binaryOp .Add (.str x t) (.str y u)) Q E s := up (SBL.add (fun t' j _ u => k _ _ (D.tk u)) hsz)
theorem r_iadd_str {x y : Str} {t u : Tok} {Q : Value → Shared → Prop} (D : St B g env vals s news) (hsz : x.length + y.length ≤ sizeLine) (k : ∀ t s', St B g env vals s' news → Q (.str (x ++ y) t) s') :
    wpAny (model prog w) A (inplaceOp .Add (.str x t) (.str y u)) Q E s := up (SBL.iadd (fun t' j _ u => k _ _ (D.tk u)) hsz)
theorem small_len {x : Str} (h : x.length ≤ sizeLine) : (x.length : Int) < 9223372036854775808 := by rw [sizeLine_eq] at h; omega
theorem r_len_str {x : Str} {t : Tok} {Q : Value → Shared → Prop} (D : St B g env vals s news) (hsz : x.length ≤ sizeLine) (k : ∀ t s', St B g env vals s' news → Q (.int x.length t) s') :
    wpAny (model prog w) A (call (.builtin "len") [.str x t]) Q E s := SBL.len (small_len hsz) (k _ _ (D.tk1 (n := 2)))
theorem r_truthy_str {x : Str} {t : Tok} {Q : Bool → Shared → Prop} (D : St B g env vals s news) (hsz : x.length ≤ sizeLine) (k : ∀ s', St B g env vals s' news → Q ((x.length : Int) != 0) s') :
    wpAny (model prog w) A (truthy (.str x t)) Q E s := SBL.truthy (small_len hsz) (k _ (D.tk1 (n := 2)))
theorem r_item_str {e sl : Expr} {x : Str} {t u : Tok} {i : Int} {Q : Value → Shared → Prop} (D : St B g env vals s news) (hsz : x.length ≤ sizeLine) (h0 : -(x.length : Int) ≤ i) (h1 : i < x.length) (k : ∀ t s', St B g env vals s' news → Q (.str (Txt.item x i) t) s')
    (hs : subscripted sl false (.str x t) (.int i u) = operate [.str x t, .int i u] (getItem (.str x t) (.int i u)) := by first | with_reducible exact subscripted_slice | with_reducible exact subscripted_name | with_reducible exact subscripted_const | with_reducible exact subscripted_bin | with_reducible exact subscripted_un | with_unfolding_all rfl) (ht : ∀ r, letTemporaryGo e (.str x t) r = pure () := by first | with_reducible exact temporary_str | with_reducible exact temporary_name | (intro _; with_unfolding_all rfl)) :
    wpAny (model prog w) A (subscriptTail e sl (.str x t) (.int i u)) Q E s :=
  item_str (fitsSsize_of (N := 9223372036854775808) (by have := small_len hsz; omega) (by have := small_len hsz; omega) (Int.le_refl _)) h0 h1 (fun _ => k _ _ D.tk1) hs ht

/-- the state with the slice object pushed -/
abbrev pushSlice (s : Shared) (a b c : Value) : Shared := { s with heap := s.heap.push { cls := .type "slice", data := .fields #[a, b, c] } }
theorem r_slice {o : Expr} {lo up' st : Option Expr} {p pos : Pos} {Q : Value → Shared → Prop}
    (h : wpAny M A (eval o env) (fun ov s1 => wpAny M A (evalPart lo env) (fun l s2 => wpAny M A (evalPart up' env) (fun u s3 => wpAny M A (evalPart st env) (fun c s4 =>
      wpAny M A (subscriptTail o (.Slice lo up' st p) ov (.ref s4.heap.objs.size)) Q E (pushSlice s4 l u c)) E s3) E s2) E s1) E s) :
    wpAny M A (eval (.Subscript o (.Slice lo up' st p) pos) env) Q E s :=
  Subscript_ (wpAny_mono h (fun ov s1 h1 => wpAny_Slice h1) fun _ _ x => x)
theorem St.pushFr (D : St B g env vals s news) : ∃ m, Fr g env.locals s.heap m ∧ News g env.locals s.heap news ∧ (∀ {h' : Heap} {tk}, Fr g env.locals h' m → News g env.locals h' news → Up s ⟨h', s.gens, s.drawn, tk, s.os⟩ → St B g env vals ⟨h', s.gens, s.drawn, tk, s.os⟩ news) := by
  obtain ⟨m, L, e⟩ := D.led
  exact ⟨m, L.fr, L.nw, fun F N u => D.to ⟨m, ⟨F, N, L.ord⟩, e⟩ rfl u⟩
theorem up_push {s s' : Shared} {o : Obj} (u : Up { s with heap := s.heap.push o } s') : Up s s' := ⟨u.1, by have := u.2; rw [Heap.size_push] at this; omega⟩
theorem r_slice_ss {e sl : Expr} {x : Str} {t : Tok} {i j : Int} {ui uj : Tok} {Q : Value → Shared → Prop} (D : St B g env vals s news) (hsz : x.length ≤ sizeLine) (k : ∀ t s', St B g env vals s' news → Q (.str (Txt.slice x (some i) (some j)) t) s')
    (hs : subscripted sl false (.str x t) (.ref s.heap.objs.size) = operate [.ref s.heap.objs.size, .str x t] (getItem (.str x t) (.ref s.heap.objs.size)) := by first | with_reducible exact subscripted_slice | with_reducible exact subscripted_name | with_reducible exact subscripted_const | with_reducible exact subscripted_bin | with_reducible exact subscripted_un | with_unfolding_all rfl)
    (ht : ∀ r, letTemporaryGo e (.str x t) r = pure () := by first | with_reducible exact temporary_str | with_reducible exact temporary_name | (intro _; with_unfolding_all rfl)) :
    wpAny (model prog w) A (subscriptTail e sl (.str x t) (.ref s.heap.objs.size)) Q E (pushSlice s (.int i ui) (.int j uj) .none) := by
  obtain ⟨m, F, N, c⟩ := D.pushFr
  exact up (slice_strN_ss (s := s) F N (fun h' t' tk F' N' u => k _ _ (c F' N' (up_push u))) hs ht hsz)
theorem r_slice_ns {e sl : Expr} {x : Str} {t : Tok} {j : Int} {uj : Tok} {Q : Value → Shared → Prop} (D : St B g env vals s news) (hsz : x.length ≤ sizeLine) (k : ∀ t s', St B g env vals s' news → Q (.str (Txt.slice x none (some j)) t) s')
    (hs : subscripted sl false (.str x t) (.ref s.heap.objs.size) = operate [.ref s.heap.objs.size, .str x t] (getItem (.str x t) (.ref s.heap.objs.size)) := by first | with_reducible exact subscripted_slice | with_reducible exact subscripted_name | with_reducible exact subscripted_const | with_reducible exact subscripted_bin | with_reducible exact subscripted_un | with_unfolding_all rfl)
    (ht : ∀ r, letTemporaryGo e (.str x t) r = pure () := by first | with_reducible exact temporary_str | with_reducible exact temporary_name | (intro _; with_unfolding_all rfl)) :
    wpAny (model prog w) A (subscriptTail e sl (.str x t) (.ref s.heap.objs.size)) Q E (pushSlice s .none (.int j uj) .none) := by
  obtain ⟨m, F, N, c⟩ := D.pushFr
  exact up (slice_strN_ns (s := s) F N (fun h' t' tk F' N' u => k _ _ (c F' N' (up_push u))) hs ht hsz)
theorem r_slice_sn {e sl : Expr} {x : Str} {t : Tok} {i : Int} {ui : Tok} {Q : Value → Shared → Prop} (D : St B g env vals s news) (hsz : x.length ≤ sizeLine) (k : ∀ t s', St B g env vals s' news → Q (.str (Txt.slice x (some i) none) t) s')
    (hs : subscripted sl false (.str x t) (.ref s.heap.objs.size) = operate [.ref s.heap.objs.size, .str x t] (getItem (.str x t) (.ref s.heap.objs.size)) := by first | with_reducible exact subscripted_slice | with_reducible exact subscripted_name | with_reducible exact subscripted_const | with_reducible exact subscripted_bin | with_reducible exact subscripted_un | with_unfolding_all rfl)
    (ht : ∀ r, letTemporaryGo e (.str x t) r = pure () := by first | with_reducible exact temporary_str | with_reducible exact temporary_name | (intro _; with_unfolding_all rfl)) :
    wpAny (model prog w) A (subscriptTail e sl (.str x t) (.ref s.heap.objs.size)) Q E (pushSlice s (.int i ui) .none .none) := by
  obtain ⟨m, F, N, c⟩ := D.pushFr
  exact up (slice_strN_sn (s := s) F N (fun h' t' tk F' N' u => k _ _ (c F' N' (up_push u))) hs ht hsz)

/-! ## numbers -/
theorem r_add_int {a b : Int} {t u : Tok} {Q : Value → Shared → Prop} (D : St B g env vals s news) (k : ∀ t s', St B g env vals s' news → Q (.int (a + b) t) s') : wpAny (model prog w) A (binaryOp .Add (.int a t) (.int b u)) Q E s := add_int (k _ _ D.tk1)
theorem r_iadd_int {a b : Int} {t u : Tok} {Q : Value → Shared → Prop} (D : St B g env vals s news) (k : ∀ t s', St B g env vals s' news → Q (.int (a + b) t) s') : wpAny (model prog w) A (inplaceOp .Add (.int a t) (.int b u)) Q E s := iadd_int (k _ _ D.tk1)
theorem r_sub_int {a b : Int} {t u : Tok} {Q : Value → Shared → Prop} (D : St B g env vals s news) (k : ∀ t s', St B g env vals s' news → Q (.int (a - b) t) s') : wpAny (model prog w) A (binaryOp .Sub (.int a t) (.int b u)) Q E s := sub_int (k _ _ D.tk1)
theorem r_neg_int {a : Int} {t : Tok} {Q : Value → Shared → Prop} (D : St B g env vals s news) (k : ∀ t s', St B g env vals s' news → Q (.int (-a) t) s') : wpAny (model prog w) A (unaryOp .USub (.int a t)) Q E s := neg_int (k _ _ D.tk1)
theorem r_mod_int {a b : Int} {t u : Tok} {Q : Value → Shared → Prop} (D : St B g env vals s news) (hb : b ≠ 0) (k : ∀ t s', St B g env vals s' news → Q (.int (a.fmod b) t) s') : wpAny (model prog w) A (binaryOp .Mod (.int a t) (.int b u)) Q E s := mod_int' hb (k _ _ D.tk1)

theorem ite_t {c : Bool} {P Q : Prop} (h : c = true) (k : P) : if c = true then P else Q := by rw [if_pos h]; exact k
theorem ite_f {c : Bool} {P Q : Prop} (h : c = false) (k : Q) : if c = true then P else Q := by rw [if_neg (by rw [h]; decide)]; exact k
theorem ite_b {c : Bool} {P Q : Prop} (h1 : c = true → P) (h2 : c = false → Q) : if c = true then P else Q := by
  cases h : c with
  | true => rw [if_pos rfl]; exact h1 h
  | false => rw [if_neg (by decide)]; exact h2 h
end

def T (l : List Nat) : Str := ⟨l.toArray⟩
theorem T_cps (l : List Nat) : (T l).cps = l.toArray := rfl
theorem T_list (l : List Nat) : (T l).cps.toList = l := rfl
theorem T_of (x : Str) : x = T x.cps.toList := rfl
theorem T_len (l : List Nat) : (T l).length = l.length := by simp [T, Str.length]
theorem T_inj {a b : List Nat} : T a = T b ↔ a = b := ⟨fun h => by have := congrArg (fun x => x.cps.toList) h; simpa [T] using this, fun h => h ▸ rfl⟩
theorem T_beq (a b : List Nat) : (T a == T b) = decide (a = b) := by
  by_cases h : a = b
  · subst h; simp
  · have : T a ≠ T b := fun e => h (T_inj.mp e)
    simp [h, this]
theorem T_bne (a b : List Nat) : (T a != T b) = !decide (a = b) := by rw [bne, T_beq]
theorem T_app (a b : List Nat) : T a ++ T b = T (a ++ b) := Str.ext' (by rw [Str.cps_append]; simp [T])
theorem T_item {l : List Nat} {i : Int} {c : Nat} (h0 : 0 ≤ i) (h : l[i.toNat]? = some c) : Txt.item (T l) i = T [c] := by
  have hlt : i.toNat < l.length := (List.getElem?_eq_some_iff.mp h).1
  unfold Txt.item Txt.charAt
  rw [StrLaws.at_nonneg (x := T l) (n := c) h0 (by rw [T_cps]; simpa using h)]
  rfl
theorem Txt_slice_eq (x : Str) (l u : Option Int) : Txt.slice x l u = StrLaws.sliceText x l u := rfl
theorem T_slice {l : List Nat} {i j : Int} (h : 0 ≤ i ∧ i ≤ j ∧ j ≤ l.length) : Txt.slice (T l) (some i) (some j) = T ((l.drop i.toNat).take (j - i).toNat) := by
  rw [Txt_slice_eq, StrLaws.sliceText_plain (x := T l) (by rw [T_list]; exact h), T_list]; rfl
theorem T_slice_to {l : List Nat} {j : Int} (h : 0 ≤ j ∧ j ≤ l.length) : Txt.slice (T l) none (some j) = T (l.take j.toNat) := by
  rw [Txt_slice_eq, StrLaws.sliceText_to (x := T l) (by rw [T_list]; exact h), T_list, List.drop_zero, Int.sub_zero]; rfl
theorem T_slice_from {l : List Nat} {i : Int} (h : 0 ≤ i ∧ i ≤ l.length) : Txt.slice (T l) (some i) none = T (l.drop i.toNat) := by
  rw [Txt_slice_eq, StrLaws.sliceText_from (x := T l) (by rw [T_list]; exact h), T_list]
  congr 1
  rw [List.take_of_length_le]
  rw [List.length_drop]; omega
/-- the upper bound may lie beyond the end -/
theorem sliceIdx_over (l : Option Int) {j : Int} (len : Nat) (h : (len : Int) ≤ j) : Builtin.Str.strSliceIndices l (some j) 1 len = Builtin.Str.strSliceIndices l (some (len : Int)) 1 len := by
  have a : ¬ j < 0 := by omega
  have b : ¬ (len : Int) < 0 := by omega
  have c : min j (len : Int) = len := by omega
  simp [Builtin.Str.strSliceIndices, a, b, c]
theorem T_slice_over {l : List Nat} {i j : Int} (h : 0 ≤ i ∧ i ≤ l.length) (hj : l.length ≤ j) : Txt.slice (T l) (some i) (some j) = T (l.drop i.toNat) := by
  have e : Txt.slice (T l) (some i) (some j) = Txt.slice (T l) (some i) (some (l.length : Int)) := by
    rw [Txt_slice_eq, Txt_slice_eq]; unfold StrLaws.sliceText; rw [sliceIdx_over (len := (T l).length) _ (by rw [T_len]; exact hj), T_len]
  rw [e, T_slice ⟨h.1, h.2, Int.le_refl _⟩]
  congr 1
  rw [List.take_of_length_le]
  rw [List.length_drop]; omega
/-- l[i:j] for 0 ≤ i ≤ the length, i ≤ j -/
theorem T_slice' {l : List Nat} {i j : Int} (h : 0 ≤ i ∧ i ≤ l.length) (hj : i ≤ j) : Txt.slice (T l) (some i) (some j) = T ((l.drop i.toNat).take (j - i).toNat) := by
  by_cases q : j ≤ l.length
  · exact T_slice ⟨h.1, hj, q⟩
  · rw [T_slice_over h (by omega), List.take_of_length_le (by rw [List.length_drop]; omega)]
theorem T_slice_to_over {l : List Nat} {j : Int} (hj : 0 ≤ j) : Txt.slice (T l) none (some j) = T (l.take j.toNat) := by
  have e : Txt.slice (T l) none (some j) = Txt.slice (T l) (some 0) (some j) := by rw [Txt_slice_eq, Txt_slice_eq]; unfold StrLaws.sliceText; rw [StrLaws.sliceIdx_none_lo]
  rw [e, T_slice' ⟨Int.le_refl _, by omega⟩ hj, Int.sub_zero]; rfl

section
variable {B : Shared} {g : Heap} {env : Env} {vals vals' : Vals} {s : Shared} {news news' : News'} {M : Model} {A : Around} {E : Value → Shared → Prop} {K : Frag} {prog : Program} {w : World}
theorem q_str {x : Str} {l : List Nat} {i : Nat} {pos : Pos} {Q : Value → Shared → Prop} (D : St B g env vals s news) (hx : x = T l) (k : ∀ t s', St B g env vals s' news → Q (.str (T l) t) s') : wpAny M A (eval (.Constant (.str x) i pos) env) Q E s := by
  subst hx; exact r_str D fun t s' _ D' _ => k t s' D'
theorem q_add {x y : List Nat} {t u : Tok} {Q : Value → Shared → Prop} (D : St B g env vals s news) (hsz : x.length + y.length ≤ 16777216) (k : ∀ t s', St B g env vals s' news → Q (.str (T (x ++ y)) t) s') :
    wpAny (model prog w) A (binaryOp .Add (.str (T x) t) (.str (T y) u)) Q E s := r_add_str D (by rw [T_len, T_len, sizeLine_eq]; exact hsz) fun t s' D' => by rw [T_app]; exact k t s' D'
theorem q_iadd {x y : List Nat} {t u : Tok} {Q : Value → Shared → Prop} (D : St B g env vals s news) (hsz : x.length + y.length ≤ 16777216) (k : ∀ t s', St B g env vals s' news → Q (.str (T (x ++ y)) t) s') :
    wpAny (model prog w) A (inplaceOp .Add (.str (T x) t) (.str (T y) u)) Q E s := r_iadd_str D (by rw [T_len, T_len, sizeLine_eq]; exact hsz) fun t s' D' => by rw [T_app]; exact k t s' D'
theorem q_len {x : List Nat} {t : Tok} {Q : Value → Shared → Prop} (D : St B g env vals s news) (hsz : x.length ≤ 16777216) (k : ∀ t s', St B g env vals s' news → Q (.int x.length t) s') :
    wpAny (model prog w) A (call (.builtin "len") [.str (T x) t]) Q E s := r_len_str D (by rw [T_len, sizeLine_eq]; exact hsz) fun t s' D' => by rw [T_len]; exact k t s' D'
theorem q_truthy {x : List Nat} {t : Tok} {Q : Bool → Shared → Prop} (D : St B g env vals s news) (hsz : x.length ≤ 16777216) (k : ∀ s', St B g env vals s' news → Q (!decide (x = [])) s') :
    wpAny (model prog w) A (truthy (.str (T x) t)) Q E s := r_truthy_str D (by rw [T_len, sizeLine_eq]; exact hsz) fun s' D' => by
  have e : (((T x).length : Int) != 0) = !decide (x = []) := by rw [T_len]; cases x <;> simp <;> omega
  rw [e]; exact k s' D'
theorem q_item {e sl : Expr} {l : List Nat} {c : Nat} {t u : Tok} {i : Int} {Q : Value → Shared → Prop} (D : St B g env vals s news) (h0 : 0 ≤ i) (hc : l[i.toNat]? = some c) (hsz : l.length ≤ 16777216) (k : ∀ t s', St B g env vals s' news → Q (.str (T [c]) t) s')
    (hs : subscripted sl false (.str (T l) t) (.int i u) = operate [.str (T l) t, .int i u] (getItem (.str (T l) t) (.int i u)) := by first | with_reducible exact subscripted_slice | with_reducible exact subscripted_name | with_reducible exact subscripted_const | with_reducible exact subscripted_bin | with_reducible exact subscripted_un | with_unfolding_all rfl) (ht : ∀ r, letTemporaryGo e (.str (T l) t) r = pure () := by first | with_reducible exact temporary_str | with_reducible exact temporary_name | (intro _; with_unfolding_all rfl)) :
    wpAny (model prog w) A (subscriptTail e sl (.str (T l) t) (.int i u)) Q E s := by
  have hlt : i.toNat < l.length := (List.getElem?_eq_some_iff.mp hc).1
  exact r_item_str D (by rw [T_len, sizeLine_eq]; exact hsz) (by omega) (by rw [T_len]; omega) (fun t s' D' => by rw [T_item h0 hc]; exact k t s' D') hs ht
theorem q_slice_ss {e sl : Expr} {l : List Nat} {t : Tok} {i j : Int} {ui uj : Tok} {Q : Value → Shared → Prop} (D : St B g env vals s news) (h : 0 ≤ i ∧ i ≤ l.length) (hj : i ≤ j) (hsz : l.length ≤ 16777216) (k : ∀ t s', St B g env vals s' news → Q (.str (T ((l.drop i.toNat).take (j - i).toNat)) t) s')
    (hs : subscripted sl false (.str (T l) t) (.ref s.heap.objs.size) = operate [.ref s.heap.objs.size, .str (T l) t] (getItem (.str (T l) t) (.ref s.heap.objs.size)) := by first | with_reducible exact subscripted_slice | with_reducible exact subscripted_name | with_reducible exact subscripted_const | with_reducible exact subscripted_bin | with_reducible exact subscripted_un | with_unfolding_all rfl)
    (ht : ∀ r, letTemporaryGo e (.str (T l) t) r = pure () := by first | with_reducible exact temporary_str | with_reducible exact temporary_name | (intro _; with_unfolding_all rfl)) :
    wpAny (model prog w) A (subscriptTail e sl (.str (T l) t) (.ref s.heap.objs.size)) Q E (pushSlice s (.int i ui) (.int j uj) .none) :=
  r_slice_ss D (by rw [T_len, sizeLine_eq]; exact hsz) (fun t s' D' => by rw [T_slice' h hj]; exact k t s' D') hs ht
theorem q_slice_ns {e sl : Expr} {l : List Nat} {t : Tok} {j : Int} {uj : Tok} {Q : Value → Shared → Prop} (D : St B g env vals s news) (hj : 0 ≤ j) (hsz : l.length ≤ 16777216) (k : ∀ t s', St B g env vals s' news → Q (.str (T (l.take j.toNat)) t) s')
    (hs : subscripted sl false (.str (T l) t) (.ref s.heap.objs.size) = operate [.ref s.heap.objs.size, .str (T l) t] (getItem (.str (T l) t) (.ref s.heap.objs.size)) := by first | with_reducible exact subscripted_slice | with_reducible exact subscripted_name | with_reducible exact subscripted_const | with_reducible exact subscripted_bin | with_reducible exact subscripted_un | with_unfolding_all rfl)
    (ht : ∀ r, letTemporaryGo e (.str (T l) t) r = pure () := by first | with_reducible exact temporary_str | with_reducible exact temporary_name | (intro _; with_unfolding_all rfl)) :
    wpAny (model prog w) A (subscriptTail e sl (.str (T l) t) (.ref s.heap.objs.size)) Q E (pushSlice s .none (.int j uj) .none) :=
  r_slice_ns D (by rw [T_len, sizeLine_eq]; exact hsz) (fun t s' D' => by rw [T_slice_to_over hj]; exact k t s' D') hs ht
theorem q_slice_sn {e sl : Expr} {l : List Nat} {t : Tok} {i : Int} {ui : Tok} {Q : Value → Shared → Prop} (D : St B g env vals s news) (h : 0 ≤ i ∧ i ≤ l.length) (hsz : l.length ≤ 16777216) (k : ∀ t s', St B g env vals s' news → Q (.str (T (l.drop i.toNat)) t) s')
    (hs : subscripted sl false (.str (T l) t) (.ref s.heap.objs.size) = operate [.ref s.heap.objs.size, .str (T l) t] (getItem (.str (T l) t) (.ref s.heap.objs.size)) := by first | with_reducible exact subscripted_slice | with_reducible exact subscripted_name | with_reducible exact subscripted_const | with_reducible exact subscripted_bin | with_reducible exact subscripted_un | with_unfolding_all rfl)
    (ht : ∀ r, letTemporaryGo e (.str (T l) t) r = pure () := by first | with_reducible exact temporary_str | with_reducible exact temporary_name | (intro _; with_unfolding_all rfl)) :
    wpAny (model prog w) A (subscriptTail e sl (.str (T l) t) (.ref s.heap.objs.size)) Q E (pushSlice s (.int i ui) .none .none) :=
  r_slice_sn D (by rw [T_len, sizeLine_eq]; exact hsz) (fun t s' D' => by rw [T_slice_from h]; exact k t s' D') hs ht
theorem q_eq {x y : List Nat} {t u : Tok} {Q : Value → Shared → Prop} (k : Q (.bool (decide (x = y))) s) : wpAny (model prog w) A (compareOp .Eq (.str (T x) t) (.str (T y) u)) Q E s := eq_str (by rw [T_beq]; exact k)
theorem q_ne {x y : List Nat} {t u : Tok} {Q : Value → Shared → Prop} (k : Q (.bool (!decide (x = y))) s) : wpAny (model prog w) A (compareOp .NotEq (.str (T x) t) (.str (T y) u)) Q E s := ne_str (by rw [T_bne]; exact k)
theorem d_t {p : Prop} [Decidable p] (h : p) : decide p = true := decide_eq_true h
theorem d_f {p : Prop} [Decidable p] (h : ¬ p) : decide p = false := decide_eq_false h
theorem nd_t {p : Prop} [Decidable p] (h : ¬ p) : (!decide p) = true := by simp [h]
theorem nd_f {p : Prop} [Decidable p] (h : p) : (!decide p) = false := by simp [h]
end

section
variable {B : Shared} {g : Heap} {env : Env} {vals vals' : Vals} {s : Shared} {news news' : News'} {M : Model} {A : Around} {E : Value → Shared → Prop} {K : Frag} {prog : Program} {w : World}
theorem m_while {test : Expr} {body orelse : List Stmt} {pos : Pos} {Q : Flow → Shared → Prop} (I : Nat → Shared → Prop) (n : Nat) (h : I n s) 
    (turn : ∀ n s, I n s → wpAny (model prog w) A (PySem.isTrue test env (eval test env)) (fun b s1 => if b = true then
        wpAny (model prog w) A (execs body env) (fun f s2 => match f with | .next | .cont => ∃ m, m < n ∧ I m s2 | .brk => Q .next s2 | .ret v => Q (.ret v) s2) (fun _ _ => False) s1
      else wpAny (model prog w) A (execs orelse env) Q (fun _ _ => False) s1) (fun _ _ => False) s) : wpAny (model prog w) A (exec (.While test body orelse pos) env) Q E s := while_loop I turn n h rfl
end


/-! ## methods, calls -/
section
variable {B : Shared} {g : Heap} {env : Env} {vals vals' : Vals} {s : Shared} {news news' : News'} {M : Model} {A : Around} {E : Value → Shared → Prop} {K : Frag} {prog : Program} {w : World}
theorem r_method {o : Expr} {name : Str} {apos pos : Pos} {args : List Expr} {Q : Value → Shared → Prop}
    (h : wpAny M A (eval o env) (fun ov s₁ => wpAny M A (getMethod ov name (do return (← importBound o env).getD true)) (fun fx s₂ => wpAny M A (callWith pos fx.1 fx.2 (backTo pos (starEach args env)) []) Q E s₂) E s₁) E s)
    (he : eval (.Call (.Attribute o name apos) args [] pos) env = (do
      let ov ← eval o env
      standAt apos.atName
      let (f, first) ← holding [ov] (getMethod ov name (do return (← importBound o env).getD true))
      callWith pos f first (backTo pos (starEach args env)) []) := by with_unfolding_all rfl) :
    wpAny M A (eval (.Call (.Attribute o name apos) args [] pos) env) Q E s := MethodCall_ h he
theorem r_unary {op : UnaryOp} {x : Expr} {pos : Pos} {Q : Value → Shared → Prop} (h : wpAny M A (eval x env) (fun v s₁ => wpAny M A (unaryOp op v) Q E s₁) E s) : wpAny M A (eval (.UnaryOp op x pos) env) Q E s := by
  show wpAny M A (do let v ← eval x env; standAt pos; holding [v] (unaryOp op v)) Q E s
  exact wpAny_bind (wpAny_mono h (fun v s₁ h₁ => wpAny_bind (wpAny_standAt (wpAny_holding h₁))) fun _ _ x => x)
theorem r_callK {f : Value} {pos : Pos} {e : Expr} {rest : List Expr} {Q : Value → Shared → Prop} (S : Sta K g) (D : St B g env vals s news) (hk : keepIn K f = true)
    (h : wpAny M A (spliced (backTo pos (starEach (e :: rest) env))) (fun vs s₁ => K.In s₁.heap ∧ wpAny M A (call f vs) Q E s₁) E s)
    (he : starEach (e :: rest) env = (false, eval e env) :: starEach rest env := by rfl) (hplain : (backTo pos (starEach rest env)).any (·.1) = false := by rfl) :
    wpAny M A (callWith pos f [] (backTo pos (starEach (e :: rest) env)) []) Q E s := callWith_K S.X hk h he hplain
theorem r_meth1 {pos : Pos} {id : String} {x : Value} {e : Expr} {rest : List Expr} {Q : Value → Shared → Prop} (h : wpAny M A (spliced (backTo pos (starEach (e :: rest) env))) (fun vs s₁ => wpAny M A (call (.builtin id) (x :: vs)) Q E s₁) E s)
    (he : starEach (e :: rest) env = (false, eval e env) :: starEach rest env := by rfl) (hplain : (backTo pos (starEach rest env)).any (·.1) = false := by rfl) :
    wpAny M A (callWith pos (.builtin id) [x] (backTo pos (starEach (e :: rest) env)) []) Q E s := callWith_method1 h he hplain
theorem r_inK {P : Prop} (S : Sta K g) (D : St B g env vals s news) (h : P) : K.In s.heap ∧ P := ⟨S.X.keeps D.keep, h⟩
theorem q_in {c : Nat} {l : List Nat} {t u : Tok} {Q : Value → Shared → Prop} (k : Q (.bool (decide (c ∈ l))) s) : wpAny (model prog w) A (compareOp .In (.str (T [c]) t) (.str (T l) u)) Q E s :=
  in_str (by have := StrLaws.found_one (T l) c; rw [T_list] at this; show Q (.bool (!(Builtin.Str.occurrences (T l) ⟨#[c]⟩ 0 (T l).length 1).isEmpty)) s; rw [this]; exact k)
theorem r_div_int {a b : Int} {t u : Tok} {Q : Value → Shared → Prop} (D : St B g env vals s news) (hb : b ≠ 0) (hp : Builtin.divisionGoesByPylong a b = false) (k : ∀ t s', St B g env vals s' news → Q (.int (a.fdiv b) t) s') : wpAny (model prog w) A (binaryOp .FloorDiv (.int a t) (.int b u)) Q E s := floordiv_int hb (k _ _ D.tk1) (.inl hp)
theorem pylong_small {a b : Int} (h : b.natAbs < 2 ^ 9000) : Builtin.divisionGoesByPylong a b = false := by
  unfold Builtin.divisionGoesByPylong
  dsimp only
  rw [Bool.and_eq_false_iff]
  left
  rw [decide_eq_false_iff_not]
  split
  · omega
  · rename_i hb
    have hb' : b.natAbs ≠ 0 := by intro e; apply hb; simpa using e
    have : b.natAbs.log2 < 9000 := (Nat.log2_lt hb').mpr h
    omega

theorem q_div {a b : Int} {t u : Tok} {Q : Value → Shared → Prop} (D : St B g env vals s news) (hb : 0 < b ∧ b < 1000000000) (k : ∀ t s', St B g env vals s' news → Q (.int (a / b) t) s') : wpAny (model prog w) A (binaryOp .FloorDiv (.int a t) (.int b u)) Q E s :=
  r_div_int D (by omega) (pylong_small (Nat.lt_of_lt_of_le (by omega : b.natAbs < 2 ^ 30) (Nat.pow_le_pow_right (by omega) (by omega)))) fun t s' D' => by rw [Int.fdiv_eq_ediv_of_nonneg a (by omega)]; exact k t s' D'
theorem q_mod {a b : Int} {t u : Tok} {Q : Value → Shared → Prop} (D : St B g env vals s news) (hb : 0 < b) (k : ∀ t s', St B g env vals s' news → Q (.int (a % b) t) s') : wpAny (model prog w) A (binaryOp .Mod (.int a t) (.int b u)) Q E s :=
  r_mod_int D (by omega) fun t s' D' => by rw [Int.fmod_eq_emod_of_nonneg a (by omega)]; exact k t s' D'
theorem q_chr {i : Int} {t : Tok} {Q : Value → Shared → Prop} (D : St B g env vals s news) (h : 0 ≤ i ∧ i ≤ 1114111) (k : ∀ t s', St B g env vals s' news → Q (.str (T [i.toNat]) t) s') : wpAny (model prog w) A (call (.builtin "chr") [.int i t]) Q E s :=
  chr_of_range h.1 h.2 (k _ _ D.tk1)
/-! replace of one sign -/
def sub1 (c : Nat) (z : List Nat) (l : List Nat) : List Nat := l.flatMap fun k => if k = c then z else [k]
theorem sub1_append (c : Nat) (z a b : List Nat) : sub1 c z (a ++ b) = sub1 c z a ++ sub1 c z b := List.flatMap_append
theorem sub1_free {c : Nat} {z : List Nat} : ∀ {l : List Nat}, c ∉ l → sub1 c z l = l
  | [], _ => rfl
  | k :: r, h => by
    have h1 : k ≠ c := fun e => h (e ▸ List.mem_cons_self)
    have h2 : c ∉ r := fun e => h (List.mem_cons_of_mem _ e)
    show (if k = c then z else [k]) ++ sub1 c z r = _
    rw [if_neg h1, sub1_free h2]; rfl
theorem sub1_one (c : Nat) (z : List Nat) : sub1 c z [c] = z := by simp [sub1]
theorem sub1_join (c : Nat) (z : Str) : ∀ parts : List Str, (∀ p ∈ parts, c ∉ p.cps.toList) → sub1 c z.cps.toList (Str.join ⟨#[c]⟩ parts).cps.toList = (Str.join z parts).cps.toList
  | [], _ => rfl
  | [p], h => sub1_free (h p (List.mem_singleton.mpr rfl))
  | p :: q :: r, h => by
    have ih := sub1_join c z (q :: r) fun x hx => h x (List.mem_cons_of_mem _ hx)
    show sub1 c z.cps.toList (p ++ ⟨#[c]⟩ ++ Str.join ⟨#[c]⟩ (q :: r)).cps.toList = (p ++ z ++ Str.join z (q :: r)).cps.toList
    rw [Str.cps_append, Str.cps_append, Str.cps_append, Str.cps_append, Array.toList_append, Array.toList_append, Array.toList_append, Array.toList_append, sub1_append, sub1_append, ih, sub1_free (h p List.mem_cons_self)]
    congr 2
    exact sub1_one c _
theorem T_replace (l z : List Nat) (c : Nat) : Txt.replace (T l) (T [c]) (T z) = T (sub1 c z l) := by
  have e : Txt.replace (T l) (T [c]) (T z) = T (Txt.replace (T l) (T [c]) (T z)).cps.toList := rfl
  rw [e]
  congr 1
  show (Txt.replace (T l) ⟨#[c]⟩ (T z)).cps.toList = _
  rw [StrLaws.replace_one, ← sub1_join c (T z) _ (StrLaws.split_free (T l) c), StrLaws.join_split]
  rfl
def RepEnd (c : Nat) (z : List Nat) (Q : Value → Shared → Prop) (ov : Value) (s₁ : Shared) : Prop :=
  ∃ l t B g env vals news, ov = .str (T l) t ∧ l.length ≤ 1000000 ∧ St B g env vals s₁ news ∧ ∀ t' s', St B g env vals s' news → Q (.str (T (sub1 c z l)) t') s'
theorem rep_end {c : Nat} {z l : List Nat} {t : Tok} {Q : Value → Shared → Prop} (D : St B g env vals s news) (hl : l.length ≤ 1000000) (k : ∀ t' s', St B g env vals s' news → Q (.str (T (sub1 c z l)) t') s') : RepEnd c z Q (.str (T l) t) s :=
  ⟨_, _, _, _, _, _, _, rfl, hl, D, k⟩
theorem r_replace {o : Expr} {a b : Str} {c : Nat} {z : List Nat} {apos pos p1 p2 : Pos} {i j : Nat} {Q : Value → Shared → Prop}
    (ha : a = T [c]) (hb : b = T z) (hne : ([c] : List Nat) ≠ z) (hz : z.length ≤ 14)
    (h : wpAny (model prog w) A (eval o env) (fun ov s₁ => RepEnd c z Q ov s₁) E s)
    (he : eval (.Call (.Attribute o (Str.ofString "replace") apos) [.Constant (.str a) i p1, .Constant (.str b) j p2] [] pos) env = (do
      let ov ← eval o env
      standAt apos.atName
      let (f, first) ← holding [ov] (getMethod ov (Str.ofString "replace") (do return (← importBound o env).getD true))
      callWith pos f first (backTo pos (starEach [.Constant (.str a) i p1, .Constant (.str b) j p2] env)) []) := by with_unfolding_all rfl) :
    wpAny (model prog w) A (eval (.Call (.Attribute o (Str.ofString "replace") apos) [.Constant (.str a) i p1, .Constant (.str b) j p2] [] pos) env) Q E s := by
  refine r_method (wpAny_mono h (fun ov s₁ h₁ => ?_) fun _ _ x => x) he
  obtain ⟨l, t, B, g, env₁, vals, news, rfl, hl, D, k⟩ := h₁
  refine PySem.GM.replace (callWith_method1 ?_ (by with_unfolding_all rfl) (by with_unfolding_all rfl))
  refine spliced_more (Constant_str (spliced_more (Constant_str (spliced_none ?_)) (by with_unfolding_all rfl))) (by with_unfolding_all rfl)
  subst ha hb
  refine up (SC.replaceW (by have := D.tok; show s₁.toks ≠ 0; omega) (by show s₁.toks + 1 ≠ 0; omega) (by show s₁.toks ≠ s₁.toks + 1; omega) ?_ (by rw [T_len]; omega) (by rw [T_len]; exact hz) (fun t' tk u => ?_))
  · rw [T_beq]; exact decide_eq_false hne
  · rw [T_replace]
    exact k t' _ (D.tk (tk := tk) ⟨Nat.le_trans (by show s₁.toks ≤ s₁.toks + 1 + 1; omega) u.1, Nat.le_refl _⟩)
end

end
section
theorem lit0 : Str.ofString "." = T [46] := by decide +kernel
theorem lit1 : Str.ofString "latin1" = T [108, 97, 116, 105, 110, 49] := by decide +kernel
theorem lit2 : Str.ofString "*" = T [42] := by decide +kernel
theorem lit3 : Str.ofString "?" = T [63] := by decide +kernel
theorem lit4 : Str.ofString "[" = T [91] := by decide +kernel
theorem lit5 : Str.ofString "!" = T [33] := by decide +kernel
theorem lit6 : Str.ofString "]" = T [93] := by decide +kernel
theorem lit7 : Str.ofString "\\[" = T [92, 91] := by decide +kernel
theorem lit8 : Str.ofString "-" = T [45] := by decide +kernel
theorem lit9 : Str.ofString "\\" = T [92] := by decide +kernel
theorem lit10 : Str.ofString "\\\\" = T [92, 92] := by decide +kernel
theorem lit11 : Str.ofString "(?!)" = T [40, 63, 33, 41] := by decide +kernel
theorem lit12 : Str.ofString "\\-" = T [92, 45] := by decide +kernel
theorem lit13 : Str.ofString "" = T [] := by decide +kernel
theorem lit14 : Str.ofString "^" = T [94] := by decide +kernel
theorem lit15 : Str.ofString "(?s:" = T [40, 63, 115, 58] := by decide +kernel
theorem lit16 : Str.ofString ")\\Z" = T [41, 92, 90] := by decide +kernel
theorem lit17 : Str.ofString ".*" = T [46, 42] := by decide +kernel
theorem lit18 : Str.ofString "(?>.*?" = T [40, 63, 62, 46, 42, 63] := by decide +kernel
theorem lit19 : Str.ofString ")" = T [41] := by decide +kernel
theorem lit20 : Str.ofString "257" = T [50, 53, 55] := by decide +kernel
theorem lit21 : Str.ofString " \"" = T [32, 34] := by decide +kernel
theorem lit22 : Str.ofString "\"" = T [34] := by decide +kernel
theorem lit23 : Str.ofString "\n" = T [10] := by decide +kernel
theorem lit24 : Str.ofString "\r" = T [13] := by decide +kernel
theorem lit25 : Str.ofString "\r\n" = T [13, 10] := by decide +kernel
theorem lit26 : Str.ofString "illegal newline value: " = T [105, 108, 108, 101, 103, 97, 108, 32, 110, 101, 119, 108, 105, 110, 101, 32, 118, 97, 108, 117, 101, 58, 32] := by decide +kernel
theorem lit27 : Str.ofString "I/O operation on closed file" = T [73, 47, 79, 32, 111, 112, 101, 114, 97, 116, 105, 111, 110, 32, 111, 110, 32, 99, 108, 111, 115, 101, 100, 32, 102, 105, 108, 101] := by decide +kernel
theorem lit28 : Str.ofString "StringIO.read of a size that is no exact int" = T [83, 116, 114, 105, 110, 103, 73, 79, 46, 114, 101, 97, 100, 32, 111, 102, 32, 97, 32, 115, 105, 122, 101, 32, 116, 104, 97, 116, 32, 105, 115, 32, 110, 111, 32, 101, 120, 97, 99, 116, 32, 105, 110, 116] := by decide +kernel
theorem lit29 : Str.ofString " " = T [32] := by decide +kernel
theorem lit30 : Str.ofString "#" = T [35] := by decide +kernel
theorem lit32 : Str.ofString " \t\r\n" = T [32, 9, 13, 10] := by decide +kernel
theorem lit33 : Str.ofString "'\"" = T [39, 34] := by decide +kernel
theorem lit35 : Str.ofString "~-./*?=" = T [126, 45, 46, 47, 42, 63, 61] := by decide +kernel
theorem lit36 : Str.ofString "();<>|&" = T [40, 41, 59, 60, 62, 124, 38] := by decide +kernel
theorem lit37 : Str.ofString "shlex: token=EOF" = T [115, 104, 108, 101, 120, 58, 32, 116, 111, 107, 101, 110, 61, 69, 79, 70] := by decide +kernel
theorem lit38 : Str.ofString "shlex: popping token " = T [115, 104, 108, 101, 120, 58, 32, 112, 111, 112, 112, 105, 110, 103, 32, 116, 111, 107, 101, 110, 32] := by decide +kernel
theorem lit39 : Str.ofString "shlex: token=" = T [115, 104, 108, 101, 120, 58, 32, 116, 111, 107, 101, 110, 61] := by decide +kernel
theorem lit40 : Str.ofString "shlex: raw token=EOF" = T [115, 104, 108, 101, 120, 58, 32, 114, 97, 119, 32, 116, 111, 107, 101, 110, 61, 69, 79, 70] := by decide +kernel
theorem lit41 : Str.ofString "shlex: in state %r I see character: %r" = T [115, 104, 108, 101, 120, 58, 32, 105, 110, 32, 115, 116, 97, 116, 101, 32, 37, 114, 32, 73, 32, 115, 101, 101, 32, 99, 104, 97, 114, 97, 99, 116, 101, 114, 58, 32, 37, 114] := by decide +kernel
theorem lit42 : Str.ofString "shlex: raw token=" = T [115, 104, 108, 101, 120, 58, 32, 114, 97, 119, 32, 116, 111, 107, 101, 110, 61] := by decide +kernel
theorem lit43 : Str.ofString "No closing quotation" = T [78, 111, 32, 99, 108, 111, 115, 105, 110, 103, 32, 113, 117, 111, 116, 97, 116, 105, 111, 110] := by decide +kernel
theorem lit44 : Str.ofString "a" = T [97] := by decide +kernel
theorem lit45 : Str.ofString "shlex: I see whitespace in whitespace state" = T [115, 104, 108, 101, 120, 58, 32, 73, 32, 115, 101, 101, 32, 119, 104, 105, 116, 101, 115, 112, 97, 99, 101, 32, 105, 110, 32, 119, 104, 105, 116, 101, 115, 112, 97, 99, 101, 32, 115, 116, 97, 116, 101] := by decide +kernel
theorem lit46 : Str.ofString "shlex: I see EOF in quotes state" = T [115, 104, 108, 101, 120, 58, 32, 73, 32, 115, 101, 101, 32, 69, 79, 70, 32, 105, 110, 32, 113, 117, 111, 116, 101, 115, 32, 115, 116, 97, 116, 101] := by decide +kernel
theorem lit47 : Str.ofString "No escaped character" = T [78, 111, 32, 101, 115, 99, 97, 112, 101, 100, 32, 99, 104, 97, 114, 97, 99, 116, 101, 114] := by decide +kernel
theorem lit48 : Str.ofString "c" = T [99] := by decide +kernel
theorem lit49 : Str.ofString "shlex: I see EOF in escape state" = T [115, 104, 108, 101, 120, 58, 32, 73, 32, 115, 101, 101, 32, 69, 79, 70, 32, 105, 110, 32, 101, 115, 99, 97, 112, 101, 32, 115, 116, 97, 116, 101] := by decide +kernel
theorem lit50 : Str.ofString "shlex: I see whitespace in word state" = T [115, 104, 108, 101, 120, 58, 32, 73, 32, 115, 101, 101, 32, 119, 104, 105, 116, 101, 115, 112, 97, 99, 101, 32, 105, 110, 32, 119, 111, 114, 100, 32, 115, 116, 97, 116, 101] := by decide +kernel
theorem lit51 : Str.ofString "shlex: I see punctuation in word state" = T [115, 104, 108, 101, 120, 58, 32, 73, 32, 115, 101, 101, 32, 112, 117, 110, 99, 116, 117, 97, 116, 105, 111, 110, 32, 105, 110, 32, 119, 111, 114, 100, 32, 115, 116, 97, 116, 101] := by decide +kernel
theorem lit52 : Str.ofString "s argument must not be None" = T [115, 32, 97, 114, 103, 117, 109, 101, 110, 116, 32, 109, 117, 115, 116, 32, 110, 111, 116, 32, 98, 101, 32, 78, 111, 110, 101] := by decide +kernel
theorem lit53 : Str.ofString "*?[" = T [42, 63, 91] := by decide +kernel
theorem lit54 : Str.ofString "front" = T [102, 114, 111, 110, 116] := by decide +kernel
theorem lit55 : Str.ofString "group" = T [103, 114, 111, 117, 112] := by decide +kernel
theorem lit56 : Str.ofString "end" = T [101, 110, 100] := by decide +kernel
theorem lit57 : Str.ofString "behind" = T [98, 101, 104, 105, 110, 100] := by decide +kernel
theorem lit58 : Str.ofString "\"\"\\\\*[?" = T [34, 34, 92, 92, 42, 91, 63] := by decide +kernel
theorem lit59 : Str.ofString "257 \"" = T [50, 53, 55, 32, 34] := by decide +kernel
theorem lit60 : Str.ofString "\\\"" = T [92, 34] := by decide +kernel
theorem lit61 : Str.ofString "\"\"" = T [34, 34] := by decide +kernel

end
section
/-! ## the ledger: one object turned, one made -/
theorem UpdP.ord {a : Addr} {o o' : Obj} {l l' : News'} (h : UpdP a o o' l l') (x : (l.map (·.1)).Pairwise (· > ·)) : (l'.map (·.1)).Pairwise (· > ·) := h.keys.1 ▸ x
inductive Turn (a : Addr) (o o' : Obj) : News' → News' → News' → Prop
  | head {r} : Turn a o o' ((a, o) :: r) ((a, o') :: r) r
  | tail {p r r' r''} : Turn a o o' r r' r'' → Turn a o o' (p :: r) (p :: r') (p :: r'')
theorem Turn.upd {a : Addr} {o o' : Obj} {l l' l'' : News'} (h : Turn a o o' l l' l'') : UpdP a o o' l l' := by
  induction h with
  | head => exact .head
  | tail _ ih => exact .tail ih
theorem Turn.sub {a : Addr} {o o' : Obj} {l l' l'' : News'} (h : Turn a o o' l l' l'') : l''.Sublist l := by
  induction h with
  | head => exact List.sublist_cons_self _ _
  | tail _ ih => exact ih.cons_cons _
theorem Turn.ne {a : Addr} {o o' : Obj} {l l' l'' : News'} (h : Turn a o o' l l' l'') (nd : (l.map (·.1)).Pairwise (· > ·)) : ∀ p ∈ l'', p.1 ≠ a := by
  induction h with
  | head =>
    intro p hp
    rw [List.map_cons, List.pairwise_cons] at nd
    exact Nat.ne_of_lt (nd.1 _ (List.mem_map_of_mem (f := (·.1)) hp))
  | tail h ih =>
    intro p hp
    rw [List.map_cons, List.pairwise_cons] at nd
    rcases List.mem_cons.mp hp with rfl | hp
    · exact Nat.ne_of_gt (nd.1 _ (List.mem_map_of_mem (f := (·.1)) h.upd.keys.2))
    · exact ih nd.2 p hp

def tupObj (vs : List Value) : Obj := { cls := .type "tuple", data := .seq vs.toArray }
abbrev Lo (vs : List Value) (n : Nat) : Obj := listOf vs.toArray n
abbrev Li (l : Addr) (i : Nat) : Obj := { cls := .type "list_iterator", data := .fields #[.ref l, .int i 0] }

section
variable {B : Shared} {g : Heap} {env : Env} {vals vals' : Vals} {s : Shared} {news news' : News'} {M : Model} {A : Around} {E : Value → Shared → Prop} {K : Frag} {prog : Program} {w : World}
  {l : Addr} {vs : List Value} {n : Nat}

theorem St.upd (D : St B g env vals s news) {a : Addr} {o o' : Obj} {h' : Heap} {tk : Tok} (U : UpdP a o o' news news') (hs : Heap.SameBut a s.heap h') (ho : h'.get? a = some o') (ht : s.toks ≤ tk) :
    St B g env vals ⟨h', s.gens, s.drawn, tk, s.os⟩ news' := by
  obtain ⟨m, L, e⟩ := D.led
  have z := L.nw _ U.keys.2
  refine D.to ⟨m, ⟨L.fr.change hs z.2.1 z.2.2, fun p hp => ?_, U.ord L.ord⟩, e⟩ rfl ⟨ht, Nat.le_of_eq hs.1.symm⟩
  rcases U.old L.ord p hp with rfl | ⟨hp, hne⟩
  · exact ⟨ho, z.2⟩
  · exact ⟨(hs.2 _ hne).trans (L.nw p hp).1, (L.nw p hp).2⟩
theorem St.made (D : St B g env vals s news) (o : Obj) (hf : o.isFreed = false := by rfl) : St B g env vals ⟨s.heap.push o, s.gens, s.drawn, s.toks, s.os⟩ ((s.heap.objs.size, o) :: news) := by
  obtain ⟨m, L, e⟩ := D.led
  refine D.to ⟨m, ⟨L.fr.push o, L.nw.push L.fr o hf, ?_⟩, e⟩ rfl ⟨Nat.le_refl _, by rw [Heap.size_push]; exact Nat.le_succ _⟩
  rw [List.map_cons, List.pairwise_cons]
  refine ⟨fun a ha => ?_, L.ord⟩
  obtain ⟨p, hp, rfl⟩ := List.mem_map.mp ha
  exact Heap.lt_size (L.nw p hp).1
theorem St.without (D : St B g env vals s news) {a : Addr} {o o' : Obj} {h' : Heap} {news₁ : News'} (U : Turn a o o' news news₁ news') (hs : Heap.ExtBut a s.heap h') (hz : s.heap.objs.size ≤ h'.objs.size) :
    St B g env vals ⟨h', s.gens, s.drawn, s.toks, s.os⟩ news' := by
  obtain ⟨m, L, e⟩ := D.led
  have z := L.nw _ U.upd.keys.2
  refine D.to ⟨m, ⟨⟨L.fr.ns.at' fun o e => hs _ _ z.2.1.symm e, fun b o e => hs b o (fun q => by rw [q, z.2.2] at e; cases e) (L.fr.keep b o e), L.fr.above⟩, fun p hp => ?_, L.ord.sublist (U.sub.map _)⟩, e⟩ rfl ⟨Nat.le_refl _, hz⟩
  have y := L.nw p (U.sub.subset hp)
  exact ⟨hs _ _ (U.ne L.ord p hp) y.1, y.2⟩
theorem St.lst (_D : St B g env vals s news) (hm : s.heap.get? l = some (Lo vs n)) : s.heap.IsList l vs.toArray := ⟨_, hm, rfl, n, rfl⟩

/-! ## lists -/
theorem r_newlist {Q : Value → Shared → Prop} (D : St B g env vals s news) (hsz : vs.length ≤ 16777216) (k : ∀ l s', B.heap.objs.size ≤ l → St B g env vals s' ((l, Lo vs 0) :: news) → Q (.ref l) s') : wpAny M A (newList vs) Q E s :=
  wpAny_newObj_type (k _ _ D.up.2 (D.made _)) (by show vs.toArray.size ≤ sizeLine; rw [List.size_toArray, sizeLine_eq]; exact hsz)
theorem r_newtuple {Q : Value → Shared → Prop} (D : St B g env vals s news) (hsz : vs.length ≤ 16777216) (k : ∀ l s', B.heap.objs.size ≤ l → St B g env vals s' ((l, tupObj vs) :: news) → Q (.ref l) s') : wpAny M A (newTuple vs) Q E s :=
  wpAny_newObj_type (k _ _ D.up.2 (D.made _)) (by show vs.toArray.size ≤ sizeLine; rw [List.size_toArray, sizeLine_eq]; exact hsz)
theorem r_append {x : Value} {Q : Value → Shared → Prop} (D : St B g env vals s news) (U : UpdP l (Lo vs n) (Lo (vs ++ [x]) (n + 1)) news news') (hsz : vs.length ≤ 16777216) (k : ∀ s', St B g env vals s' news' → Q .none s') :
    wpAny (model prog w) A (call (.builtin "list.append") [.ref l, x]) Q E s :=
  append_at (hsz := by rw [List.size_toArray, sizeLine_eq]; exact hsz) (D.get U.keys.2) fun h' hs ho' => k _ (D.upd U hs (by rw [ho', List.push_toArray]) (Nat.le_refl _))
theorem r_m_append {pl : Sem Bool} {Q : Value × List Value → Shared → Prop} (D : St B g env vals s news) (hm : s.heap.get? l = some (Lo vs n)) (k : Q (.builtin "list.append", [.ref l]) s) :
    wpAny (model prog w) A (getMethod (.ref l) (Str.ofString "append") pl) Q E s := Calls.getMethod_list_append hm rfl rfl k
theorem r_len_list {Q : Value → Shared → Prop} (D : St B g env vals s news) (hm : s.heap.get? l = some (Lo vs n)) (hsz : vs.length ≤ 16777216) (k : ∀ t s', St B g env vals s' news → Q (.int vs.length t) s') :
    wpAny (model prog w) A (call (.builtin "len") [.ref l]) Q E s :=
  Calls.call_len_list (D.lst hm) (by rw [List.size_toArray]; omega) (by rw [List.size_toArray]; exact k _ _ (D.tk1 (n := 2)))
theorem r_truthy_list {Q : Bool → Shared → Prop} (D : St B g env vals s news) (hm : s.heap.get? l = some (Lo vs n)) (hsz : vs.length ≤ 16777216) (k : ∀ s', St B g env vals s' news → Q (!decide (vs = [])) s') :
    wpAny (model prog w) A (truthy (.ref l)) Q E s :=
  wpAny_truthy_list (D.lst hm) (by rw [List.size_toArray]; omega) (by
    have e : (!vs.toArray.isEmpty) = !decide (vs = []) := by cases vs <;> simp
    rw [e]; exact k _ (D.tk1 (n := 2)))
theorem r_item_list {e sl : Expr} {i : Int} {u : Tok} {x : Value} {Q : Value → Shared → Prop} (D : St B g env vals s news) (hm : s.heap.get? l = some (Lo vs n)) (h0 : 0 ≤ i) (hx : vs[i.toNat]? = some x) (hsz : vs.length ≤ 16777216) (k : Q x s)
    (hs : subscripted sl false (.ref l) (.int i u) = operate [.ref l, .int i u] (getItem (.ref l) (.int i u)) := by first | with_reducible exact subscripted_slice | with_reducible exact subscripted_name | with_reducible exact subscripted_const | with_reducible exact subscripted_bin | with_reducible exact subscripted_un | with_unfolding_all rfl) (ht : ∀ r, letTemporaryGo e (.ref l) r = pure () := by first | with_reducible exact temporary_str | with_reducible exact temporary_name | (intro _; with_unfolding_all rfl)) :
    wpAny (model prog w) A (subscriptTail e sl (.ref l) (.int i u)) Q E s :=
  item_listL (D.lst hm) h0 (by have := (List.getElem?_eq_some_iff.mp hx).1; omega) hx k hs ht
/-- l[-1] -/
theorem r_item_last {e sl : Expr} {u : Tok} {x : Value} {Q : Value → Shared → Prop} (D : St B g env vals s news) (hm : s.heap.get? l = some (Lo (vs ++ [x]) n)) (hsz : vs.length ≤ 16777216) (k : Q x s)
    (hs : subscripted sl false (.ref l) (.int (-1) u) = operate [.ref l, .int (-1) u] (getItem (.ref l) (.int (-1) u)) := by first | with_reducible exact subscripted_slice | with_reducible exact subscripted_name | with_reducible exact subscripted_const | with_reducible exact subscripted_bin | with_reducible exact subscripted_un | with_unfolding_all rfl) (ht : ∀ r, letTemporaryGo e (.ref l) r = pure () := by first | with_reducible exact temporary_str | with_reducible exact temporary_name | (intro _; with_unfolding_all rfl)) :
    wpAny (model prog w) A (subscriptTail e sl (.ref l) (.int (-1) u)) Q E s := by
  have hl := D.lst hm
  have hz : (vs ++ [x]).toArray.size = vs.length + 1 := by rw [List.size_toArray, List.length_append]; rfl
  refine subscriptTail_builtin hl.typeIs slot_list_getitem.lookup (wpAny_getItem_list_neg hl (by decide) (by rw [hz]; omega) (by decide) ?_ k) hs ht
  rw [hz]
  have : ((-1 : Int) + ((vs.length + 1 : Nat) : Int)).toNat = vs.length := by omega
  rw [this]; simp
theorem r_getlast {u : Tok} {x : Value} {Q : Value → Shared → Prop} (D : St B g env vals s news) (hm : s.heap.get? l = some (Lo (vs ++ [x]) n)) (hsz : vs.length ≤ 16777216) (k : Q x s) :
    wpAny (model prog w) A (getItem (.ref l) (.int (-1) u)) Q E s := by
  have hl := D.lst hm
  have hz : (vs ++ [x]).toArray.size = vs.length + 1 := by rw [List.size_toArray, List.length_append]; rfl
  refine wpAny_getItem_list_neg hl (by decide) (by rw [hz]; omega) (by decide) ?_ k
  rw [hz]
  have : ((-1 : Int) + ((vs.length + 1 : Nat) : Int)).toNat = vs.length := by omega
  rw [this]; simp
theorem r_setlast {u : Tok} {x y : Value} {Q : Unit → Shared → Prop} (D : St B g env vals s news) (U : UpdP l (Lo (vs ++ [x]) n) (Lo (vs ++ [y]) n) news news') (k : ∀ s', St B g env vals s' news' → Q () s') :
    wpAny (model prog w) A (setItem (.ref l) (.int (-1) u) y) Q E s := by
  have hz : (vs ++ [x]).toArray.size = vs.length + 1 := by rw [List.size_toArray, List.length_append]; rfl
  refine ki_setBack (D.get U.keys.2) (by decide) (by rw [hz]; omega) (by decide) (k _ (D.upd U (Heap.SameBut.update ..) ?_ (Nat.le_refl _)))
  rw [PySem.IsL.update (D.get U.keys.2)]
  have e : ((-1 : Int) + ((vs ++ [x]).toArray.size : Int)).toNat = vs.length := by rw [hz]; omega
  rw [e]
  simp
end

/-! ## loops over a list -/
section
variable {B : Shared} {g : Heap} {env : Env} {vals vals' : Vals} {s : Shared} {news news' : News'} {M : Model} {A : Around} {E : Value → Shared → Prop} {K : Frag} {prog : Program} {w : World}
  {l : Addr} {vs : List Value} {n : Nat}

/-- one turn of a for: the iterator stands at i -/
def ForTurn (prog : Program) (w : World) (A : Around) (env : Env) (target : Expr) (body : List Stmt) (Q : Flow → Shared → Prop) (l : Addr) (vs : List Value) (J : Addr → Obj → Nat → Shared → Prop) (I : Addr) (o : Obj) (i : Nat) (s : Shared) : Prop :=
  ∃ B g vals n news news₂, St B g env vals s news ∧ s.heap.get? l = some (Lo vs n) ∧
    (∀ o', ∃ news₁, Turn I o o' news news₁ news₂ ∧ ∀ v s', vs[i]? = some v → St B g env vals s' news₁ → wpAny (model prog w) A (assign target env v) (fun _ s₂ => wpAny (model prog w) A (execs body env) (fun f s₃ => match f with
          | .next | .cont => J I o' (i + 1) s₃
          | .brk => Q .next s₃
          | .ret v => Q (.ret v) s₃) (fun _ _ => False) s₂) (fun _ _ => False) s') ∧
    (vs.length ≤ i → ∀ s', St B g env vals s' news₂ → Q .next s')

theorem r_for {target iter : Expr} {body : List Stmt} {pos : Pos} {Q : Flow → Shared → Prop} (hA : A.handled = none)
    (h : wpAny (model prog w) A (eval iter env) (fun xv s₁ => ∃ B g vals news l vs n, ∃ J : Addr → Obj → Nat → Shared → Prop, xv = .ref l ∧ St B g env vals s₁ news ∧ s₁.heap.get? l = some (Lo vs n) ∧ (∀ I o s', St B g env vals s' ((I, o) :: news) → J I o 0 s') ∧
      ∀ I o i s', i ≤ vs.length → J I o i s' → ForTurn prog w A env target body Q l vs J I o i s') (fun _ _ => False) s)
    (hs : ∀ x, foldedSetIterable iter env x = pure x := by intro _; rfl) (ht : ∀ I v, letOwnedTupleGo target (.ref I) v = pure () := by intro _ _; rfl) :
    wpAny (model prog w) A (exec (.For target iter body [] pos) env) Q E s := by
  refine wpAny_For (wpAny_mono h (fun xv s₁ h₁ => ?_) fun _ _ x => x.elim) hs
  obtain ⟨B, g, vals, news, l, vs, n, J, rfl, D, hm, h0, turn⟩ := h₁
  refine wpAny_pyIter_list (D.lst hm) ?_
  refine codeAny_forLoop (fun k s' => ∃ i o, k = vs.length - i ∧ i ≤ vs.length ∧ o.cls = .type "list_iterator" ∧ o.data = .fields #[.ref l, .int i 0] ∧ J s₁.heap.objs.size o i s') ?_ _ ⟨0, Li l 0, rfl, Nat.zero_le _, rfl, rfl, h0 _ _ _ (D.made _)⟩ (ht _)
  rintro k s' ⟨i, o, rfl, hi, hc, hd, hJ⟩
  obtain ⟨B, g, vals, n, news, news₂, D, hm, step, fin⟩ := turn _ o i s' hi hJ
  have hit : s'.heap.IsListIter s₁.heap.objs.size l i := ⟨_, D.get (step o).choose_spec.1.upd.keys.2, hc, hd⟩
  have noE : ∀ e s'', False → notedBy (model prog w) A env (fun e s' => cameBackBy (model prog w) A env E e s') e s'' := fun _ _ x => x.elim
  by_cases hlt : i < vs.length
  · have hx : vs[i]? = some vs[i] := List.getElem?_eq_getElem hlt
    refine wpAny_pyNext_list_item hit (D.lst hm) (x := vs[i]) (by simp [hlt]) fun h' hit' hs' => ?_
    obtain ⟨o', ho', hc', hd'⟩ := hit'
    obtain ⟨news₁, U, step⟩ := step o'
    refine wpAny_mono (step _ _ hx (D.upd U.upd hs' ho' (Nat.le_refl _))) (fun _ s₂ h₂ => wpAny_mono h₂ (fun f s₃ h₃ => ?_) (noE)) (noE)
    cases f with
    | next => exact ⟨vs.length - (i + 1), by omega, i + 1, o', rfl, hlt, hc', hd', h₃⟩
    | cont => exact ⟨vs.length - (i + 1), by omega, i + 1, o', rfl, hlt, hc', hd', h₃⟩
    | brk => exact h₃
    | ret v => exact h₃
  · obtain ⟨news₁, U, _⟩ := step o
    refine up ?_
    refine wpAny_pyNext_list_end hA hit (D.lst hm) (by simp; omega) fun h' hx' u => ?_
    exact wpAny_execs_nil (fin (by omega) _ (D.without U hx' u.2))
end

/-! ## slices -/
theorem sliceIdx_neg_lo (u : Option Int) (len k : Nat) (h0 : 0 < k) (h : k ≤ len) : Builtin.Str.strSliceIndices (some (-(k : Int))) u 1 len = Builtin.Str.strSliceIndices (some ((len - k : Nat) : Int)) u 1 len := by
  have a : (-(k : Int)) < 0 := by omega
  have b : ¬ ((len - k : Nat) : Int) < 0 := by omega
  have c : max 0 (min (-(k : Int) + len) len) = max 0 (min ((len - k : Nat) : Int) len) := by omega
  simp only [Builtin.Str.strSliceIndices, if_pos a, if_neg b]
  simp only [show (1 : Int) > 0 by decide, if_true, c]
theorem sliceIdx_neg_hi (l : Option Int) (len k : Nat) (h0 : 0 < k) (h : k ≤ len) : Builtin.Str.strSliceIndices l (some (-(k : Int))) 1 len = Builtin.Str.strSliceIndices l (some ((len - k : Nat) : Int)) 1 len := by
  have a : (-(k : Int)) < 0 := by omega
  have b : ¬ ((len - k : Nat) : Int) < 0 := by omega
  have c : max 0 (min (-(k : Int) + len) len) = max 0 (min ((len - k : Nat) : Int) len) := by omega
  simp only [Builtin.Str.strSliceIndices, if_pos a, if_neg b]
  simp only [show (1 : Int) > 0 by decide, if_true, c]
/-- text[-k:] -/
theorem T_slice_last {l : List Nat} {k : Nat} (h0 : 0 < k) (h : k ≤ l.length) : Txt.slice (T l) (some (-(k : Int))) none = T (l.drop (l.length - k)) := by
  have e : Txt.slice (T l) (some (-(k : Int))) none = Txt.slice (T l) (some ((l.length - k : Nat) : Int)) none := by
    rw [Txt_slice_eq, Txt_slice_eq]; unfold StrLaws.sliceText; rw [sliceIdx_neg_lo _ (T l).length k h0 (by rw [T_len]; exact h), T_len]
  rw [e, T_slice_from (by omega)]
  congr 1
/-- text[i:-k] -/
theorem T_slice_but {l : List Nat} {i k : Nat} (h0 : 0 < k) (h : i + k ≤ l.length) : Txt.slice (T l) (some (i : Int)) (some (-(k : Int))) = T ((l.drop i).take (l.length - k - i)) := by
  have e : Txt.slice (T l) (some (i : Int)) (some (-(k : Int))) = Txt.slice (T l) (some (i : Int)) (some ((l.length - k : Nat) : Int)) := by
    rw [Txt_slice_eq, Txt_slice_eq]; unfold StrLaws.sliceText; rw [sliceIdx_neg_hi _ (T l).length k h0 (by rw [T_len]; omega), T_len]
  rw [e, T_slice' (by omega) (by omega)]
  congr 1
  have e : (((l.length - k : Nat) : Int) - (i : Int)).toNat = l.length - k - i := by omega
  rw [e]; rfl
/-- text[:-k] -/
theorem T_slice_butlast {l : List Nat} {k : Nat} (h0 : 0 < k) (h : k ≤ l.length) : Txt.slice (T l) none (some (-(k : Int))) = T (l.take (l.length - k)) := by
  have e : Txt.slice (T l) none (some (-(k : Int))) = Txt.slice (T l) none (some ((l.length - k : Nat) : Int)) := by
    rw [Txt_slice_eq, Txt_slice_eq]; unfold StrLaws.sliceText; rw [sliceIdx_neg_hi _ (T l).length k h0 (by rw [T_len]; exact h), T_len]
  rw [e, T_slice_to_over (by omega)]
  congr 1

section
variable {B : Shared} {g : Heap} {env : Env} {vals vals' : Vals} {s : Shared} {news news' : News'} {M : Model} {A : Around} {E : Value → Shared → Prop} {K : Frag} {prog : Program} {w : World}
theorem q_slice_last {e sl : Expr} {l : List Nat} {t : Tok} {k : Nat} {ui : Tok} {Q : Value → Shared → Prop} (D : St B g env vals s news) (h0 : 0 < k) (h : k ≤ l.length) (hsz : l.length ≤ 16777216) (q : ∀ t s', St B g env vals s' news → Q (.str (T (l.drop (l.length - k))) t) s')
    (hs : subscripted sl false (.str (T l) t) (.ref s.heap.objs.size) = operate [.ref s.heap.objs.size, .str (T l) t] (getItem (.str (T l) t) (.ref s.heap.objs.size)) := by first | with_reducible exact subscripted_slice | with_reducible exact subscripted_name | with_reducible exact subscripted_const | with_reducible exact subscripted_bin | with_reducible exact subscripted_un | with_unfolding_all rfl)
    (ht : ∀ r, letTemporaryGo e (.str (T l) t) r = pure () := by first | with_reducible exact temporary_str | with_reducible exact temporary_name | (intro _; with_unfolding_all rfl)) :
    wpAny (model prog w) A (subscriptTail e sl (.str (T l) t) (.ref s.heap.objs.size)) Q E (pushSlice s (.int (-(k : Int)) ui) .none .none) :=
  r_slice_sn D (by rw [T_len, sizeLine_eq]; exact hsz) (fun t s' D' => by rw [T_slice_last h0 h]; exact q t s' D') hs ht
theorem q_slice_but {e sl : Expr} {l : List Nat} {t : Tok} {i k : Nat} {ui uj : Tok} {Q : Value → Shared → Prop} (D : St B g env vals s news) (h0 : 0 < k) (h : i + k ≤ l.length) (hsz : l.length ≤ 16777216) (q : ∀ t s', St B g env vals s' news → Q (.str (T ((l.drop i).take (l.length - k - i))) t) s')
    (hs : subscripted sl false (.str (T l) t) (.ref s.heap.objs.size) = operate [.ref s.heap.objs.size, .str (T l) t] (getItem (.str (T l) t) (.ref s.heap.objs.size)) := by first | with_reducible exact subscripted_slice | with_reducible exact subscripted_name | with_reducible exact subscripted_const | with_reducible exact subscripted_bin | with_reducible exact subscripted_un | with_unfolding_all rfl)
    (ht : ∀ r, letTemporaryGo e (.str (T l) t) r = pure () := by first | with_reducible exact temporary_str | with_reducible exact temporary_name | (intro _; with_unfolding_all rfl)) :
    wpAny (model prog w) A (subscriptTail e sl (.str (T l) t) (.ref s.heap.objs.size)) Q E (pushSlice s (.int (i : Int) ui) (.int (-(k : Int)) uj) .none) :=
  r_slice_ss D (by rw [T_len, sizeLine_eq]; exact hsz) (fun t s' D' => by rw [T_slice_but h0 h]; exact q t s' D') hs ht
theorem q_slice_butlast {e sl : Expr} {l : List Nat} {t : Tok} {k : Nat} {uj : Tok} {Q : Value → Shared → Prop} (D : St B g env vals s news) (h0 : 0 < k) (h : k ≤ l.length) (hsz : l.length ≤ 16777216) (q : ∀ t s', St B g env vals s' news → Q (.str (T (l.take (l.length - k))) t) s')
    (hs : subscripted sl false (.str (T l) t) (.ref s.heap.objs.size) = operate [.ref s.heap.objs.size, .str (T l) t] (getItem (.str (T l) t) (.ref s.heap.objs.size)) := by first | with_reducible exact subscripted_slice | with_reducible exact subscripted_name | with_reducible exact subscripted_const | with_reducible exact subscripted_bin | with_reducible exact subscripted_un | with_unfolding_all rfl)
    (ht : ∀ r, letTemporaryGo e (.str (T l) t) r = pure () := by first | with_reducible exact temporary_str | with_reducible exact temporary_name | (intro _; with_unfolding_all rfl)) :
    wpAny (model prog w) A (subscriptTail e sl (.str (T l) t) (.ref s.heap.objs.size)) Q E (pushSlice s .none (.int (-(k : Int)) uj) .none) :=
  r_slice_ns D (by rw [T_len, sizeLine_eq]; exact hsz) (fun t s' D' => by rw [T_slice_butlast h0 h]; exact q t s' D') hs ht
/-- a list's slice -/
theorem r_slice_list {e sl : Expr} {l : Addr} {vs ws : List Value} {n : Nat} {vl vu : Value} {lo hi : Option Int} {Q : Value → Shared → Prop} (D : St B g env vals s news) (hm : s.heap.get? l = some (Lo vs n)) (pl : IsPart vl lo) (pu : IsPart vu hi) (hw : slicePick vs.toArray lo hi none = ws.toArray) (hsz : vs.length ≤ 16777216)
    (k : ∀ l' s', B.heap.objs.size ≤ l' → St B g env vals s' ((l', Lo ws 0) :: news) → Q (.ref l') s')
    (hs : subscripted sl false (.ref l) (.ref s.heap.objs.size) = operate [.ref s.heap.objs.size, .ref l] (getItem (.ref l) (.ref s.heap.objs.size)) := by first | with_reducible exact subscripted_slice | with_reducible exact subscripted_name | with_reducible exact subscripted_const | with_reducible exact subscripted_bin | with_reducible exact subscripted_un | with_unfolding_all rfl)
    (ht : ∀ r, letTemporaryGo e (.ref l) r = pure () := by first | with_reducible exact temporary_str | with_reducible exact temporary_name | (intro _; with_unfolding_all rfl)) :
    wpAny (model prog w) A (subscriptTail e sl (.ref l) (.ref s.heap.objs.size)) Q E (pushSlice s vl vu .none) := by
  obtain ⟨m, F, N, c⟩ := D.pushFr
  obtain ⟨m', L, ev⟩ := D.led
  refine up (slice_list3 (s := s) L.fr L.nw (D.lst hm) pl pu .none (by simp) (fun h' F' N' u => ?_) hs ht (by rw [List.size_toArray, sizeLine_eq]; exact hsz))
  rw [hw] at N'
  refine k _ _ (Nat.le_succ_of_le D.up.2) (D.to ⟨m', ⟨F', N', ?_⟩, ev⟩ rfl (up_push u))
  rw [List.map_cons, List.pairwise_cons]
  refine ⟨fun a ha => ?_, L.ord⟩
  obtain ⟨p, hp, rfl⟩ := List.mem_map.mp ha
  exact Nat.lt_succ_of_lt (Heap.lt_size (L.nw p hp).1)
end

/-! ## contracts that read objects of the caller's -/
def FnR (K : Frag) (prog : Program) (w : World) (n : Nat) (f : Value) (args : List Value) (rd : News') (post : Value → News' → Prop) : Prop :=
  ∀ {A : Around} {s : Shared} {g : Heap} {R : Result → Shared → Prop}, Sta K g → Room A n → Own g s [] → (∀ p ∈ rd, g.get? p.1 = some p.2) →
    (∀ v s' own', post v own' → Own g s' own' → (∀ p ∈ own', p.1 ∈ ([] : News').map (·.1) ∨ s.heap.objs.size ≤ p.1) → Rest s s' → Up s s' → R (.ok (.ret v)) s') →
    codeAny (model prog w) A (.call f ⟨args, []⟩) R s
section
variable {B : Shared} {g : Heap} {env : Env} {vals vals' : Vals} {s : Shared} {news news' : News'} {M : Model} {A : Around} {E : Value → Shared → Prop} {K : Frag} {prog : Program} {w : World} {n : Nat} {f : Value} {args : List Value}
theorem useR {rd : News'} {post : Value → News' → Prop} {Q : Value → Shared → Prop} (C : FnR K prog w n f args rd post) (S : Sta K g) (hA : Room A n) (D : St B g env vals s news) (hr : ∀ p ∈ rd, s.heap.get? p.1 = some p.2)
    (k : ∀ v own' s', post v own' → (∀ p ∈ own', B.heap.objs.size ≤ p.1) → St B g env vals s' (own' ++ news) → Q v s') : wpAny (model prog w) A (call f args []) Q E s := by
  have hs : ([] : News').Sublist news := List.nil_sublist _
  obtain ⟨m, L, e⟩ := D.led
  refine wpAny_call (C (D.sta S hs) hA (D.own hs) (fun p hp => hideAll_get _ (hr p hp) (by simp)) fun v s' own' hp O hnew r u => k v own' s' hp (fun p hp => Nat.le_trans D.up.2 ((hnew p hp).resolve_left fun z => nomatch z)) (D.after (own := []) (fun p hp => nomatch hp) O r u (fun p hp => ?_) ?_))
  · rcases List.mem_append.mp hp with hp | hp
    · have hge : s.heap.objs.size ≤ p.1 := (hnew p hp).resolve_left fun z => nomatch z
      refine .inl ⟨hp, ?_, fun q => ?_⟩
      · cases q : g.get? p.1 with
        | none => rfl
        | some o => exact absurd (Heap.lt_size (L.fr.keep _ _ q)) (Nat.not_lt.mpr hge)
      · have := L.fr.ns.lt; rw [← q] at this; exact absurd this (Nat.not_lt.mpr hge)
    · exact .inr ⟨hp, fun z => nomatch z⟩
  · rw [List.map_append]
    refine List.pairwise_append.mpr ⟨O.ord, L.ord, fun a ha b hb => ?_⟩
    obtain ⟨p, hp, rfl⟩ := List.mem_map.mp ha
    obtain ⟨q, hq, rfl⟩ := List.mem_map.mp hb
    have hge : s.heap.objs.size ≤ p.1 := (hnew p hp).resolve_left fun z => nomatch z
    exact Nat.lt_of_lt_of_le (Heap.lt_size (L.nw q hq).1) hge
/-- a frame's end that hands back new objects -/
theorem St.leaveN {B : Shared} {v : Value} {news' : News'} (D : St B g env vals s news) (hn : news'.Sublist news) (hB : ∀ p ∈ news', B.heap.objs.size ≤ p.1) (hg : g.objs.size ≤ B.heap.objs.size) {R : Result → Shared → Prop} {post : Value → News' → Prop} (hp : post v news')
    (k : ∀ v s' own', post v own' → Own g s' own' → (∀ p ∈ own', p.1 ∈ ([] : News').map (·.1) ∨ B.heap.objs.size ≤ p.1) → Rest B s' → Up B s' → R (.ok (.ret v)) s') : R (.ok (.ret v)) s :=
  (D.drop hn).leave (own := []) (fun p h => .inr (hB p h)) hg hp k
end

/-! ## lists of texts, of numbers -/
inductive Txts : List Value → List (List Nat) → Prop
  | nil : Txts [] []
  | cons {l : List Nat} {t : Tok} {vs ls} : Txts vs ls → Txts (.str (T l) t :: vs) (l :: ls)
theorem Txts.len {vs ls} (h : Txts vs ls) : vs.length = ls.length := by induction h <;> simp [*]
theorem Txts.snoc {vs ls} {l : List Nat} {t : Tok} (h : Txts vs ls) : Txts (vs ++ [.str (T l) t]) (ls ++ [l]) := by
  induction h with
  | nil => exact .cons .nil
  | cons _ ih => exact .cons ih
theorem Txts.get {vs ls} (h : Txts vs ls) : ∀ {i : Nat} {l : List Nat}, ls[i]? = some l → ∃ t, vs[i]? = some (.str (T l) t) := by
  induction h with
  | nil => intro i l e; simp at e
  | @cons l₀ t₀ vs ls _ ih =>
    intro i l e
    cases i with
    | zero => simp at e; subst e; exact ⟨t₀, rfl⟩
    | succ i => simp at e; simpa using ih e
theorem Txts.got {vs ls} (h : Txts vs ls) : ∀ {i : Nat} {v : Value}, vs[i]? = some v → ∃ l t, ls[i]? = some l ∧ v = .str (T l) t := by
  induction h with
  | nil => intro i l e; simp at e
  | @cons l₀ t₀ vs ls _ ih =>
    intro i v e
    cases i with
    | zero => simp at e; subst e; exact ⟨l₀, t₀, rfl, rfl⟩
    | succ i => simp at e; simpa using ih e
theorem Txts.drop {vs ls} (h : Txts vs ls) : ∀ n, Txts (vs.drop n) (ls.drop n) := by
  induction h with
  | nil => intro n; simp; exact .nil
  | cons h ih =>
    intro n
    cases n with
    | zero => exact .cons h
    | succ n => exact ih n
theorem Txts.take {vs ls} (h : Txts vs ls) : ∀ n, Txts (vs.take n) (ls.take n) := by
  induction h with
  | nil => intro n; simp; exact .nil
  | cons h ih =>
    intro n
    cases n with
    | zero => exact .nil
    | succ n => exact .cons (ih n)
inductive Nums : List Value → List Int → Prop
  | nil : Nums [] []
  | cons {i : Int} {t : Tok} {vs is} : Nums vs is → Nums (.int i t :: vs) (i :: is)
theorem Nums.are {vs is} (h : Nums vs is) : IntsAre vs is := by
  induction h with
  | nil => exact .nil
  | cons _ ih => exact .cons _ _ ih
theorem Nums.of {vs is} (h : IntsAre vs is) : Nums vs is := by
  induction h with
  | nil => exact .nil
  | cons _ _ _ ih => exact .cons ih
theorem Nums.len {vs is} (h : Nums vs is) : vs.length = is.length := by induction h <;> simp [*]
theorem Nums.got {vs is} (h : Nums vs is) : ∀ {i : Nat} {v : Value}, vs[i]? = some v → ∃ l t, is[i]? = some l ∧ v = .int l t := by
  induction h with
  | nil => intro i l e; simp at e
  | @cons l₀ t₀ vs ls _ ih =>
    intro i v e
    cases i with
    | zero => simp at e; subst e; exact ⟨l₀, t₀, rfl, rfl⟩
    | succ i => simp at e; simpa using ih e
theorem Nums.snoc {vs ls} {l : Int} {t : Tok} (h : Nums vs ls) : Nums (vs ++ [.int l t]) (ls ++ [l]) := by
  induction h with
  | nil => exact .cons .nil
  | cons _ ih => exact .cons ih
theorem r_expr {M : Model} {A : Around} {E : Value → Shared → Prop} {B : Shared} {g : Heap} {env : Env} {vals : Vals} {s : Shared} {news : News'} {e : Expr} {pos : Pos} {Q : Flow → Shared → Prop} (D : St B g env vals s news)
    (h : wpAny M A (eval e env) (fun v s' => match v with | .ref _ => False | _ => Q .next s') E s) (hs : swapsWith e none pos.line env = pure false := by rfl) : wpAny M A (exec (.Expr e pos) env) Q E s :=
  wpAny_Expr h (by unfold interactive; rw [D.kind]; rfl) hs

/-! ## in a written tuple -/
theorem any_mem {α : Type} [BEq α] [LawfulBEq α] [DecidableEq α] (x : α) : ∀ l : List α, l.any (· == x) = decide (x ∈ l)
  | [] => by simp
  | a :: r => by
    rw [List.any_cons, any_mem x r]
    by_cases h : a = x
    · subst h; simp
    · have h' : ¬ x = a := fun e => h e.symm
      simp [h, h']
theorem Txts.strs {vs ls} (h : Txts vs ls) : StrsAre vs (ls.map T) := by
  induction h with
  | nil => exact .nil
  | cons _ ih => exact .cons _ _ ih
theorem any_T (x : List Nat) (ls : List (List Nat)) : (ls.map T).any (· == T x) = decide (x ∈ ls) := by
  rw [List.any_map, ← any_mem]
  congr 1
  funext y
  show (T y == T x) = (y == x)
  rw [T_beq]
  by_cases h : y = x <;> simp [h]
section
variable {B : Shared} {g : Heap} {env : Env} {vals vals' : Vals} {s : Shared} {news news' : News'} {A : Around} {E : Value → Shared → Prop} {prog : Program} {w : World} {a : Addr} {ws : List Value}
theorem r_notin_tup_int {is : List Int} {i : Int} {t : Tok} {Q : Value → Shared → Prop} (D : St B g env vals s ((a, tupObj ws) :: news)) (hT : Nums ws is) (k : ∀ s', St B g env vals s' news → Q (.bool (!decide (i ∈ is))) s') :
    wpAny (model prog w) A (compareOp .NotIn (.int i t) (.ref a)) Q E s :=
  notin_tuple_ints ⟨_, D.get List.mem_cons_self, rfl, _, rfl⟩ hT.are (by rw [any_mem]; exact k s (D.drop (List.sublist_cons_self _ _)))
theorem r_in_tup_str {ls : List (List Nat)} {x : List Nat} {t : Tok} {Q : Value → Shared → Prop} (D : St B g env vals s ((a, tupObj ws) :: news)) (hT : Txts ws ls) (k : ∀ s', St B g env vals s' news → Q (.bool (decide (x ∈ ls))) s') :
    wpAny (model prog w) A (compareOp .In (.str (T x) t) (.ref a)) Q E s :=
  in_tuple_strs ⟨_, D.get List.mem_cons_self, rfl, _, rfl⟩ hT.strs (by rw [any_T]; exact k s (D.drop (List.sublist_cons_self _ _)))
end

/-! ## which kind a goal is of -/
section
variable {M : Model} {A : Around} {s : Shared} {env : Env}
theorem gEval {e : Expr} {Q : Value → Shared → Prop} {E : Value → Shared → Prop} (h : wpAny M A (eval e env) Q E s) : wpAny M A (eval e env) Q E s := h
theorem gExec {e : Stmt} {Q : Flow → Shared → Prop} {E : Value → Shared → Prop} (h : wpAny M A (exec e env) Q E s) : wpAny M A (exec e env) Q E s := h
theorem gExecs {e : List Stmt} {Q : Flow → Shared → Prop} {E : Value → Shared → Prop} (h : wpAny M A (execs e env) Q E s) : wpAny M A (execs e env) Q E s := h
theorem gIsTrue {e : Expr} {t : Sem Value} {Q : Bool → Shared → Prop} {E : Value → Shared → Prop} (h : wpAny M A (PySem.isTrue e env t) Q E s) : wpAny M A (PySem.isTrue e env t) Q E s := h
end

end
section
/-! ## pieces and a text: what is asked -/
/-- a star, then the pieces in their order, the last one at the end -/
def Run : List (List Nat) → List Nat → Prop
  | [], _ => False
  | [q], l => ∃ a, l = a ++ q
  | p :: r, l => ∃ a b, l = a ++ (p ++ b) ∧ Run r b
def Fit : List (List Nat) → List Nat → Prop
  | [], _ => False
  | [p], l => l = p
  | p :: r, l => ∃ b, l = p ++ b ∧ Run r b
theorem Run.more : ∀ {ps : List (List Nat)} {b : List Nat} (a : List Nat), Run ps b → Run ps (a ++ b)
  | [], _, _, h => h
  | [_], _, a, ⟨c, h⟩ => ⟨a ++ c, by rw [h, List.append_assoc]⟩
  | _ :: _ :: _, _, a, ⟨c, d, h, r⟩ => ⟨a ++ c, d, by rw [h, List.append_assoc], r⟩
theorem Run.sub {ps : List (List Nat)} {l : List Nat} {i j : Nat} (hij : i ≤ j) (h : Run ps (l.drop j)) : Run ps (l.drop i) := by
  have e : l.drop i = (l.drop i).take (j - i) ++ l.drop j := by
    have := (List.take_append_drop (j - i) (l.drop i)).symm
    rw [List.drop_drop, show i + (j - i) = j by omega] at this
    exact this
  rw [e]; exact h.more _
/-- the piece stands at i -/
def Stands (l p : List Nat) (i : Nat) : Prop := i + p.length ≤ l.length ∧ (l.drop i).take p.length = p
theorem run_split {p : List Nat} {r : List (List Nat)} {l : List Nat} {i : Nat} (hi : i ≤ l.length) (hr : r ≠ []) : Run (p :: r) (l.drop i) ↔ ∃ j, i ≤ j ∧ Stands l p j ∧ Run r (l.drop (j + p.length)) := by
  cases r with
  | nil => exact absurd rfl hr
  | cons q r =>
  constructor
  · rintro ⟨a, b, e, h⟩
    have hl : (l.drop i).length = a.length + (p.length + b.length) := by rw [e]; simp
    rw [List.length_drop] at hl
    have e2 : l.drop (i + a.length) = p ++ b := by rw [← List.drop_drop, e, List.drop_left]
    refine ⟨i + a.length, by omega, ⟨by omega, by rw [e2, List.take_left]⟩, ?_⟩
    rw [← List.drop_drop, e2, List.drop_left]
    exact h
  · rintro ⟨j, hij, ⟨h1, h2⟩, h⟩
    refine ⟨(l.drop i).take (j - i), l.drop (j + p.length), ?_, h⟩
    have e1 := (List.take_append_drop (j - i) (l.drop i))
    rw [List.drop_drop, show i + (j - i) = j by omega] at e1
    have e2 := List.take_append_drop p.length (l.drop j)
    rw [h2, List.drop_drop] at e2
    rw [e2, e1]
/-- the first place is enough -/
theorem run_first {p : List Nat} {r : List (List Nat)} {l : List Nat} {i j : Nat} (hi : i ≤ l.length) (hr : r ≠ []) (hij : i ≤ j) (hj : Stands l p j) (hf : ∀ k, i ≤ k → k < j → ¬ Stands l p k) :
    Run (p :: r) (l.drop i) ↔ Run r (l.drop (j + p.length)) := by
  rw [run_split hi hr]
  constructor
  · rintro ⟨k, hk, hs, h⟩
    have : j ≤ k := Nat.not_lt.mp fun q => hf k hk q hs
    exact h.sub (by omega)
  · exact fun h => ⟨j, hij, hj, h⟩
theorem run_none {p : List Nat} {r : List (List Nat)} {l : List Nat} {i : Nat} (hi : i ≤ l.length) (hr : r ≠ []) (hf : ∀ k, i ≤ k → ¬ Stands l p k) : ¬ Run (p :: r) (l.drop i) := by
  rw [run_split hi hr]
  rintro ⟨k, hk, hs, _⟩
  exact hf k hk hs
theorem run_last {q l : List Nat} {i : Nat} (hi : i ≤ l.length) : Run [q] (l.drop i) ↔ (i + q.length ≤ l.length ∧ l.drop (l.length - q.length) = q) := by
  constructor
  · rintro ⟨a, e⟩
    have hl : (l.drop i).length = a.length + q.length := by rw [e]; simp
    rw [List.length_drop] at hl
    refine ⟨by omega, ?_⟩
    have e2 : l.drop (i + a.length) = q := by rw [← List.drop_drop, e, List.drop_left]
    rw [show l.length - q.length = i + a.length by omega, e2]
  · rintro ⟨h1, h2⟩
    refine ⟨(l.drop i).take (l.length - q.length - i), ?_⟩
    have e1 := (List.take_append_drop (l.length - q.length - i) (l.drop i))
    rw [List.drop_drop, show i + (l.length - q.length - i) = l.length - q.length by omega, h2] at e1
    exact e1.symm
theorem fit_cons {p l : List Nat} {r : List (List Nat)} (hr : r ≠ []) : Fit (p :: r) l ↔ (l.take p.length = p ∧ p.length ≤ l.length ∧ Run r (l.drop p.length)) := by
  cases r with
  | nil => exact absurd rfl hr
  | cons q r =>
  constructor
  · rintro ⟨b, e, h⟩
    subst e
    refine ⟨List.take_left, by simp, ?_⟩
    rw [List.drop_left]; exact h
  · rintro ⟨h1, _, h2⟩
    exact ⟨_, by have := List.take_append_drop p.length l; rw [h1] at this; exact this.symm, h2⟩

/-! ## find -/
theorem at_stands {l p : List Nat} {i : Nat} : StrLaws.At (T l) (T p) (T l).length i ↔ Stands l p i := by
  unfold StrLaws.At Stands
  rw [StrLaws.subAt_eq, T_len, T_len, T_list, T_list, beq_iff_eq]
theorem T_find3 (l p : List Nat) {i : Int} (h0 : 0 ≤ i) : (Txt.find3 (T l) (T p) i = -1 ∧ ∀ k, i.toNat ≤ k → ¬ Stands l p k) ∨
    ∃ j : Nat, Txt.find3 (T l) (T p) i = (j : Int) ∧ i.toNat ≤ j ∧ Stands l p j ∧ ∀ k, i.toNat ≤ k → k < j → ¬ Stands l p k := by
  have e : fromIndex (T l).length i = i.toNat := by
    unfold fromIndex
    rw [if_neg (by omega)]; congr 1; omega
  unfold Txt.find3
  rw [e]
  rcases StrLaws.occ_head_from (T l) (T p) i.toNat 1 (Nat.le_refl 1) with ⟨h0, hn⟩ | ⟨j, r, h0, hlo, hj, hn⟩
  · rw [h0]; exact .inl ⟨rfl, fun k hk hs => hn k hk (at_stands.mpr hs)⟩
  · rw [h0]; exact .inr ⟨j, rfl, hlo, at_stands.mp hj, fun k h1 h2 hs => hn k h1 h2 (at_stands.mpr hs)⟩
section
variable {B : Shared} {g : Heap} {env : Env} {vals vals' : Vals} {s : Shared} {news news' : News'} {A : Around} {E : Value → Shared → Prop} {prog : Program} {w : World}
theorem q_find3 {l p : List Nat} {i : Int} {t u v : Tok} {Q : Value → Shared → Prop} (D : St B g env vals s news) (h0 : 0 ≤ i)
    (k : ∀ (t : Tok) (s' : Shared) (r : Int), ((r = -1 ∧ ∀ k, i.toNat ≤ k → ¬ Stands l p k) ∨ ∃ j : Nat, r = (j : Int) ∧ i.toNat ≤ j ∧ Stands l p j ∧ ∀ k, i.toNat ≤ k → k < j → ¬ Stands l p k) → St B g env vals s' news → Q (.int r t) s') :
    wpAny (model prog w) A (call (.builtin "str.find") [.str (T l) t, .str (T p) u, .int i v]) Q E s :=
  SC.find3 (k _ _ _ (T_find3 l p h0) D.tk1)
end
theorem Txts.splitLast : ∀ {vs ls}, Txts vs ls → ls ≠ [] → ∃ vs' ls' q t, vs = vs' ++ [.str (T q) t] ∧ ls = ls' ++ [q] ∧ Txts vs' ls'
  | _, _, .nil, h => absurd rfl h
  | _, _, @Txts.cons l t _ _ .nil, _ => ⟨[], [], l, t, rfl, rfl, .nil⟩
  | _, _, @Txts.cons l t _ _ (@Txts.cons l₂ t₂ vs ls h), _ => by
    obtain ⟨vs', ls', q, t', e1, e2, h'⟩ := Txts.splitLast (Txts.cons (l := l₂) (t := t₂) h) (List.cons_ne_nil _ _)
    exact ⟨_, _, q, t', by rw [e1]; rfl, by rw [e2]; rfl, .cons h'⟩
/-- list[1:-1] -/
theorem pick_mid (v x : Value) (ms : List Value) : slicePick (v :: (ms ++ [x])).toArray (some 1) (some (-1)) none = ms.toArray := by
  rw [slicePick_plain]
  have h1 := clipAt_nat (v :: (ms ++ [x])).toArray.size 1
  have h2 := clipAt_neg (v :: (ms ++ [x])).toArray.size 1 (Nat.le_refl _)
  have hz : (v :: (ms ++ [x])).toArray.size = ms.length + 2 := by simp
  rw [hz] at h1 h2 ⊢
  simp only [Option.elim]
  rw [show ((1 : Nat) : Int) = 1 from rfl] at h1
  rw [show (-((1 : Nat) : Int)) = -1 from rfl] at h2
  rw [h1, h2]
  have : min 1 (ms.length + 2) = 1 := by omega
  rw [this]
  simp

end
section
/-! ## the text that translate gives, by its pieces -/
def eS (c : Nat) : List Nat := if c = 91 then [91, 92, 91, 93] else if c = 42 ∨ c = 63 then [91, c, 93] else if c = 92 ∨ c = 32 then [92, c] else [c]
def eT (p : List Nat) : List Nat := p.flatMap eS
def trTail : List (List Nat) → List Nat
  | [] => []
  | [q] => [46, 42] ++ eT q
  | m :: r => [40, 63, 62, 46, 42, 63] ++ (eT m ++ ([41] ++ trTail r))
def trText : List (List Nat) → List Nat
  | [] => []
  | p :: r => [40, 63, 115, 58] ++ (eT p ++ trTail r) ++ [41, 92, 90]
theorem eT_cons (c : Nat) (p : List Nat) : eT (c :: p) = eS c ++ eT p := rfl
theorem trTail_two (m q : List Nat) (r : List (List Nat)) : trTail (m :: q :: r) = [40, 63, 62, 46, 42, 63] ++ (eT m ++ ([41] ++ trTail (q :: r))) := rfl
inductive Kind : Nat → List Nat → Prop
  | plain {c} : c ≠ 91 → c ≠ 92 → Kind c [c]
  | back {c} : Kind c [92, c]
  | fence {c} : c ≠ 92 → Kind c [91, c, 93]
  | both : Kind 91 [91, 92, 91, 93]
theorem eS_kind (c : Nat) : Kind c (eS c) := by
  unfold eS
  by_cases h1 : c = 91
  · subst h1; exact .both
  · rw [if_neg h1]
    by_cases h2 : c = 42 ∨ c = 63
    · rw [if_pos h2]; exact .fence (by omega)
    · rw [if_neg h2]
      by_cases h3 : c = 92 ∨ c = 32
      · rw [if_pos h3]; exact .back
      · rw [if_neg h3]; exact .plain h1 (by omega)
theorem drop_app {l a b : List Nat} {i k : Nat} (h : l.drop i = a ++ b) (hk : k = a.length) : l.drop (i + k) = b := by
  subst hk; rw [← List.drop_drop, h, List.drop_left]
theorem drop_more {l b : List Nat} {x i : Nat} (h : l.drop i = x :: b) : l.drop (i + 1) = b := by
  rw [← List.drop_drop, h]; rfl
theorem drop_lt {l b : List Nat} {x i : Nat} (h : l.drop i = x :: b) : i < l.length := by
  have := congrArg List.length h; simp at this; omega
theorem drop_at {l b : List Nat} {x i : Nat} (h : l.drop i = x :: b) : l[i]? = some x := by
  have := List.getElem?_drop (xs := l) (i := i) (j := 0); rw [h] at this; simpa using this.symm

theorem drop_ai {l b : List Nat} {x i : Nat} {ai : Int} (e : ai = i) (h : l.drop i = x :: b) : l[ai.toNat]? = some x := by subst e; exact drop_at h

section
variable {B : Shared} {g : Heap} {env : Env} {vals vals' : Vals} {s : Shared} {news news' : News'} {A : Around} {E : Value → Shared → Prop} {prog : Program} {w : World}
/-- text[a:a+k] where the rest is known -/
theorem q_slice_ak {e sl : Expr} {l : List Nat} {t : Tok} {i j : Int} {ui uj : Tok} {Q : Value → Shared → Prop} (D : St B g env vals s news) (a k : Nat) {r : List Nat} (hr : l.drop a = r) (hi : i = a) (hj : j = a + k) (h : a ≤ l.length) (hsz : l.length ≤ 16777216) (q : ∀ t s', St B g env vals s' news → Q (.str (T (r.take k)) t) s')
    (hs : subscripted sl false (.str (T l) t) (.ref s.heap.objs.size) = operate [.ref s.heap.objs.size, .str (T l) t] (getItem (.str (T l) t) (.ref s.heap.objs.size)) := by first | with_reducible exact subscripted_slice | with_reducible exact subscripted_name | with_reducible exact subscripted_const | with_reducible exact subscripted_bin | with_reducible exact subscripted_un | with_unfolding_all rfl)
    (ht : ∀ r, letTemporaryGo e (.str (T l) t) r = pure () := by first | with_reducible exact temporary_str | with_reducible exact temporary_name | (intro _; with_unfolding_all rfl)) :
    wpAny (model prog w) A (subscriptTail e sl (.str (T l) t) (.ref s.heap.objs.size)) Q E (pushSlice s (.int i ui) (.int j uj) .none) :=
  q_slice_ss D ⟨by omega, by omega⟩ (by omega) hsz (fun t s' D' => by
    have e1 : i.toNat = a := by omega
    have e2 : (j - i).toNat = k := by omega
    rw [e1, e2, hr]; exact q t s' D') hs ht
end

end
section
/-! ## str.translate of one sign -/
def Ext (s s' : Shared) : Prop := (∀ b o, s.heap.get? b = some o → s'.heap.get? b = some o) ∧ Rest s s' ∧ Up s s'
theorem Ext.trans {a b c : Shared} (x : Ext a b) (y : Ext b c) : Ext a c := ⟨fun d o e => y.1 d o (x.1 d o e), x.2.1.trans y.2.1, x.2.2.trans y.2.2⟩
theorem St.ext {B : Shared} {g : Heap} {env : Env} {vals : Vals} {s s' : Shared} {news : News'} (D : St B g env vals s news) (x : Ext s s') : St B g env vals s' news := by
  obtain ⟨m, L, e⟩ := D.led
  exact { D with led := ⟨m, ⟨⟨L.fr.ns.at' fun o e => x.1 _ _ e, fun b o e => x.1 _ _ (L.fr.keep b o e), L.fr.above⟩, fun p hp => ⟨x.1 _ _ (L.nw p hp).1, (L.nw p hp).2⟩, L.ord⟩, e⟩, tok := Nat.le_trans D.tok x.2.2.1, rest := D.rest.trans x.2.1, up := D.up.trans x.2.2 }
theorem sub_KeyError : isSubtype (.type "KeyError") (.type "LookupError") = pure true := by rw [isSubtype_type]; kernel_rfl
section
variable {prog : Program} {w : World} {A : Around} {E : Value → Shared → Prop} {s : Shared} {d : Addr} {f : Int → Option Value} {c : Nat}
theorem look_hit {x : Str} {t : Tok} {Q : Builtin.Str.Mapped → Shared → Prop} (hm : s.heap.MapOf (intKind prog w) d f) (hf : f c = some (.str x t)) (k : Q (.text x) { s with toks := s.toks + 1 + 1 }) :
    wpAny (model prog w) A (Builtin.Str.tableLookup (.ref d) c) Q E s := by
  unfold Builtin.Str.tableLookup
  refine wpAny_bind (wpAny_attempt (wpAny_bind (wpAny_mkInt (wpAny_getItem_of (intKind_is prog w _ _) hm hf ?_))))
  dsimp only
  exact wpAny_bind (wpAny_pure (wpAny_bind (wpAny_pure (wpAny_pure k))))
theorem look_miss {Q : Builtin.Str.Mapped → Shared → Prop} (hh : A.handled = none) (hd : (d == sysModules) = false) (hm : s.heap.MapOf (intKind prog w) d f) (hf : f c = none) (k : ∀ s', Ext s s' → Q .keep s') :
    wpAny (model prog w) A (Builtin.Str.tableLookup (.ref d) c) Q E s := by
  unfold Builtin.Str.tableLookup
  refine up ?_
  refine wpAny_bind (wpAny_attempt (wpAny_bind (wpAny_mkInt (wpAny_getItem_missing_of (intKind_is prog w _ _) hd hh hm hf fun h' e hn => ?_))))
  dsimp only
  refine wpAny_bind (wpAny_isInstance (T := "KeyError") (b := true) (let ⟨ob, _, h1, h2, _⟩ := hn.there; ⟨ob, h1, h2⟩) sub_KeyError ?_)
  refine wpAny_bind (wpAny_rule (wpAny_pure fun u => k _ ⟨?_, ⟨rfl, rfl, rfl⟩, u⟩))
  exact hn.keeps
theorem wp_if_f {α : Type} {M : Model} {A : Around} {E : Value → Shared → Prop} {s : Shared} {c : Bool} {a b : Sem α} {Q : α → Shared → Prop} (hc : c = false) (h : wpAny M A b Q E s) : wpAny M A (if c = true then a else b) Q E s := by subst hc; exact h
theorem wp_if_t {α : Type} {M : Model} {A : Around} {E : Value → Shared → Prop} {s : Shared} {c : Bool} {a b : Sem α} {Q : α → Shared → Prop} (hc : c = true) (h : wpAny M A a Q E s) : wpAny M A (if c = true then a else b) Q E s := by subst hc; exact h
theorem translate_miss {t : Tok} {Q : Value → Shared → Prop} (hh : A.handled = none) (hd : (d == sysModules) = false) (hm : s.heap.MapOf (intKind prog w) d f) (hf : f c = none) (k : ∀ t s', Ext s s' → Q (.str (T [c]) t) s') :
    wpAny (model prog w) A (call (.builtin "str.translate") [.str (T [c]) t, .ref d]) Q E s := by
  refine wpAny_call_entry F.slot_str_translate (typeIs_str _ _ _) F.entry_str_translate ?_ (F.args_str_translate_2 _ _)
  unfold Builtin.«str.translate»
  refine wpAny_bind (wpAny_of_eq (a := (.str (T [c]) t, T [c], .ref d)) rfl ?_)
  dsimp only
  refine wp_if_f rfl ?_
  simp only [T_cps]
  simp only [List.forIn_toArray, List.forIn_cons, List.forIn_nil]
  have hall : [c].toArray.all (fun x => decide (x < 128)) = decide (c < 128) := by simp
  rw [hall]
  simp only [List.lookup_nil]
  refine wpAny_bind (wpAny_bind (wp_if_f rfl ?_))
  have fin : ∀ (s' : Shared) (r : List Str × Nat × Bool × List (Nat × Option Nat) × Bool), r.1 = [T [c]] → r.2.1 = 1 → Ext s s' →
      wpAny (model prog w) A.in1 (if Builtin.Str.tooLong r.2.1 = true then (do unsupported "str.translate:memory"; retStr ⟨r.1.reverse.foldl (fun acc p => acc ++ p.cps) #[]⟩) else retStr ⟨r.1.reverse.foldl (fun acc p => acc ++ p.cps) #[]⟩) (fun fin s'' => ∃ v, fin = .done (.ret v) ∧ Q v s'') E s' := by
    rintro s' ⟨r1, r2, r3⟩ h1 h2 hx
    dsimp only at h1 h2 ⊢
    subst h1 h2
    refine wp_if_f (by unfold Builtin.Str.tooLong; rw [sizeLine_eq]; rfl) ?_
    have e : (⟨List.foldl (fun acc (p : Str) => acc ++ p.cps) #[] [T [c]].reverse⟩ : Str) = T [c] := by simp [T]
    rw [e]
    unfold retStr
    refine up (wpAny_bind (wpAny_mkStr ?_ (by rw [T_len, sizeLine_eq]; exact Nat.le_of_ble_eq_true rfl)))
    exact wpAny_pure fun u => ⟨_, rfl, k _ _ (hx.trans ⟨fun _ _ e => e, ⟨rfl, rfl, rfl⟩, u⟩)⟩
  by_cases hc : c < 128
  · refine wp_if_t (decide_eq_true hc) ?_
    refine wpAny_bind (look_miss hh hd hm hf fun s' hx => ?_)
    dsimp only
    exact wpAny_bind (wpAny_pure (wpAny_pure (wpAny_pure (fin s' _ rfl rfl hx))))
  · refine wp_if_f (decide_eq_false hc) ?_
    refine wp_if_f rfl ?_
    refine wpAny_bind (look_miss hh hd hm hf fun s' hx => ?_)
    dsimp only
    exact wpAny_pure (wpAny_pure (fin s' _ rfl rfl hx))
theorem translate_hit {x : Nat} {t u : Tok} {Q : Value → Shared → Prop} (hm : s.heap.MapOf (intKind prog w) d f) (hc : c < 128) (hf : f c = some (.str (T [x, c]) u)) (k : ∀ t s', Ext s s' → Q (.str (T [x, c]) t) s') :
    wpAny (model prog w) A (call (.builtin "str.translate") [.str (T [c]) t, .ref d]) Q E s := by
  refine wpAny_call_entry F.slot_str_translate (typeIs_str _ _ _) F.entry_str_translate ?_ (F.args_str_translate_2 _ _)
  unfold Builtin.«str.translate»
  refine wpAny_bind (wpAny_of_eq (a := (.str (T [c]) t, T [c], .ref d)) rfl ?_)
  dsimp only
  refine wp_if_f rfl ?_
  simp only [T_cps]
  simp only [List.forIn_toArray, List.forIn_cons, List.forIn_nil]
  have hall : [c].toArray.all (fun x => decide (x < 128)) = decide (c < 128) := by simp
  rw [hall]
  simp only [List.lookup_nil]
  refine up ?_
  refine wpAny_bind (wpAny_bind (wp_if_f rfl (wp_if_t (decide_eq_true hc) ?_)))
  refine wpAny_bind (look_hit hm hf ?_)
  have hl : (T [x, c]).length = 2 := T_len _
  simp only [hl]
  refine wpAny_bind (wpAny_pure ?_)
  refine wpAny_bind (wpAny_rule (wp_if_f rfl ?_))
  refine wpAny_bind (look_hit (s := { s with toks := s.toks + 1 + 1 }) hm hf ?_)
  dsimp only
  refine wpAny_pure (wpAny_pure ?_)
  refine wp_if_f (by unfold Builtin.Str.tooLong; rw [sizeLine_eq]; rfl) ?_
  have e : (⟨List.foldl (fun acc (p : Str) => acc ++ p.cps) #[] [T [x, c]].reverse⟩ : Str) = T [x, c] := by simp [T]
  dsimp only
  rw [e]
  unfold retStr
  refine wpAny_bind (wpAny_mkStr ?_ (by rw [T_len, sizeLine_eq]; exact Nat.le_of_ble_eq_true rfl))
  exact wpAny_pure fun u => ⟨_, rfl, k _ _ ⟨fun _ _ e => e, ⟨rfl, rfl, rfl⟩, u⟩⟩
end

/-! ## a table of ints that stands in the fragment -/
def keyIn (L : List Nat) (e : DictEntry) : Bool := match e.key with
  | .int i _ => (L.any fun n => (n : Int) == i) && e.hash == hashInt i
  | _ => false
def intTab (K : Frag) (a : Addr) (L : List Nat) : Bool := match K.lookup a with
  | some o => decide (o.cls = .type "dict") && o.dict.isNone && o.slots.isEmpty && (match o.data with
    | .dict es _ => es.all (keyIn L)
    | _ => false)
  | none => false
def intAt (K : Frag) (a : Addr) (c : Int) : Option Value := match K.lookup a with
  | some ⟨_, _, .dict es _, _⟩ => findBy Value.isInt es c
  | _ => none
theorem intTab_spec {K : Frag} {a : Addr} {L : List Nat} (h : intTab K a L = true) : ∃ es n, K.lookup a = some ⟨.type "dict", none, .dict es n, #[]⟩ ∧ es.all (keyIn L) = true := by
  unfold intTab at h
  cases e : K.lookup a with
  | none => rw [e] at h; cases h
  | some o =>
    rw [e] at h
    obtain ⟨c, d, dt, sl⟩ := o
    dsimp only at h
    simp only [Bool.and_eq_true, decide_eq_true_eq, Option.isNone_iff_eq_none] at h
    obtain ⟨⟨⟨h1, h2⟩, h3⟩, h4⟩ := h
    subst h1 h2
    have h3' : sl = #[] := by simpa using h3
    subst h3'
    cases dt with
    | dict es n => exact ⟨es, n, rfl, h4⟩
    | _ => cases h4
theorem keyIn_spec {L : List Nat} {e : DictEntry} (h : keyIn L e = true) : ∃ (k : Nat) (t : Tok), k ∈ L ∧ e.key = .int k t ∧ e.hash = hashInt k := by
  unfold keyIn at h
  split at h
  · rename_i i t e1
    rw [Bool.and_eq_true, List.any_eq_true] at h
    obtain ⟨⟨k, hk, hi⟩, hh⟩ := h
    have := eq_of_beq hi
    subst this
    exact ⟨k, t, hk, e1, eq_of_beq hh⟩
  · cases h
theorem intTab_map {prog : Program} {w : World} {K : Frag} {a : Addr} {L : List Nat} {h : Heap} (X : K.In h) (hT : intTab K a L = true) : h.MapOf (intKind prog w) a (intAt K a) := by
  obtain ⟨es, n, e, hes⟩ := intTab_spec hT
  refine ⟨_, es, n, X _ _ e, ⟨rfl, rfl, rfl⟩, rfl, fun x hx => ?_, fun k => ?_⟩
  · obtain ⟨k, t, _, h1, h2⟩ := keyIn_spec (Array.all_eq_true'.mp hes x hx)
    exact ⟨k, by rw [h1]; exact intKind_is prog w _ _, h2⟩
  · unfold intAt; rw [e]; rfl
theorem intAt_none {K : Frag} {a : Addr} {L : List Nat} {c : Nat} (hT : intTab K a L = true) (hc : c ∉ L) : intAt K a c = none := by
  obtain ⟨es, n, e, hes⟩ := intTab_spec hT
  unfold intAt
  rw [e]
  show findBy Value.isInt es (c : Int) = none
  unfold findBy
  rw [Option.map_eq_none_iff, Array.find?_eq_none]
  intro x hx hq
  obtain ⟨k, t, hk, h1, _⟩ := keyIn_spec (Array.all_eq_true'.mp hes x hx)
  rw [h1] at hq
  have : (k : Int) = c := by simpa [Value.isInt] using hq
  have : k = c := by omega
  subst this
  exact hc hk
theorem gm_translate {M : Model} {A : Around} {E : Value → Shared → Prop} {s : Shared} {x : Str} {t : Tok} {pl : Sem Bool} {Q : Value × List Value → Shared → Prop} (h : Q (.builtin "str.translate", [.str x t]) s) : wpAny M A (getMethod (.str x t) (Str.ofString "translate") pl) Q E s :=
  PySem.GM.of (.str x t) (typeIs_str _ _ _) F.slot_str_translate F.type_str_translate PySem.GM.noRef h

end
section
/-! ## res.append as a value -/
def bnd (l : Addr) : Obj := { cls := .type "builtin_function_or_method", data := .fields #[.builtin "list.append", .ref l] }
theorem slot_md_get : Slot "method_descriptor" "__get__" "method_descriptor.__get__" :=
  .of (owner := "method_descriptor") (n := "__get__") (by rw [typeLookup_type, builtinLookup_eq_fast]; kernel_rfl) (by decide +kernel) (by decide +kernel) (by decide +kernel)
    (by first | exact .inl (by decide +kernel) | exact .inr (by decide +kernel)) (by rw [isSubtype_type]; kernel_rfl)
theorem entry_md_get : entryFor table "method_descriptor.__get__" = some Builtin.«method_descriptor.__get__» := entryFor_of_tree (by kernel_rfl)
theorem args_md_get (a b c : Value) : argsOk "method_descriptor.__get__" ⟨[a, b, c], []⟩ := by unfold argsOk; kernel_rfl
theorem md_set_none : typeLookup (.type "method_descriptor") "__set__" = pure none := by rw [typeLookup_type, builtinLookup_eq_fast]; kernel_rfl
theorem md_del_none : typeLookup (.type "method_descriptor") "__delete__" = pure none := by rw [typeLookup_type, builtinLookup_eq_fast]; kernel_rfl
theorem sub_list_list : isSubtype (.type "list") (.type "list") = pure true := by rw [isSubtype_type]; kernel_rfl
theorem isType_list : isType (.type "list") = pure true := by first | rfl | kernel_rfl | (unfold isType; rw [isSubtype_type]; kernel_rfl)
section
variable {prog : Program} {w : World} {A : Around} {E : Value → Shared → Prop} {s : Shared} {l : Addr}
theorem run_md_get {vs : List Value} {n : Nat} {P : Fin → Shared → Prop} (hx : s.heap.get? l = some (Lo vs n)) (h : P (.done (.ret (.ref s.heap.objs.size))) { s with heap := s.heap.push (bnd l) }) :
    wpAny (model prog w) A (Builtin.«method_descriptor.__get__» ⟨[.builtin "list.append", .ref l, .type "list"], []⟩) P E s := by
  unfold Builtin.«method_descriptor.__get__»
  refine wpAny_bind (wpAny_of_eq (a := (.builtin "list.append", some (.ref l), some (.type "list"))) (by first | rfl | kernel_rfl) ?_)
  dsimp only
  refine wp_if_f (by decide +kernel) ?_
  refine wpAny_bind ?_
  refine wpAny_bind (wpAny_of_eq (a := (Str.ofString "append", .type "list")) (by first | rfl | kernel_rfl) ?_)
  refine wpAny_bind (wpAny_isInstance (T := "list") (b := true) ⟨_, hx, rfl⟩ sub_list_list ?_)
  refine wp_if_f rfl (wpAny_pure ?_)
  exact wpAny_bind (wpAny_newObj_type (wpAny_pure h))
theorem run_ga {vs : List Value} {n : Nat} {u : Tok} {P : Fin → Shared → Prop} (hx : s.heap.get? l = some (Lo vs n)) (h : P (.done (.ret (.ref s.heap.objs.size))) { s with heap := s.heap.push (bnd l) }) :
    wpAny (model prog w) A (Builtin.«object.__getattribute__» ⟨[.ref l, .str (Str.ofString "append") u], []⟩) P E s := by
  obtain ⟨hp, g, d, tk, os⟩ := s
  have hT : (⟨hp, g, d, tk, os⟩ : Shared).TypeIs (.ref l) "list" := ⟨_, hx, rfl⟩
  have f1 := slot_list_append.lookup
  have f2 := type_list_append
  have f3 := slot_md_get.lookup
  have f4 := md_set_none
  have f5 := md_del_none
  unfold Builtin.«object.__getattribute__»
  repeat (any_goals (first | assumption | wp_step))
  refine codeAny_call_builtin slot_md_get.plain entry_md_get (slot_md_get.check _ _ _ _ _ _ _ _ f2 (args_md_get _ _ _) (run_md_get hx ?_))
  dsimp only
  repeat (any_goals (first | assumption | wp_step))
theorem getAttr_append {vs : List Value} {n : Nat} {Q : Value → Shared → Prop} (hx : s.heap.get? l = some (Lo vs n)) (h : Q (.ref s.heap.objs.size) { s with heap := s.heap.push (bnd l), toks := s.toks + 1 }) :
    wpAny (model prog w) A (getAttr (.ref l) (Str.ofString "append") true) Q E s := by
  obtain ⟨hp, g, d, tk, os⟩ := s
  have hT : ∀ tk', (⟨hp, g, d, tk', os⟩ : Shared).TypeIs (.ref l) "list" := fun _ => ⟨_, hx, rfl⟩
  have f3 := F.slot_list_getattribute.lookup
  have f4 := F.slot_list_getattribute.bind (.ref l)
  unfold getAttr getAttrBy
  repeat (any_goals (first | assumption | exact hT _ | wp_step))
  refine codeAny_call_builtin F.slot_list_getattribute.plain am_entry_list_getattribute (F.slot_list_getattribute.check _ _ _ _ _ _ _ _ (hT _) (F.args_list_getattribute_2 _ _) (run_ga hx ?_))
  dsimp only
  repeat (any_goals (first | assumption | wp_step))
def BndAt (l x : Addr) (s : Shared) : Prop := s.heap.get? x = some (bnd l)
theorem sig_append (l : Addr) (v : Value) : (Manifest.signature? "list.append").elim (pure () : Sem Unit) (fun sig => Bind.checkArgs "list.append" { sig with full := s!"{Bind.lastOf "list"}.{Bind.lastOf "list.append"}" } ⟨[.ref l, v], []⟩) = pure () := by kernel_rfl
theorem kind_append : builtinKind "list.append" = some .method := by decide +kernel
theorem vm_append : Manifest.varargsMethods.contains "list.append" = false := by decide +kernel
theorem sub_list_module : isSubtype (.type "list") (.type "module") = pure false := by rw [isSubtype_type]; kernel_rfl
theorem check_append {v : Value} {vs : List Value} {n : Nat} {Q : Unit → Shared → Prop} (hx : s.heap.get? l = some (Lo vs n)) (h : Q () s) : wpAny (model prog w) A (checkBoundCall "list.append" ⟨[.ref l, v], []⟩) Q E s := by
  have hs := sig_append l v
  unfold checkBoundCall
  cases e : Manifest.signature? "list.append" with
  | none => exact wpAny_pure h
  | some sig =>
    rw [e] at hs
    rw [kind_append, vm_append]
    dsimp only
    refine wp_if_f rfl ?_
    refine wpAny_bind (wpAny_isInstance (T := "list") (b := false) ⟨_, hx, rfl⟩ sub_list_module ?_)
    refine wp_if_f rfl ?_
    have hT : s.TypeIs (.ref l) "list" := ⟨_, hx, rfl⟩
    unfold isType
    refine wpAny_bind (wpAny_bind (wpAny_load hx (wpAny_pure ?_)))
    dsimp only
    refine wp_if_f rfl ?_
    exact wpAny_bind (wpAny_typeOf hT (wpAny_of_eq hs h))
theorem quiet_append {as : Args} : (Code.builtin "list.append" as).quiet = true := Code.quiet_builtin _ (by decide +kernel)
theorem call_bnd {x : Addr} {v : Value} {vs : List Value} {n : Nat} {Q : Value → Shared → Prop} (ho : s.heap.get? x = some (bnd l)) (hx : s.heap.get? l = some (Lo vs n)) (hsz : vs.length ≤ 16777216)
    (h : ∀ h', Heap.SameBut l s.heap h' → h'.get? l = some (Lo (vs ++ [v]) (n + 1)) → Q .none { s with heap := h' }) : wpAny (model prog w) A (call (.ref x) [v]) Q E s := by
  refine wpAny_call (codeAny_of_tree ?_)
  show wpAny _ A.in1 (callAny (.ref x) ⟨[v], []⟩) _ _ s
  simp only [callAny]
  refine wpAny_bind (wpAny_load ho ?_)
  simp only [bnd, show (Value.type "builtin_function_or_method" == Value.type "method" || Value.type "builtin_function_or_method" == Value.type "builtin_function_or_method" || Value.type "builtin_function_or_method" == Value.type "method-wrapper") = true by decide, if_true]
  show wpAny _ _ (if (Value.type "builtin_function_or_method" != Value.type "method") = true then (do checkBoundCall "list.append" ⟨[.ref l, v], []⟩; again (.builtin "list.append" ⟨[.ref l, v], []⟩)) else _) _ _ _
  refine wp_if_t (by decide) (wpAny_bind (check_append hx ?_))
  refine wpAny_pure ⟨quiet_append, codeAny_builtin entry_list_append ?_⟩
  show wpAny _ _ (updateSeq l (·.push v) >>= fun _ => ret .none) _ _ s
  refine wpAny_bind (wpAny_updateSeq hx rfl ?_ (by rw [List.size_toArray, sizeLine_eq]; exact hsz) (by rw [Array.size_push, List.size_toArray, sizeLine_eq]; omega))
  refine wpAny_pure (h _ (Heap.SameBut.update ..) ?_)
  rw [Heap.get?_update_self _ hx (by rw [mapSeq_push]; rfl), mapSeq_push, List.push_toArray]
end
section
variable {B : Shared} {g : Heap} {env : Env} {vals vals' : Vals} {s : Shared} {news news' : News'} {A : Around} {E : Value → Shared → Prop} {prog : Program} {w : World} {l x : Addr} {vs : List Value} {n : Nat}
theorem r_add {v : Value} {Q : Value → Shared → Prop} (D : St B g env vals s news) (hx : (x, bnd l) ∈ news) (U : UpdP l (Lo vs n) (Lo (vs ++ [v]) (n + 1)) news news') (hsz : vs.length ≤ 16777216) (k : ∀ s', St B g env vals s' news' → Q .none s') :
    wpAny (model prog w) A (call (.ref x) [v]) Q E s :=
  call_bnd (D.get hx) (D.get U.keys.2) hsz fun h' hs ho => k _ (D.upd U hs ho (Nat.le_refl _))
theorem r_attr_append {Q : Value → Shared → Prop} (D : St B g env vals s news) (hx : s.heap.get? l = some (Lo vs n)) (k : ∀ x s', B.heap.objs.size ≤ x → St B g env vals s' ((x, bnd l) :: news) → Q (.ref x) s') :
    wpAny (model prog w) A (getAttr (.ref l) (Str.ofString "append") true) Q E s :=
  getAttr_append hx (k _ _ D.up.2 ((D.made (bnd l)).tk1 (n := 1)))
/-- add(..) where add is the list's bound append -/
theorem r_callBnd {pos : Pos} {e : Expr} {rest : List Expr} {Q : Value → Shared → Prop} (D : St B g env vals s news) (hx : (x, bnd l) ∈ news)
    (h : wpAny M A (spliced (backTo pos (starEach (e :: rest) env))) (fun vs s₁ => s₁.heap.get? x = some (bnd l) ∧ wpAny M A (call (.ref x) vs) Q E s₁) E s)
    (he : starEach (e :: rest) env = (false, eval e env) :: starEach rest env := by rfl) (hplain : (backTo pos (starEach rest env)).any (·.1) = false := by rfl) :
    wpAny M A (callWith pos (.ref x) [] (backTo pos (starEach (e :: rest) env)) []) Q E s := by
  rw [he] at h ⊢
  have h2 : wpAny M A (evalArgs (.ref x) true (backTo pos ((false, eval e env) :: starEach rest env)) []) (fun a s₁ => s₁.heap.get? x = some (bnd l) ∧ wpAny M A (call (.ref x) ([] ++ a.pos) a.kw) Q E s₁) E s := evalArgs_plain h
  have hp : (backTo pos ((false, eval e env) :: starEach rest env)).any (·.1) = false := by show (false || (backTo pos (starEach rest env)).any (·.1)) = false; rw [hplain]; rfl
  unfold callWith
  refine wpAny_bind (wpAny_holding (wpAny_mono h2 (fun a s₁ h₁ => wpAny_bind (wpAny_standAt ?_)) fun _ _ x => x))
  obtain ⟨ho, hcall⟩ := h₁
  simp only [hp, List.any_nil, Bool.or_false]
  refine wpAny_bind (m := keeperOf (.ref x)) ?_
  unfold keeperOf
  refine wpAny_bind (wpAny_load ho ?_)
  simp only [bnd, show (Value.type "builtin_function_or_method" != Value.type "method") = true by decide, show (Value.type "builtin_function_or_method" == Value.type "builtin_function_or_method" || Value.type "builtin_function_or_method" == Value.type "method-wrapper") = true by decide, if_true]
  refine wpAny_pure ?_
  exact wpAny_bind (wpAny_mono hcall (fun r s₂ hr => wpAny_bind (wpAny_holding (wpAny_point (wpAny_pure hr)))) fun _ _ x => x)
end

end
section
section
variable {B : Shared} {g : Heap} {env : Env} {vals vals' : Vals} {s : Shared} {news news' : News'} {A : Around} {E : Value → Shared → Prop} {prog : Program} {w : World} {l x : Addr} {vs : List Value} {n : Nat} {M : Model}
theorem St.extBut (D : St B g env vals s news) {h' : Heap} (he : Heap.ExtBut s.heap.objs.size s.heap h') (hz : s.heap.objs.size ≤ h'.objs.size) : St B g env vals { s with heap := h' } news :=
  D.ext ⟨fun b o e => he b o (Nat.ne_of_lt (Heap.lt_size e)) e, ⟨rfl, rfl, rfl⟩, ⟨Nat.le_refl _, hz⟩⟩
/-! ## two names at once -/
def Tup2 (prog : Program) (w : World) (A : Around) (env : Env) (x y : Str) (Q : Flow → Shared → Prop) (E : Value → Shared → Prop) (sw : Bool) (v : Value) (s₁ : Shared) : Prop :=
  ∃ B g vals news t a b, v = .ref t ∧ St B g env vals s₁ news ∧ s₁.heap.get? t = some (tupObj [a, b]) ∧ ∀ s', St B g env vals s' news →
    if sw = true then wpAny (model prog w) A (storeName env y b) (fun _ s'' => wpAny (model prog w) A (storeName env x a) (fun _ => Q .next) E s'') E s'
    else wpAny (model prog w) A (storeName env x a) (fun _ s'' => wpAny (model prog w) A (storeName env y b) (fun _ => Q .next) E s'') E s'
theorem Tup2.mk1 {x y : Str} {Q : Flow → Shared → Prop} {t : Addr} {a b : Value} (D : St B g env vals s ((t, tupObj [a, b]) :: news))
    (k : ∀ s', St B g env vals s' news → wpAny (model prog w) A (storeName env y b) (fun _ s'' => wpAny (model prog w) A (storeName env x a) (fun _ => Q .next) E s'') E s') : Tup2 prog w A env x y Q E true (.ref t) s :=
  ⟨_, _, _, _, _, _, _, rfl, D, D.get List.mem_cons_self, fun s' D' => k s' (D'.drop (List.sublist_cons_self _ _))⟩
theorem Tup2.mk2 {x y : Str} {Q : Flow → Shared → Prop} {t : Addr} {a b : Value} (D : St B g env vals s ((t, tupObj [a, b]) :: news))
    (k : ∀ s', St B g env vals s' news → wpAny (model prog w) A (storeName env x a) (fun _ s'' => wpAny (model prog w) A (storeName env y b) (fun _ => Q .next) E s'') E s') : Tup2 prog w A env x y Q E false (.ref t) s :=
  ⟨_, _, _, _, _, _, _, rfl, D, D.get List.mem_cons_self, fun s' D' => k s' (D'.drop (List.sublist_cons_self _ _))⟩
theorem r_pairS {x y : Str} {px py : Pos} {k : Nat} {tpos pos : Pos} {value : Expr} {Q : Flow → Shared → Prop} (hA : A.handled = none)
    (h : wpAny (model prog w) A (eval value env) (fun v s₁ => Tup2 prog w A env x y Q E true v s₁) E s)
    (hs : swapsWithSole [.Tuple [.Name x px, .Name y py] k tpos] value pos.line env = pure false)
    (hw : swappedStores [.Tuple [.Name x px, .Name y py] k tpos] value env = pure (some [x, y])) :
    wpAny (model prog w) A (exec (.Assign [.Tuple [.Name x px, .Name y py] k tpos] value pos) env) Q E s := by
  refine Assign_Tuple_swapped (wpAny_mono h (fun v s₁ h₁ => ?_) fun _ _ x => x) hs hw
  obtain ⟨B, g, vals, news, t, a, b, rfl, D, ht, kk⟩ := h₁
  refine up (unpackItems_tuple (items := #[a, b]) hA ⟨_, ht, rfl, _, rfl⟩ fun h' he u => ?_)
  exact assignInOrder_cons (bindName_ (wpAny_mono (kk _ (D.extBut he u.2)) (fun _ s'' h'' => assignInOrder_cons (bindName_ (wpAny_mono h'' (fun _ s3 h3 => assignInOrder_nil h3) fun _ _ x => x))) fun _ _ x => x))
theorem r_pairN {x y : Str} {px py : Pos} {k : Nat} {tpos pos : Pos} {value : Expr} {Q : Flow → Shared → Prop} (hA : A.handled = none)
    (h : wpAny (model prog w) A (eval value env) (fun v s₁ => Tup2 prog w A env x y Q E false v s₁) E s)
    (hs : swapsWithSole [.Tuple [.Name x px, .Name y py] k tpos] value pos.line env = pure false)
    (hw : swappedStores [.Tuple [.Name x px, .Name y py] k tpos] value env = pure none) :
    wpAny (model prog w) A (exec (.Assign [.Tuple [.Name x px, .Name y py] k tpos] value pos) env) Q E s := by
  refine Assign_Tuple (wpAny_mono h (fun v s₁ h₁ => ?_) fun _ _ x => x) hs hw
  obtain ⟨B, g, vals, news, t, a, b, rfl, D, ht, kk⟩ := h₁
  rw [assign_Tuple]
  refine wpAny_bind (wpAny_standAt ?_)
  unfold unpack
  refine wpAny_bind (wpAny_holding (up (unpackItems_tuple (items := #[a, b]) hA ⟨_, ht, rfl, _, rfl⟩ fun h' he u => ?_)))
  exact assignInOrder_cons (assign_Name (wpAny_mono (kk _ (D.extBut he u.2)) (fun _ s'' h'' => assignInOrder_cons (assign_Name (wpAny_mono h'' (fun _ s3 h3 => assignInOrder_nil h3) fun _ _ x => x))) fun _ _ x => x))

/-! ## ''.join -/
theorem join_flat : ∀ ls : List (List Nat), Str.join (T []) (ls.map T) = T ls.flatten
  | [] => rfl
  | [a] => by rw [List.flatten_cons, List.flatten_nil, List.append_nil]; rfl
  | a :: b :: r => by
    show T a ++ T [] ++ Str.join (T []) ((b :: r).map T) = _
    rw [join_flat (b :: r), T_app, T_app, List.append_nil]
    rfl
theorem sum_flat (ls : List (List Nat)) : ((ls.map T).map (·.length)).sum = ls.flatten.length := by
  induction ls with
  | nil => rfl
  | cons a r ih => rw [List.map_cons, List.map_cons, List.sum_cons, ih, List.flatten_cons, List.length_append, T_len]
theorem q_join0 {ls : List (List Nat)} {t : Tok} {Q : Value → Shared → Prop} (D : St B g env vals s news) (hm : s.heap.get? l = some (Lo vs n)) (hT : Txts vs ls) (hsz : ls.flatten.length ≤ 1000000) (k : ∀ t s', St B g env vals s' news → Q (.str (T ls.flatten) t) s') :
    wpAny (model prog w) A (call (.builtin "str.join") [.str (T []) t, .ref l]) Q E s :=
  up (join_list (D.lst hm) hT.strs (by rw [sum_flat]; show _ + _ * 0 ≤ _; omega) fun t' tk u => by
    have e : Txt.join (T []) (ls.map T) = T ls.flatten := (StrLaws.glued_eq_join _ _).trans (join_flat ls)
    rw [e]; exact k _ _ (D.tk u))

/-! ## f-strings -/
theorem q_fmt {y : List Nat} {t : Tok} {Q : Value → Shared → Prop} (D : St B g env vals s news) (hsz : y.length ≤ 16777216) (k : ∀ t s', St B g env vals s' news → Q (.str (T y) t) s') : wpAny M A (formatField (.str (T y) t) Str.empty) Q E s :=
  up (formatField_str (fun t' tk u => k _ _ (D.tk u)) (by rw [T_len, sizeLine_eq]; exact hsz))
theorem r_joined {v₁ v₂ : Expr} {rest : List Expr} {pos : Pos} {Q : Value → Shared → Prop} (h : wpAny M A (joinParts (T []) (evalEach (v₁ :: v₂ :: rest) env)) Q E s) : wpAny M A (eval (.JoinedStr (v₁ :: v₂ :: rest) pos) env) Q E s := JoinedStr_many h
theorem r_jcons {out : Str} {v : Expr} {rest : List Expr} {Q : Value → Shared → Prop}
    (h : wpAny M A (eval v env) (fun v s₁ => match v with | .str y _ => (out ++ y).length ≤ sizeLine ∧ wpAny M A (joinParts (out ++ y) (evalEach rest env)) Q E s₁ | _ => False) E s) : wpAny M A (joinParts out (evalEach (v :: rest) env)) Q E s := joinParts_cons h
theorem r_jpair {a b : List Nat} {r : List (Sem Value)} {Q : Value → Shared → Prop} (hz : a.length + b.length ≤ 16777216) (h : wpAny M A (joinParts (T (a ++ b)) r) Q E s) :
    (T a ++ T b).length ≤ sizeLine ∧ wpAny M A (joinParts (T a ++ T b) r) Q E s := by rw [T_app, T_len, List.length_append, sizeLine_eq]; exact ⟨hz, h⟩
theorem r_jnil {a : List Nat} {Q : Value → Shared → Prop} (D : St B g env vals s news) (hz : a.length ≤ 16777216) (k : ∀ t s', St B g env vals s' news → Q (.str (T a) t) s') : wpAny M A (joinParts (T a) (evalEach [] env)) Q E s :=
  joinParts_nil (k _ _ D.tk1) (by rw [T_len, sizeLine_eq]; exact hz)
theorem r_bndMid {P : Prop} (D : St B g env vals s news) (hx : (x, bnd l) ∈ news) (h : P) : s.heap.get? x = some (bnd l) ∧ P := ⟨D.get hx, h⟩
theorem isnot_str_ref {y : Str} {t : Tok} {a : Addr} {Q : Value → Shared → Prop} (h : Q (.bool true) s) : wpAny M A (compareOp .IsNot (.str y t) (.ref a)) Q E s := wpAny_isNot_other rfl (by intro e; cases e) h
theorem is_str_ref {y : Str} {t : Tok} {a : Addr} {Q : Value → Shared → Prop} (h : Q (.bool false) s) : wpAny M A (compareOp .Is (.str y t) (.ref a)) Q E s := wpAny_is_other rfl (by intro e; cases e) h
end
theorem swapped2 {B : Shared} {g : Heap} {env : Env} {vals v1 v2 : Vals} {s : Shared} {news : News'} {x y : Str} {px py : Pos} {k k' : Nat} {tp vp : Pos} {a b : Expr} {va vb : Value} (D : St B g env vals s news) (hx : Put x va vals v1) (hy : Put y vb vals v2)
    (hc : (decide (px.line = py.line) && !(x == y) && !([a, b].any fun | .Starred .. => true | _ => false) && !([a, b].all (foldedForSure 8)) && !([a, b].all (constantsAlone 8))) = true) :
    swappedStores [.Tuple [.Name x px, .Name y py] k tp] (.Tuple [a, b] k' vp) env = pure (some [x, y]) := by
  have kx : env.kindOf x = some .local := by
    obtain ⟨p, hp, e⟩ := List.mem_map.mp hx.keys.2
    exact e ▸ (D.loc p hp).1
  have ky : env.kindOf y = some .local := by
    obtain ⟨p, hp, e⟩ := List.mem_map.mp hy.keys.2
    exact e ▸ (D.loc p hp).1
  simp only [Bool.and_eq_true, decide_eq_true_eq, Bool.not_eq_true'] at hc
  obtain ⟨⟨⟨⟨h1, h2⟩, h3⟩, h4⟩, h5⟩ := hc
  have hk : env.blockKind = .function := by unfold Env.blockKind; rw [D.kind]; rfl
  have h2' : (y == x) = false := by rw [Bool.eq_false_iff] at h2 ⊢; intro e; exact h2 (by rw [eq_of_beq e]; exact beq_self_eq_true x)
  unfold swappedStores
  dsimp only
  rw [hk]
  simp only [h4, h5]
  refine Eq.trans (if_neg (fun e => nomatch (show (false : Bool) = true from e))) ?_
  refine Eq.trans (if_neg (by intro e; exact absurd (h3.symm.trans e) (by decide))) ?_
  simp [List.filterMap_cons, Expr.pos, kx, ky, h1, h2', List.eraseDups_cons]
/-! ## the parts of translate: texts and the star object -/
inductive Parts (S : Addr) : List Value → List (Option (List Nat)) → Prop
  | nil : Parts S [] []
  | star {vs ls} : Parts S vs ls → Parts S (.ref S :: vs) (none :: ls)
  | text {l : List Nat} {t : Tok} {vs ls} : Parts S vs ls → Parts S (.str (T l) t :: vs) (some l :: ls)
theorem Parts.len {S vs ls} (h : Parts S vs ls) : vs.length = ls.length := by induction h <;> simp [*]
theorem Parts.get {S vs ls} (h : Parts S vs ls) : ∀ {i : Nat}, (ls[i]? = some none → vs[i]? = some (.ref S)) ∧ ∀ l, ls[i]? = some (some l) → ∃ t, vs[i]? = some (.str (T l) t) := by
  induction h with
  | nil => intro i; exact ⟨fun e => by simp at e, fun l e => by simp at e⟩
  | star h ih =>
    intro i
    cases i with
    | zero => exact ⟨fun _ => rfl, fun l e => by simp at e⟩
    | succ i => simpa using ih (i := i)
  | @text l₀ t₀ vs ls h ih =>
    intro i
    cases i with
    | zero => exact ⟨fun e => by simp at e, fun l e => by simp at e; subst e; exact ⟨t₀, rfl⟩⟩
    | succ i => simpa using ih (i := i)
theorem Parts.snocT {S vs ls} {l : List Nat} {t : Tok} (h : Parts S vs ls) : Parts S (vs ++ [.str (T l) t]) (ls ++ [some l]) := by
  induction h with
  | nil => exact .text .nil
  | star _ ih => exact .star ih
  | text _ ih => exact .text ih
theorem Parts.snocS {S vs ls} (h : Parts S vs ls) : Parts S (vs ++ [.ref S]) (ls ++ [none]) := by
  induction h with
  | nil => exact .star .nil
  | star _ ih => exact .star ih
  | text _ ih => exact .text ih
def tailParts : List (List (List Nat)) → List (Option (List Nat))
  | [] => []
  | q :: r => none :: (q.map some ++ tailParts r)
def tT : List (List (List Nat)) → List Nat
  | [] => []
  | [q] => [46, 42] ++ q.flatten
  | m :: r => [40, 63, 62, 46, 42, 63] ++ (m.flatten ++ ([41] ++ tT r))
theorem gdrop_more {α : Type} {l b : List α} {x : α} {i : Nat} (h : l.drop i = x :: b) : l.drop (i + 1) = b := by rw [← List.drop_drop, h]; rfl
theorem gdrop_at {α : Type} {l b : List α} {x : α} {i : Nat} (h : l.drop i = x :: b) : l[i]? = some x := by
  have := List.getElem?_drop (xs := l) (i := i) (j := 0); rw [h] at this; simpa using this.symm
theorem gdrop_len {α : Type} {l b : List α} {i : Nat} (h : l.drop i = b) (hi : i ≤ l.length) : l.length = i + b.length := by
  have := congrArg List.length h; rw [List.length_drop] at this; omega
theorem gdrop_app {α : Type} {l a b : List α} {i : Nat} (h : l.drop i = a ++ b) : l.drop (i + a.length) = b := by
  rw [← List.drop_drop, h, List.drop_left]
theorem gdrop_mid {α : Type} {l a b : List α} {i j : Nat} (h : l.drop i = a ++ b) (hj : j < a.length) : l[i + j]? = some a[j] := by
  have := List.getElem?_drop (xs := l) (i := i) (j := j); rw [h, List.getElem?_append_left hj, List.getElem?_eq_getElem hj] at this; exact this.symm

end
section
/-! ## the twin pattern's sub on one sign -/
def quietRun {α : Type} : Sem α → Option α
  | .pure a => some a
  | .rule _ k => quietRun (k ())
  | _ => none
theorem quiet_wp {α : Type} {M : Model} {A : Around} {E : Value → Shared → Prop} {t : Sem α} : ∀ {s : Shared} {a : α} {Q : α → Shared → Prop}, quietRun t = some a → Q a s → wpAny M A t Q E s := by
  induction t with
  | pure b => intro s a Q h k; cases h; exact wpAny_pure k
  | rule tag k ih => intro s a Q h q; exact fun Γ p hΓ => ih () h q Γ p hΓ
  | _ => intro s a Q h q; cases h
def twinCode : Array Nat := #[14, 14, 4, 1, 1, 9, 0, 64, 0, 1342177280, 0, 0, 0, 0, 0, 17, 0, 13, 11, 9, 0, 64, 0, 1342177280, 0, 0, 0, 0, 0, 17, 1, 1]
theorem twin42 : quietRun (Builtin.Re.reRunToEnd (Sre.forSearch twinCode #[42] 1 0 1 false)) = some none := by kernel_rfl
theorem twin63 : quietRun (Builtin.Re.reRunToEnd (Sre.forSearch twinCode #[63] 1 0 1 false)) = some none := by kernel_rfl
theorem twin91 : quietRun (Builtin.Re.reRunToEnd (Sre.forSearch twinCode #[91] 1 0 1 false)) = some none := by kernel_rfl
theorem plainAttrs_pat : PlainAttrs "re.Pattern" :=
  ⟨⟨"object.__getattribute__", by rw [typeLookup_type, builtinLookup_eq_fast]; kernel_rfl, by decide +kernel⟩, by rw [typeLookup_type, builtinLookup_eq_fast]; kernel_rfl⟩
theorem slot_sub : Slot "re.Pattern" "sub" "re.Pattern.sub" :=
  .of (owner := "re.Pattern") (n := "sub") (by rw [typeLookup_type, builtinLookup_eq_fast]; kernel_rfl) (by decide +kernel) (by decide +kernel) (by decide +kernel)
    (by first | exact .inl (by decide +kernel) | exact .inr (by decide +kernel)) (by rw [isSubtype_type]; kernel_rfl)
theorem type_sub : typeOf (.builtin "re.Pattern.sub") = pure (.type "method_descriptor") := by show builtinType _ = _; rw [builtinType_eq_fast]; kernel_rfl
theorem entry_sub : entryFor table "re.Pattern.sub" = some Builtin.«re.Pattern.sub» := entryFor_of_tree (by kernel_rfl)
theorem entry_sub_loop : entryFor table "re.Pattern.sub.loop" = some Builtin.«re.Pattern.sub.loop» := entryFor_of_tree (by kernel_rfl)
theorem args_sub (a b c : Value) : argsOk "re.Pattern.sub" ⟨[a, b, c], []⟩ := by unfold argsOk; kernel_rfl
theorem quiet_sub_loop {as : Args} : (Code.builtin "re.Pattern.sub.loop" as).quiet = true := Code.quiet_builtin _ (by decide +kernel)
theorem plain_sub_loop : plainId "re.Pattern.sub.loop" = true := by decide +kernel

/-- the twin pattern and its code stand in the fragment -/
def patOk (K : Frag) (a b : Addr) : Bool := (match K.lookup a with
    | some o => decide (o.cls = .type "re.Pattern") && o.dict.isNone && (match o.data with
      | .fields vs => Builtin.Re.reRawNat (vs.getD 6 .none) == 0 && Builtin.Re.reRawNat (vs.getD 2 .none) == 1 && decide (vs.getD 5 .none = .ref b)
      | _ => false)
    | none => false) && (match K.lookup b with
    | some o => (match o.data with
      | .seq xs _ => decide (((xs.map Builtin.Re.reRawOf).map (·.toNat)) = twinCode)
      | _ => false)
    | none => false)
structure PatAt (h : Heap) (a : Addr) : Prop where
  ex : ∃ o vs b o2 xs n, h.get? a = some o ∧ o.cls = .type "re.Pattern" ∧ o.dict = none ∧ o.data = .fields vs ∧ Builtin.Re.reRawNat (vs.getD 6 .none) = 0 ∧ Builtin.Re.reRawNat (vs.getD 2 .none) = 1 ∧ vs.getD 5 .none = .ref b ∧
    h.get? b = some o2 ∧ o2.data = .seq xs n ∧ (xs.map Builtin.Re.reRawOf).map (·.toNat) = twinCode
theorem PatAt.keeps {h h' : Heap} {a : Addr} (P : PatAt h a) (k : ∀ b o, h.get? b = some o → h'.get? b = some o) : PatAt h' a := by
  obtain ⟨o, vs, b, o2, xs, n, h1, h2, h3, h4, h5, h6, h7, h8, h9, h10⟩ := P.ex
  exact ⟨⟨o, vs, b, o2, xs, n, k _ _ h1, h2, h3, h4, h5, h6, h7, k _ _ h8, h9, h10⟩⟩
theorem patOk_at {K : Frag} {a b : Addr} {h : Heap} (X : K.In h) (hp : patOk K a b = true) : PatAt h a := by
  unfold patOk at hp
  rw [Bool.and_eq_true] at hp
  obtain ⟨h1, h2⟩ := hp
  cases e : K.lookup a with
  | none => rw [e] at h1; cases h1
  | some o =>
    cases e2 : K.lookup b with
    | none => rw [e2] at h2; cases h2
    | some o2 =>
      rw [e] at h1
      rw [e2] at h2
      dsimp only at h1 h2
      simp only [Bool.and_eq_true, decide_eq_true_eq, Option.isNone_iff_eq_none] at h1
      obtain ⟨⟨h1, h3⟩, h4⟩ := h1
      split at h4
      · rename_i vs ev
        split at h2
        · rename_i xs n ex
          simp only [Bool.and_eq_true, decide_eq_true_eq, beq_iff_eq] at h4 h2
          exact ⟨⟨o, vs, b, o2, xs, n, X _ _ e, h1, h3, ev, h4.1.1, h4.1.2, h4.2, X _ _ e2, ex, h2⟩⟩
        · cases h2
      · cases h4
section
variable {prog : Program} {w : World} {A : Around} {E : Value → Shared → Prop} {s : Shared} {a : Addr}
theorem gm_sub {pl : Sem Bool} {Q : Value × List Value → Shared → Prop} (P : PatAt s.heap a) (h : Q (.builtin "re.Pattern.sub", [.ref a]) s) : wpAny (model prog w) A (getMethod (.ref a) (Str.ofString "sub") pl) Q E s := by
  obtain ⟨o, vs, b, o2, xs, n, h1, h2, h3, _⟩ := P.ex
  exact getMethod_builtin ⟨o, h1, h2⟩ plainAttrs_pat slot_sub type_sub (fun a' e => by cases e; exact ⟨o, h1, h3⟩) h
theorem whole_target {c : Nat} {t : Tok} {Q : Builtin.Re.ReTarget → Shared → Prop} (P : PatAt s.heap a)
    (h : Q { pattern := .ref a, string := .str (T [c]) t, code := twinCode, text := #[c], kind := 0, groups := 1, pos := 0, lim := 1 } s) : wpAny (model prog w) A (Builtin.Re.reWholeTarget (.ref a) (.str (T [c]) t)) Q E s := by
  obtain ⟨o, vs, b, o2, xs, n, h1, h2, h3, h4, h5, h6, h7, h8, h9, h10⟩ := P.ex
  unfold Builtin.Re.reWholeTarget
  refine wpAny_bind (wpAny_fieldsOf h1 h4 ?_)
  refine wpAny_bind (m := Builtin.Re.reTextOf _) (wpAny_of_eq (a := (#[c], 0)) rfl ?_)
  dsimp only
  rw [h5, h6, h7]
  refine wp_if_f rfl (wp_if_f rfl ?_)
  refine wpAny_bind (m := Builtin.Re.reNoCollectionInside _ 0) (wpAny_pure ?_)
  refine wpAny_bind (m := Builtin.Re.reRawItems _) (wpAny_bind (wpAny_seqItems h8 h9 (wpAny_pure ?_)))
  refine wpAny_pure ?_
  dsimp only [Option.getD_some]
  rw [h10]
  exact h
theorem fn_call : ∃ g, typeLookup (.type "function") "__call__" = pure (some (.builtin g)) := ⟨"function.__call__", by rw [typeLookup_type, builtinLookup_eq_fast]; kernel_rfl⟩
theorem sub_loop {c : Nat} {t : Tok} {fn : Value} {L : Addr} {P' : Fin → Shared → Prop} (P : PatAt s.heap a) (hL : s.heap.get? L = some (Lo [] 0)) (hr : quietRun (Builtin.Re.reRunToEnd (Sre.forSearch twinCode #[c] 1 0 1 false)) = some none)
    (h : ∀ t s', Rest s s' → (∀ b o, b ≠ L → s.heap.get? b = some o → s'.heap.get? b = some o) → Up s s' → P' (.done (.ret (.str (T [c]) t))) s') :
    wpAny (model prog w) A (Builtin.«re.Pattern.sub.loop» ⟨[.ref a, .str (T [c]) t, fn, rawInt 1, rawInt 0, rawInt 0, rawInt 0, rawInt 0, .bool false, .ref L, .bool false], []⟩) P' E s := by
  unfold Builtin.«re.Pattern.sub.loop»
  refine up ?_
  dsimp only [rawInt]
  refine wpAny_bind (whole_target P ?_)
  refine wp_if_f rfl ?_
  refine wpAny_bind (m := Builtin.Re.reNextFound _ 0 false) (quiet_wp hr ?_)
  dsimp only
  rw [if_pos (by decide)]
  have x1 : (⟨(#[c] : Array Nat).extract 0 1⟩ : Str) = T [c] := by simp [T]
  have x0 : (⟨(#[c] : Array Nat).extract 0 0⟩ : Str) = T [] := by simp [T]
  refine wpAny_bind (m := Builtin.Re.reSlice _ 0 _ 1) ?_
  show wpAny _ _ (mkStr ⟨(#[c] : Array Nat).extract 0 1⟩) _ _ _
  rw [x1]
  refine wpAny_mkStr ?_ (by rw [T_len, sizeLine_eq]; exact Nat.le_of_ble_eq_true rfl)
  refine wpAny_bind (wpAny_updateSeq hL rfl ?_ (by rw [sizeLine_eq]; decide) (by rw [Array.size_push, sizeLine_eq]; decide))
  have hL2 : (s.heap.update L (Obj.mapSeq (·.push (.str (T [c]) s.toks)))).get? L = some (Lo [.str (T [c]) s.toks] 1) := by
    rw [Heap.get?_update_self _ hL (by rw [mapSeq_push]; rfl), mapSeq_push]; rfl
  refine wpAny_bind (m := Builtin.Re.reSlice _ 0 0 0) ?_
  show wpAny _ _ (mkStr ⟨(#[c] : Array Nat).extract 0 0⟩) _ _ _
  rw [x0]
  refine wpAny_mkStr ?_ (by rw [T_len, sizeLine_eq]; exact Nat.le_of_ble_eq_true rfl)
  refine wpAny_bind (wpAny_seqItems hL2 rfl ?_)
  refine wp_if_f rfl ?_
  refine wpAny_bind (m := call (.builtin "str.join") _) ?_
  refine join_list (ys := [T [c]]) ⟨_, hL2, rfl, _, rfl⟩ (.cons _ _ .nil) (by simp [T_len]) fun t' tk => ?_
  refine wp_if_f rfl ?_
  refine wpAny_pure fun u => ?_
  have e : Txt.join (T []) [T [c]] = T [c] := (StrLaws.glued_eq_join _ _).trans rfl
  rw [e]
  exact h t' _ ⟨rfl, rfl, rfl⟩ (fun b o hb eo => ((Heap.SameBut.update ..).2 b hb).trans eo) u
theorem sub_one {c : Nat} {t : Tok} {fn : Addr} {fo : Obj} {Q : Value → Shared → Prop} (P : PatAt s.heap a) (hf : s.heap.get? fn = some fo) (hc : fo.cls = .type "function") (hr : quietRun (Builtin.Re.reRunToEnd (Sre.forSearch twinCode #[c] 1 0 1 false)) = some none)
    (h : ∀ t s', Ext s s' → Q (.str (T [c]) t) s') : wpAny (model prog w) A (call (.builtin "re.Pattern.sub") [.ref a, .ref fn, .str (T [c]) t]) Q E s := by
  obtain ⟨o, vs, b, o2, xs, n, h1, h2, h3, _⟩ := id P.ex
  obtain ⟨gc, hgc⟩ := fn_call
  refine up (wpAny_call (codeAny_call_builtin slot_sub.plain entry_sub (slot_sub.check _ _ _ _ _ _ _ _ (T := "re.Pattern") ⟨o, h1, h2⟩ (args_sub _ _ _) ?_)))
  unfold Builtin.«re.Pattern.sub» Builtin.Re.reSubstitute
  dsimp only
  refine wpAny_bind (wpAny_of_eq (a := [some (.ref fn), some (.str (T [c]) t), none]) (by first | rfl | kernel_rfl) ?_)
  dsimp only
  refine wpAny_bind (wpAny_pure ?_)
  refine wpAny_bind (wpAny_specialOf ⟨fo, hf, hc⟩ hgc ?_)
  refine wp_if_t rfl ?_
  refine wpAny_bind (wpAny_pure ?_)
  refine wp_if_t rfl ?_
  refine wpAny_bind (wpAny_pure ?_)
  dsimp only
  refine wpAny_bind (wpAny_holding (whole_target P ?_))
  refine wp_if_t rfl ?_
  refine wpAny_bind (m := Builtin.Re.reNotHeld _ _) ?_
  unfold Builtin.Re.reNotHeld
  refine wpAny_bind (wpAny_isInstance (T := "str") (b := false) (typeIs_str _ _ _) (by rw [isSubtype_type]; kernel_rfl) ?_)
  refine wp_if_f rfl ?_
  refine wpAny_pure ?_
  refine wpAny_bind (m := newList []) (wpAny_newObj_type (wpAny_pure ?_) (by show (#[] : Array Value).size ≤ sizeLine; rw [sizeLine_eq]; decide))
  refine ⟨quiet_sub_loop, codeAny_builtin entry_sub_loop ?_⟩
  have P2 : PatAt (s.heap.push { cls := .type "list", data := .seq ([] : List Value).toArray }) a := by
    obtain ⟨o, vs, b, o2, xs, n, h1, h2, h3, h4, h5, h6, h7, h8, h9, h10⟩ := P.ex
    exact ⟨⟨o, vs, b, o2, xs, n, Heap.get?_push_of_some _ h1, h2, h3, h4, h5, h6, h7, Heap.get?_push_of_some _ h8, h9, h10⟩⟩
  refine sub_loop (s := { s with heap := s.heap.push { cls := .type "list", data := .seq ([] : List Value).toArray } }) P2 (Heap.get?_push_size _ rfl) hr fun t' s' hr' hk u => ?_
  intro u2
  exact h t' s' ⟨fun b o e => hk b o (Nat.ne_of_lt (Heap.lt_size e)) (Heap.get?_push_of_some _ e), hr', u2⟩
end

end
section
/-! ## a lambda: its code is kept in the table of the def's code -/
/-- the table: empty, or the lambda's code alone -/
def Tab (pos : Pos) (ps : Array Value) : Prop := ps = #[] ∨ ∃ c', ps = #[rawInt pos.line, rawInt pos.col, .ref c']
section
variable {B : Shared} {g : Heap} {env : Env} {vals vals' : Vals} {s : Shared} {news : News'} {A : Around} {E : Value → Shared → Prop} {prog : Program} {w : World} {M : Model} {K : Frag}
theorem St.turnExt (D : St B g env vals s news) {a : Addr} {o o' : Obj} {news' : News'} {h' : Heap} {tk : Tok} (U : UpdP a o o' news news') (hs : Heap.ExtBut a s.heap h') (ho : h'.get? a = some o') (u : Up s ⟨h', s.gens, s.drawn, tk, s.os⟩) :
    St B g env vals ⟨h', s.gens, s.drawn, tk, s.os⟩ news' := by
  obtain ⟨m, L, e⟩ := D.led
  have z := L.nw _ U.keys.2
  refine D.to ⟨m, ⟨⟨L.fr.ns.at' fun o e => hs _ _ z.2.1.symm e, fun b o e => hs b o (fun q => by rw [q, z.2.2] at e; cases e) (L.fr.keep b o e), L.fr.above⟩, fun p hp => ?_, U.ord L.ord⟩, e⟩ rfl u
  rcases U.old L.ord p hp with rfl | ⟨hp, hne⟩
  · exact ⟨ho, z.2⟩
  · exact ⟨hs _ _ hne (L.nw p hp).1, (L.nw p hp).2⟩
def UpdAll (P : Addr) (ps : Array Value) (news : News') (f : Array Value → News') : Prop := ∀ ps', UpdP P (tabObj ps) (tabObj ps') news (f ps')
theorem r_lambda {c P : Addr} {params : Arguments} {body : Expr} {scope : Scope} {pos : Pos} {ps : Array Value} {f : Array Value → News'} {Q : Value → Shared → Prop} (S : Sta K g) (D : St B g env vals s news) (hg0 : env.globals = mainGlobals) (hcd : env.code = .ref c) (hk : codeHdIn K c P = true)
    (hT : Tab pos ps) (U : UpdAll P ps news f) (hdef : defaultsOf params env = ([], [])) (hcl : closureFor scope env = pure [])
    (k : ∀ x fo ps' s', Tab pos ps' → fo.cls = .type "function" → B.heap.objs.size ≤ x → St B g env vals s' ((x, fo) :: f ps') → Q (.ref x) s') : wpAny M A (eval (.Lambda params body scope pos) env) Q E s := by
  have hP := D.get (U ps).keys.2
  obtain ⟨mg, bm, ob, b1, b2, b3, b4, b5, b6, b7⟩ := S.bm
  have X := S.X.keeps D.keep
  have C := codeHd_of_K X hk
  have hmg := b1.keeps D.keep
  have hPg : mainGlobals ≠ P := by
    intro q
    obtain ⟨o, es, ep, e, hd, _⟩ := hmg
    rw [q, hP] at e; cases e; cases hd
  have hob := D.keep _ _ b4
  have hB : s.heap.BuiltinsAt mg P := by
    refine ⟨bm, ob, b2, b3, fun q => ?_, fun q => ?_, hob, b5, b6, b7⟩
    · obtain ⟨o, es, ep, e, hd, _⟩ := hmg
      rw [q, e] at hob; cases hob; rw [hd] at b7; cases b7
    · rw [q, hP] at hob; cases hob; cases b5
  refine kla_eval hdef ?_
  refine up ?_
  rcases hT with rfl | ⟨c', rfl⟩
  · refine kla_makeFunction (mg := mg) hcl hg0 hmg hcd C hP trivial rfl hPg hB fun c' ctv h' tk hx hge hlt hrec htb u => ?_
    refine k _ _ _ _ (.inr ⟨c', rfl⟩) rfl ?_ ((D.turnExt (tk := tk) (U _) hx htb ⟨u.1, Nat.le_trans hge (Nat.le_of_lt hlt)⟩).made _)
    exact Nat.le_trans D.up.2 (Nat.le_trans hge (Nat.le_of_lt hlt))
  · refine kla_makeFunctionHit (mg := mg) (cv := .ref c') hcl hg0 hmg hcd C hP trivial (by simp [codeAmong, rawInt]) hB fun ctv h' tk hkk hsz u => ?_
    refine k _ _ _ _ (.inr ⟨c', rfl⟩) rfl (Nat.le_trans D.up.2 hsz) ((D.turnExt (tk := tk) (U _) (fun b o _ e => hkk b o e) (hkk _ _ hP) ⟨u.1, hsz⟩).made _)
end

/-! ## contracts of what makes the lambda -/
def FnT (K : Frag) (prog : Program) (w : World) (n : Nat) (P : Addr) (pos : Pos) (f : Value) (args : List Value) (rd : News') (post : Value → News' → Prop) : Prop :=
  ∀ {A : Around} {s : Shared} {g : Heap} {R : Result → Shared → Prop} {ps : Array Value}, Tab pos ps → Sta K g → Room A n → Own g s [(P, tabObj ps)] → (∀ p ∈ rd, g.get? p.1 = some p.2) →
    (∀ v s' own' ps', post v own' → Tab pos ps' → Own g s' (own' ++ [(P, tabObj ps')]) → (∀ p ∈ own', s.heap.objs.size ≤ p.1) → Rest s s' → Up s s' → R (.ok (.ret v)) s') →
    codeAny (model prog w) A (.call f ⟨args, []⟩) R s
section
variable {B : Shared} {g : Heap} {env : Env} {vals vals' : Vals} {s : Shared} {news : News'} {A : Around} {E : Value → Shared → Prop} {prog : Program} {w : World} {K : Frag} {n : Nat} {P : Addr} {pos : Pos} {f : Value} {args : List Value}
theorem useT {rd : News'} {post : Value → News' → Prop} {ps : Array Value} {Q : Value → Shared → Prop} (C : FnT K prog w n P pos f args rd post) (hT : Tab pos ps) (S : Sta K g) (hA : Room A n) (D : St B g env vals s (news ++ [(P, tabObj ps)])) (hr : ∀ p ∈ rd, s.heap.get? p.1 = some p.2 ∧ p.1 ≠ P)
    (k : ∀ v own' ps' s', post v own' → Tab pos ps' → (∀ p ∈ own', B.heap.objs.size ≤ p.1) → St B g env vals s' (own' ++ (news ++ [(P, tabObj ps')])) → Q v s') : wpAny (model prog w) A (call f args []) Q E s := by
  have hs : ([(P, tabObj ps)] : News').Sublist (news ++ [(P, tabObj ps)]) := List.sublist_append_right _ _
  obtain ⟨m, L, e⟩ := id D.led
  have ho := L.ord
  rw [List.map_append, List.pairwise_append] at ho
  obtain ⟨ho1, _, ho3⟩ := ho
  have hPs : P < s.heap.objs.size := Heap.lt_size (L.nw _ (List.mem_append_right _ List.mem_cons_self)).1
  refine wpAny_call (C hT (D.sta S hs) hA (D.own hs) (fun p hp => hideAll_get _ (hr p hp).1 (by simpa using (hr p hp).2)) fun v s' own' ps' hp hT' O hnew r u =>
    k v own' ps' s' hp hT' (fun p hp => Nat.le_trans D.up.2 (hnew p hp)) (D.after (own := [(P, tabObj ps)]) (fun p hp => hs.subset hp) O r u (fun p hp => ?_) ?_))
  · rcases List.mem_append.mp hp with hp | hp
    · have hge := hnew p hp
      refine .inl ⟨List.mem_append_left _ hp, ?_, fun q => ?_⟩
      · cases q : g.get? p.1 with
        | none => rfl
        | some o => exact absurd (Heap.lt_size (L.fr.keep _ _ q)) (Nat.not_lt.mpr hge)
      · have := L.fr.ns.lt; rw [← q] at this; exact absurd this (Nat.not_lt.mpr hge)
    · rcases List.mem_append.mp hp with hp | hp
      · refine .inr ⟨List.mem_append_left _ hp, ?_⟩
        have := ho3 p.1 (List.mem_map_of_mem hp) P (by simp)
        simp only [List.map_cons, List.map_nil, List.mem_singleton]
        exact Nat.ne_of_gt this
      · rw [List.mem_singleton.mp hp]
        have z := L.nw (P, tabObj ps) (List.mem_append_right _ List.mem_cons_self)
        exact .inl ⟨List.mem_append_right _ List.mem_cons_self, z.2.2, z.2.1⟩
  · rw [List.map_append, List.map_append]
    have hO := O.ord
    rw [List.map_append, List.pairwise_append] at hO
    refine List.pairwise_append.mpr ⟨hO.1, List.pairwise_append.mpr ⟨ho1, by simp, fun a ha b hb => ?_⟩, fun a ha b hb => ?_⟩
    · have hb' : b = P := by simpa using hb
      subst hb'
      exact ho3 a ha _ (by simp)
    · obtain ⟨p, hp, rfl⟩ := List.mem_map.mp ha
      have hge := hnew p hp
      rcases List.mem_append.mp hb with hb | hb
      · obtain ⟨q, hq, rfl⟩ := List.mem_map.mp hb
        exact Nat.lt_of_lt_of_le (Heap.lt_size (L.nw q (List.mem_append_left _ hq)).1) hge
      · have hb' : b = P := by simpa using hb
        subst hb'
        exact Nat.lt_of_lt_of_le hPs hge
theorem St.leaveT {B : Shared} (D : St B g env vals s news) {v : Value} {nw : News'} {ps' : Array Value} (hn : (nw ++ [(P, tabObj ps')]).Sublist news) (hB : ∀ p ∈ nw, B.heap.objs.size ≤ p.1) (hg : g.objs.size ≤ B.heap.objs.size) (hT : Tab pos ps') {R : Result → Shared → Prop} {post : Value → News' → Prop} (hp : post v nw)
    (k : ∀ v s' own' ps', post v own' → Tab pos ps' → Own g s' (own' ++ [(P, tabObj ps')]) → (∀ p ∈ own', B.heap.objs.size ≤ p.1) → Rest B s' → Up B s' → R (.ok (.ret v)) s') : R (.ok (.ret v)) s := by
  obtain ⟨m, L, e⟩ := (D.drop hn).led
  exact k v s nw ps' hp hT ⟨L.fr.keep, Nat.le_trans hg D.up.2, L.ord, fun p hp => ⟨(L.nw p hp).1, (L.nw p hp).2.2⟩, D.tok⟩ hB D.rest D.up
theorem q_notin {c : Nat} {l : List Nat} {t u : Tok} {Q : Value → Shared → Prop} (k : Q (.bool (!decide (c ∈ l))) s) : wpAny (model prog w) A (compareOp .NotIn (.str (T [c]) t) (.str (T l) u)) Q E s :=
  notIn_str (by have := StrLaws.found_one (T l) c; rw [T_list] at this; show Q (.bool (!!(Builtin.Str.occurrences (T l) ⟨#[c]⟩ 0 (T l).length 1).isEmpty)) s; rw [this]; exact k)
end

end
section
/-! ## object() -/
def obObj : Obj := { cls := .type "object", data := .plain }
theorem mro_object : mroOf (.type "object") = pure [.type "object"] := by rw [mroOf_type]; kernel_rfl
theorem lookup_object_new : typeLookup (.type "object") "__new__" = pure (some (.builtin "object.__new__")) := by rw [typeLookup_type, builtinLookup_eq_fast]; kernel_rfl
theorem lookup_object_init : typeLookup (.type "object") "__init__" = pure (some (.builtin "object.__init__")) := by rw [typeLookup_type, builtinLookup_eq_fast]; kernel_rfl
theorem newCall_object_0 : checkBuiltinCall "object.__new__" ⟨[.type "object"], []⟩ = pure () := by kernel_rfl
theorem plain_object_new : plainId "object.__new__" = true := by decide +kernel
section
variable {prog : Program} {w : World} {A : Around} {E : Value → Shared → Prop} {s : Shared}
theorem code_object_new {Q₁ : Value → Shared → Prop} (h : Q₁ (.ref s.heap.objs.size) { s with heap := s.heap.push obObj }) :
    codeAny (model prog w) A (.call (.builtin "object.__new__") ⟨[.type "object"], []⟩) (wants Q₁ E) s := by
  refine codeAny_of_tree ?_
  show wpAny _ A.in1 (do checkBuiltinCall "object.__new__" ⟨[.type "object"], []⟩; again (.builtin "object.__new__" ⟨[.type "object"], []⟩)) _ _ s
  refine wpAny_bind (wpAny_of_eq newCall_object_0 (wpAny_pure ⟨plainId_quiet plain_object_new _, codeAny_builtin PySem.F.entry_object_new ?_⟩))
  rw [Around.under_plainId plain_object_new _]
  unfold Builtin.«object.__new__»
  obtain ⟨hp, g, d, tk, os⟩ := s
  dsimp only
  have hl := lookup_object_new
  have hm := mro_object
  have hmade := madeBy_type mro_object lookup_object_new (by decide +kernel)
  wp_walk
  repeat (any_goals (first | assumption | wp_step))
theorem typeCall_object_0 : checkTypeCall "object" ⟨[], []⟩ = pure () := by kernel_rfl
theorem called_object : TypeCalled "object" "object.__new__" "object.__init__" :=
  ⟨by decide +kernel, by decide +kernel, ⟨_, _, mro_object⟩, madeBy_type mro_object lookup_object_new (by decide +kernel), by decide +kernel, by rw [isSubtype_type]; kernel_rfl, PySem.F.slot_object_init⟩
set_option maxHeartbeats 1000000 in
theorem call_object_0 {Q : Value → Shared → Prop} (h : Q (.ref s.heap.objs.size) { s with heap := s.heap.push obObj }) : wpAny (model prog w) A (call (.type "object") []) Q E s := by
  obtain ⟨c, tl, hmro⟩ := called_object.mro
  have hmade := called_object.made
  have hsub := called_object.sub
  refine wpAny_call (codeAny_of_tree ?_)
  show wpAny _ _ (callAny (.type "object") _) _ _ _
  refine wpAny_pure ⟨Code.quiet_builtin _ (by decide +kernel), codeAny_builtin PySem.F.entry_type_call ?_⟩
  rw [Around.under_plain (weight_type_call_type "object" [] []) rfl]
  have h1 := called_object.notType
  have h2 := called_object.canCreate
  have hct := typeCall_object_0
  repeat (any_goals (first | assumption | wp_step))
  refine codeAny_mono (code_object_new (E := E) (Q₁ := fun obj s₁ => obj = .ref s.heap.objs.size ∧ s₁ = { s with heap := s.heap.push obObj }) ⟨rfl, rfl⟩) fun r s₁ hr => ?_
  cases r with
  | error e => exact hr
  | ok fl =>
    cases fl with
    | ret obj =>
      obtain ⟨rfl, rfl⟩ := hr
      have hS : (s.heap.push obObj).get? s.heap.objs.size = some obObj := Heap.get?_push_size _ rfl
      have hT : Shared.TypeIs { s with heap := s.heap.push obObj } (.ref s.heap.objs.size) "object" := ⟨_, hS, rfl⟩
      have hli := called_object.init.lookup
      have hbi := called_object.init.bind (.ref s.heap.objs.size)
      repeat (any_goals (first | assumption | wp_step))
      refine codeAny_mono (codeAny_call_builtin (R := wants (fun r s₂ => r = .none ∧ Q (.ref s.heap.objs.size) s₂) E) called_object.init.plain PySem.F.entry_object_init (called_object.init.check _ _ _ _ _ _ _ _ hT (PySem.F.args_object_init_1 _) ?_)) fun r₂ s₂ hr₂ => ?_
      · unfold Builtin.«object.__init__»
        wp_walk
        exact ⟨rfl, h⟩
      · cases r₂ with
        | error e => exact hr₂
        | ok fl₂ =>
          cases fl₂ with
          | ret r =>
            obtain ⟨rfl, hq⟩ := hr₂
            repeat (any_goals (first | assumption | wp_step))
          | _ => exact hr₂.elim
    | _ => exact hr.elim
end

end
section
/-! ## an object's dict: fields by their names -/
structure Has (es : List DictEntry) (fs : Vals) : Prop where
  get : ∀ x, getL x es = some (fs.lookup x).join
  size : es.length ≤ (fs.filter (·.2.isSome)).length
  keys : (fs.map (·.1)).Nodup
theorem isStr_ne {k : Value} {x y : Str} (h : x ≠ y) (hx : k.isStr x = true) : k.isStr y = false := by
  cases k <;> simp [Value.isStr] at hx ⊢
  intro e; exact h (hx ▸ e)
theorem find_putL {name : Str} {hsh : Int} {t : Tok} {v : Value} (x : Str) : ∀ es : List DictEntry,
    ((putL name hsh (.str name t) v es).find? (·.key.isStr x)).map (·.val) = if x = name then some v else (es.find? (·.key.isStr x)).map (·.val)
  | [] => by
    by_cases h : x = name
    · subst h; simp [putL, Value.isStr]
    · simp [putL, Value.isStr, h, Ne.symm h]
  | e :: r => by
    have ih := find_putL (name := name) (hsh := hsh) (t := t) (v := v) x r
    unfold putL
    cases q : e.key.isStr name with
    | true =>
      rw [if_pos rfl]
      by_cases h : x = name
      · subst h; simp [q]
      · have : e.key.isStr x = false := isStr_ne (Ne.symm h) q
        simp [this, h]
    | false =>
      rw [if_neg (by decide)]
      cases q2 : e.key.isStr x with
      | true =>
        have h : x ≠ name := fun z => by rw [z, q] at q2; cases q2
        simp [q2, h]
      | false => rw [List.find?_cons, q2, List.find?_cons, q2]; exact ih
theorem ref_putL {name : Str} {hsh : Int} {t : Tok} {v : Value} : ∀ es : List DictEntry, (putL name hsh (.str name t) v es).any (·.refKey) = es.any (·.refKey)
  | [] => rfl
  | e :: r => by
    have ih := ref_putL (name := name) (hsh := hsh) (t := t) (v := v) r
    unfold putL
    cases q : e.key.isStr name with
    | true => rw [if_pos rfl]; rfl
    | false => rw [if_neg (by decide), List.any_cons, List.any_cons, ih]
theorem getL_form (x : Str) (es : List DictEntry) : getL x es = match (es.find? (·.key.isStr x)).map (·.val) with | some v => some (some v) | none => if es.any (·.refKey) then none else some none := by
  unfold getL; cases es.find? (·.key.isStr x) <;> rfl
theorem getL_put {name : Str} {hsh : Int} {t : Tok} {v : Value} (x : Str) (es : List DictEntry) : getL x (putL name hsh (.str name t) v es) = if x = name then some (some v) else getL x es := by
  rw [getL_form, getL_form, find_putL, ref_putL]
  by_cases h : x = name
  · rw [if_pos h, if_pos h]
  · rw [if_neg h, if_neg h]
theorem len_putL {name : Str} {hsh : Int} {k v : Value} : ∀ es : List DictEntry, (putL name hsh k v es).length = es.length + if es.any (·.key.isStr name) then 0 else 1
  | [] => rfl
  | e :: r => by
    have ih := len_putL (name := name) (hsh := hsh) (k := k) (v := v) r
    unfold putL
    cases q : e.key.isStr name with
    | true => simp [q]
    | false => rw [if_neg (by decide), List.length_cons, ih, List.any_cons, q, Bool.false_or, List.length_cons]; omega
theorem lookup_put {x : Str} {v : Value} {l l' : Vals} (h : Put x v l l') (nd : (l.map (·.1)).Nodup) (y : Str) : l'.lookup y = if y = x then some (some v) else l.lookup y := by
  induction h with
  | @head u r =>
    by_cases e : y = x
    · subst e; simp [List.lookup]
    · simp only [List.lookup, beq_false_of_ne e, if_neg e]
  | @tail p r r' hp ih =>
    obtain ⟨a, b⟩ := p
    rw [List.map_cons, List.nodup_cons] at nd
    by_cases e : y = a
    · subst e
      have : y ≠ x := fun q => nd.1 (by rw [q]; exact hp.keys.2)
      simp [List.lookup, this]
    · simp only [List.lookup, beq_false_of_ne e]; exact ih nd.2
theorem lookup_in {l : Vals} {x : Str} (h : x ∈ l.map (·.1)) : ∃ u, l.lookup x = some u := by
  induction l with
  | nil => cases h
  | cons p r ih =>
    obtain ⟨a, b⟩ := p
    by_cases e : x = a
    · subst e; exact ⟨b, by simp [List.lookup]⟩
    · rw [List.map_cons, List.mem_cons] at h
      simp only [List.lookup, beq_false_of_ne e]; exact ih (h.resolve_left e)
theorem count_put {x : Str} {v : Value} {l l' : Vals} (h : Put x v l l') (nd : (l.map (·.1)).Nodup) : (l'.filter (·.2.isSome)).length = (l.filter (·.2.isSome)).length + if (l.lookup x).join.isSome then 0 else 1 := by
  induction h with
  | @head u r => cases u <;> simp [List.lookup]
  | @tail p r r' hp ih =>
    obtain ⟨a, b⟩ := p
    rw [List.map_cons, List.nodup_cons] at nd
    have : x ≠ a := fun q => nd.1 (by rw [← q]; exact hp.keys.2)
    have e : List.lookup x ((a, b) :: r) = List.lookup x r := by simp only [List.lookup, beq_false_of_ne this]
    rw [e, List.filter_cons, List.filter_cons]
    have ih := ih nd.2
    cases b <;> simp <;> omega
theorem Has.empty {fs : Vals} (h : fs.all (·.2.isNone) = true) (nd : (fs.map (·.1)).Nodup) : Has [] fs := by
  refine ⟨fun x => ?_, Nat.zero_le _, nd⟩
  show some none = _
  congr 1
  induction fs with
  | nil => rfl
  | cons p r ih =>
    obtain ⟨a, b⟩ := p
    rw [List.all_cons, Bool.and_eq_true] at h
    cases b with
    | some u => exact absurd h.1 Bool.false_ne_true
    | none =>
    rw [List.map_cons, List.nodup_cons] at nd
    by_cases e : x = a
    · subst e; simp [List.lookup]
    · simp only [List.lookup, beq_false_of_ne e]; exact ih h.2 nd.2
theorem Has.put {es : List DictEntry} {fs fs' : Vals} {x : Str} {v : Value} {hsh : Int} {t : Tok} (h : Has es fs) (p : Put x v fs fs') : Has (putL x hsh (.str x t) v es) fs' := by
  refine ⟨fun y => ?_, ?_, by rw [p.keys.1]; exact h.keys⟩
  · rw [getL_put, lookup_put p h.keys]
    by_cases e : y = x
    · rw [if_pos e, if_pos e]; rfl
    · rw [if_neg e, if_neg e]; exact h.get y
  · rw [len_putL, count_put p h.keys]
    have hs := h.size
    have hg := h.get x
    unfold getL at hg
    cases q : es.find? (·.key.isStr x) with
    | some e =>
      rw [q] at hg
      have : es.any (·.key.isStr x) = true := List.any_eq_true.mpr ⟨e, List.mem_of_find?_eq_some q, by have := List.find?_some q; simpa using this⟩
      rw [if_pos this]; omega
    | none =>
      rw [q] at hg
      dsimp only at hg
      split at hg
      · cases hg
      · have e : (fs.lookup x).join = none := (Option.some.inj hg).symm
        have : es.any (·.key.isStr x) = false := by
          rw [List.any_eq_false]; intro y hy; exact (List.find?_eq_none.mp q) y hy
        rw [e, this]; simp; omega
theorem Has.at_ {es : List DictEntry} {fs : Vals} {x : Str} {v : Value} (h : Has es fs) (a : At fs x v) : getL x es = some (some v) := by
  rw [h.get]
  have nd := h.keys
  clear h
  induction a with
  | head => simp [List.lookup]
  | @tail p r x v a ih =>
    obtain ⟨b, c⟩ := p
    rw [List.map_cons, List.nodup_cons] at nd
    have : x ≠ b := fun q => nd.1 (by rw [← q]; exact List.mem_map_of_mem (f := (·.1)) a.mem)
    simp only [List.lookup, beq_false_of_ne this]; exact ih nd.2
theorem Has.none {es : List DictEntry} {fs : Vals} {x : Str} (h : Has es fs) (a : (fs.map (·.1)).contains x = false) : getL x es = some none := by
  rw [h.get]
  clear h
  induction fs with
  | nil => rfl
  | cons p r ih =>
    obtain ⟨b, c⟩ := p
    rw [List.map_cons, List.contains_cons, Bool.or_eq_false_iff] at a
    have : (x == b) = false := a.1
    simp only [List.lookup, this]; exact ih a.2

/-- what the class must say of a field's name -/
def fieldOk (K : Frag) (C : Addr) (x : Str) : Bool := plainGet K C x && hasDictIn K C && (findIn K (.ref C) x == some none) && plainOver K C && (findIn K (.ref C) "__setattr__" == some (some (.builtin "object.__setattr__"))) && (match takerIn K C x with | some none => true | _ => false)
structure FieldOk (K : Frag) (C : Addr) (x : Str) : Prop where
  pg : plainGet K C x = true
  hd : hasDictIn K C = true
  fi : findIn K (.ref C) x = some none
  po : plainOver K C = true
  sa : findIn K (.ref C) "__setattr__" = some (some (.builtin "object.__setattr__"))
  tk : takerIn K C x = some none
theorem FieldOk.of {K : Frag} {C : Addr} {x : Str} (h : fieldOk K C x = true) : FieldOk K C x := by
  unfold fieldOk at h
  simp only [Bool.and_eq_true, beq_iff_eq] at h
  obtain ⟨⟨⟨⟨⟨a, b⟩, c⟩, d⟩, e⟩, f⟩ := h
  refine ⟨a, b, c, d, e, ?_⟩
  split at f
  · assumption
  · cases f

section
variable {B : Shared} {g : Heap} {env : Env} {vals vals' : Vals} {s : Shared} {news news' : News'} {A : Around} {E : Value → Shared → Prop} {K : Frag} {prog : Program} {w : World} {x C dx : Addr} {es : List DictEntry} {n : Nat} {fs fs' : Vals} {name : Str}
abbrev Ob (x C dx : Addr) : Addr × Obj := (x, instObj C dx)
abbrev Di (dx : Addr) (es : List DictEntry) (n : Nat) : Addr × Obj := (dx, dictOf es n)
theorem inst_at (hx : s.heap.get? x = some (instObj C dx)) (hd : s.heap.get? dx = some (dictOf es n)) : InstAt s.heap x (instObj C dx) C (some (dictOf es n)) := ⟨hx, rfl, rfl, hd⟩
theorem r_getf {v : Value} {expr : Bool} {Q : Value → Shared → Prop} (S : Sta K g) (D : St B g env vals s news) (hx : s.heap.get? x = some (instObj C dx)) (hd : s.heap.get? dx = some (dictOf es n)) (hf : Has es fs) (ha : At fs name v) (hok : fieldOk K C name = true) (hv : handedIn v = true)
    (k : ∀ s', St B g env vals s' news → Q v s') : wpAny (model prog w) A (getAttr (.ref x) name expr) Q E s := by
  have ok := FieldOk.of hok
  exact get_value (S.X.keeps D.keep) (inst_at hx hd) (plainGet_of ok.pg).1 (findObj_own ok.hd ok.fi rfl (by rw [lookIn_dict]; exact hf.at_ ha)) hv (k _ D.tk1)
inductive Hole (a : Addr) (o : Obj) : News' → (Obj → News') → Prop
  | head {r} : Hole a o ((a, o) :: r) (fun o' => (a, o') :: r)
  | tail {p r f} : Hole a o r f → Hole a o (p :: r) (fun o' => p :: f o')
theorem Hole.upd {a : Addr} {o : Obj} {l : News'} {f : Obj → News'} (h : Hole a o l f) (o' : Obj) : UpdP a o o' l (f o') := by
  induction h with
  | head => exact .head
  | tail _ ih => exact .tail ih
theorem UpdP.toUpd {a : Addr} {o o' : Obj} {l l' : News'} (h : UpdP a o o' l l') (nd : (l.map (·.1)).Pairwise (· > ·)) : Upd a o o' l l' := by
  induction h with
  | head =>
    rw [List.map_cons, List.pairwise_cons] at nd
    exact .head fun p hp => Nat.ne_of_lt (nd.1 _ (List.mem_map_of_mem (f := (·.1)) hp))
  | tail h ih =>
    rw [List.map_cons, List.pairwise_cons] at nd
    exact .tail (Nat.ne_of_gt (nd.1 _ (List.mem_map_of_mem (f := (·.1)) h.keys.2))) (ih nd.2)
theorem r_setf {v : Value} {f : Obj → News'} {Q : Unit → Shared → Prop} (S : Sta K g) (D : St B g env vals s news) (hx : s.heap.get? x = some (instObj C dx)) (U : Hole dx (dictOf es n) news f) (hf : Has es fs) (hp : Put name v fs fs') (hl : Nat.ble fs.length 100 = true) (hok : fieldOk K C name = true)
    (k : ∀ es' n' s', Has es' fs' → St B g env vals s' (f (dictOf es' n')) → Q () s') : wpAny (model prog w) A (setAttr (.ref x) name v) Q E s := by
  have ok := FieldOk.of hok
  obtain ⟨m, L, e⟩ := D.led
  have hd : s.heap.get? dx = some (dictOf es n) := L.nw.get (U.upd (dictOf es n)).keys.2
  have hf' := hf.put (hsh := PyData.keyHash w.params name) (t := s.toks + 1) hp
  have UU := U.upd (dictOf (putL name (PyData.keyHash w.params name) (.str name (s.toks + 1)) v es) (putN name es n))
  have hsz := hf'.size
  have hkl : (fs'.filter (·.2.isSome)).length ≤ fs'.length := List.length_filter_le _ _
  have hkl2 : fs'.length = fs.length := by have := congrArg List.length hp.keys.1; simpa using this
  have hl' := Nat.le_of_ble_eq_true hl
  refine up (set_dict L.fr S.X L.nw (inst_at hx hd) rfl ok.sa ok.po ok.tk ok.hd (by rw [hf.get]; rfl) rfl (UU.toUpd L.ord) (by omega) fun h' F' N' u => ?_)
  exact k _ _ _ hf' (D.to ⟨m, ⟨F', N', UU.ord L.ord⟩, e⟩ rfl u)
/-- a method of the class -/
def methOk (K : Frag) (C : Addr) (x : Str) (f : Addr) : Bool := plainGet K C x && (findIn K (.ref C) x == some (some (.ref f))) && isFn K (.ref f)
theorem r_meth {f : Addr} {pl : Sem Bool} {Q : Value × List Value → Shared → Prop} (S : Sta K g) (D : St B g env vals s news) (hx : s.heap.get? x = some (instObj C dx)) (hd : s.heap.get? dx = some (dictOf es n)) (hf : Has es fs) (ha : (fs.map (·.1)).contains name = false) (hok : methOk K C name f = true)
    (k : Q (.ref f, [.ref x]) s) : wpAny (model prog w) A (getMethod (.ref x) name pl) Q E s := by
  unfold methOk at hok
  simp only [Bool.and_eq_true, beq_iff_eq] at hok
  obtain ⟨⟨a, b⟩, c⟩ := hok
  exact method_fn (S.X.keeps D.keep) (inst_at hx hd) (plainGet_of a).1 (plainGet_of a).2 b (beq_iff_eq.mp c) (by show (lookIn name (dictOf es n)).map _ = _; rw [lookIn_dict, hf.none ha]; rfl) k
/-- calls of the text's own defs with a self ahead -/
theorem r_callF {f self : Value} {pos : Pos} {e : Expr} {rest : List Expr} {M : Model} {Q : Value → Shared → Prop} (S : Sta K g) (D : St B g env vals s news) (hk : keepIn K f = true)
    (h : wpAny M A (spliced (backTo pos (starEach (e :: rest) env))) (fun vs s₁ => K.In s₁.heap ∧ wpAny M A (call f (self :: vs)) Q E s₁) E s)
    (he : starEach (e :: rest) env = (false, eval e env) :: starEach rest env := by rfl) (hplain : (backTo pos (starEach rest env)).any (·.1) = false := by rfl) :
    wpAny M A (callWith pos f [self] (backTo pos (starEach (e :: rest) env)) []) Q E s := callWith_K S.X hk h he hplain
theorem r_callF0 {f self : Value} {pos : Pos} {M : Model} {Q : Value → Shared → Prop} (S : Sta K g) (D : St B g env vals s news) (hk : keepIn K f = true) (h : wpAny M A (call f [self]) Q E s) :
    wpAny M A (callWith pos f [self] (backTo pos (starEach [] env)) []) Q E s := callWith_K0 (S.X.keeps D.keep) hk h
/-- a property -/
def propOk (K : Frag) (C : Addr) (x : Str) (f : Addr) : Bool := plainGet K C x && hasDictIn K C && (match findIn K (.ref C) x with
  | some (some (.ref p)) => (specialIn K (.ref p) "__get__" == some (some (.builtin "property.__get__"))) && (takesIn K (.ref p) == some true) && (match recIn K p "property" with | some (v :: _) => v == .ref f | _ => false)
  | _ => false)
theorem r_prop {f : Addr} {expr : Bool} {Q : Value → Shared → Prop} (S : Sta K g) (D : St B g env vals s news) (hx : s.heap.get? x = some (instObj C dx)) (hd : s.heap.get? dx = some (dictOf es n)) (hok : propOk K C name f = true)
    (k : ∀ s', St B g env vals s' news → codeAny (model prog w) A.in1 (.call (.ref f) ⟨[.ref x], []⟩) (fun r s' => match r with | .ok (.ret v) => handedIn v = true ∧ Q v s' | _ => False) s') : wpAny (model prog w) A (getAttr (.ref x) name expr) Q E s := by
  unfold propOk at hok
  simp only [Bool.and_eq_true] at hok
  obtain ⟨⟨a, b⟩, c⟩ := hok
  split at c
  · rename_i p hp
    simp only [Bool.and_eq_true, beq_iff_eq] at c
    obtain ⟨⟨c1, c2⟩, c3⟩ := c
    split at c3
    · rename_i v rest hr
      have : v = .ref f := beq_iff_eq.mp c3
      subst this
      have X := S.X.keeps D.keep
      refine get_bind X (inst_at hx hd) (plainGet_of a).1 (findObj_data (by obtain ⟨cd, hc, _⟩ := any_some b; rw [hc]; rfl) hp c1 c2) (plainGet_of a).2 (wpAny_call (prop_get (s := { s with toks := s.toks + 1 }) X hr ?_))
      refine codeAny_mono (k _ (D.tk1 (n := 1))) fun r s' q => ?_
      rcases r with e | (v | _ | _ | _) <;> first | exact q.elim | exact handed_on q.1 q.2
    · cases c3
  · cases c
end

/-! ## contracts that change objects of the caller's -/
section
variable {B : Shared} {g : Heap} {env : Env} {vals vals' : Vals} {s : Shared} {news news' : News'} {A : Around} {E : Value → Shared → Prop} {K : Frag} {prog : Program} {w : World} {n : Nat} {f : Value} {args : List Value}
theorem useOc {pre own post : News'} {P : Value → News' → Prop} {R : Result → Shared → Prop} (C : Fn K prog w n f args own P) (S : Sta K g) (hA : Room A n) (D : St B g env vals s (pre ++ (own ++ post))) (hP : ∀ v own', P v own' → own'.map (·.1) = own.map (·.1))
    (k : ∀ v own' s', P v own' → St B g env vals s' (pre ++ (own' ++ post)) → R (.ok (.ret v)) s') : codeAny (model prog w) A (.call f ⟨args, []⟩) R s := by
  have hs : own.Sublist (pre ++ (own ++ post)) := (List.sublist_append_left own post).trans (List.sublist_append_right pre _)
  obtain ⟨m, L, e⟩ := D.led
  have ho := L.ord
  rw [List.map_append, List.map_append, List.pairwise_append, List.pairwise_append] at ho
  obtain ⟨o1, ⟨o2, o3, o4⟩, o5⟩ := ho
  refine C (D.sta S hs) hA (D.own hs) fun v s' own' hp O hnew r u => k v own' s' hp (D.after (own := own) (fun p hp => hs.subset hp) O r u (fun p hq => ?_) ?_)
  · rcases List.mem_append.mp hq with hq | hq
    · refine .inr ⟨List.mem_append_left _ hq, fun z => ?_⟩
      exact absurd (o5 _ (List.mem_map_of_mem hq) _ (List.mem_append_left _ z)) (Nat.lt_irrefl _)
    · rcases List.mem_append.mp hq with hq | hq
      · have hk : p.1 ∈ own.map (·.1) := by rw [← hP v own' hp]; exact List.mem_map_of_mem hq
        obtain ⟨q, hq2, e2⟩ := List.mem_map.mp hk
        have z := L.nw q (hs.subset hq2)
        rw [e2] at z
        exact .inl ⟨hq, z.2.2, z.2.1⟩
      · refine .inr ⟨List.mem_append_right _ (List.mem_append_right _ hq), fun z => ?_⟩
        exact absurd (o4 _ z _ (List.mem_map_of_mem hq)) (Nat.lt_irrefl _)
  · have := L.ord
    rw [List.map_append, List.map_append] at this ⊢
    rw [hP v own' hp]; exact this
theorem useO {pre own post : News'} {P : Value → News' → Prop} {Q : Value → Shared → Prop} (C : Fn K prog w n f args own P) (S : Sta K g) (hA : Room A n) (D : St B g env vals s (pre ++ (own ++ post))) (hP : ∀ v own', P v own' → own'.map (·.1) = own.map (·.1))
    (k : ∀ v own' s', P v own' → St B g env vals s' (pre ++ (own' ++ post)) → Q v s') : wpAny (model prog w) A (call f args []) Q E s :=
  wpAny_call (useOc C S hA D hP k)
end
section
variable {s : Shared} {A : Around} {E : Value → Shared → Prop} {prog : Program} {w : World} {Q : Value → Shared → Prop}
theorem q_type_int {i : Int} {t : Tok} (h : Q (.type "int") s) : wpAny (model prog w) A (call (.type "type") [.int i t]) Q E s := by
  obtain ⟨hh, g, d, tk, os⟩ := s
  exact call_type_of (Tx := "int") rfl (by decide +kernel) h
theorem q_type_str {x : Str} {t : Tok} (h : Q (.type "str") s) : wpAny (model prog w) A (call (.type "type") [.str x t]) Q E s := by
  obtain ⟨hh, g, d, tk, os⟩ := s
  exact call_type_of (Tx := "str") rfl (by decide +kernel) h
end
theorem hd_str {x : Str} {t : Tok} : handedIn (.str x t) = true := rfl
theorem hd_int {x : Int} {t : Tok} : handedIn (.int x t) = true := rfl
theorem hd_ref {x : Addr} : handedIn (.ref x) = true := rfl
theorem hd_bool {x : Bool} : handedIn (.bool x) = true := rfl
theorem hd_none : handedIn .none = true := rfl
section
variable {B : Shared} {g : Heap} {env : Env} {vals vals' : Vals} {s : Shared} {news news' : News'} {A : Around} {E : Value → Shared → Prop} {K : Frag} {prog : Program} {w : World} {n : Nat} {f : Value} {args : List Value}
theorem useRc {rd : News'} {post : Value → News' → Prop} {R : Result → Shared → Prop} (C : FnR K prog w n f args rd post) (S : Sta K g) (hA : Room A n) (D : St B g env vals s news) (hr : ∀ p ∈ rd, s.heap.get? p.1 = some p.2)
    (k : ∀ v own' s', post v own' → (∀ p ∈ own', B.heap.objs.size ≤ p.1) → St B g env vals s' (own' ++ news) → R (.ok (.ret v)) s') : codeAny (model prog w) A (.call f ⟨args, []⟩) R s := by
  have hs : ([] : News').Sublist news := List.nil_sublist _
  obtain ⟨m, L, e⟩ := D.led
  refine C (D.sta S hs) hA (D.own hs) (fun p hp => hideAll_get _ (hr p hp) (by simp)) fun v s' own' hp O hnew r u => k v own' s' hp (fun p hp => Nat.le_trans D.up.2 ((hnew p hp).resolve_left fun z => nomatch z)) (D.after (own := []) (fun p hp => nomatch hp) O r u (fun p hp => ?_) ?_)
  · rcases List.mem_append.mp hp with hp | hp
    · have hge : s.heap.objs.size ≤ p.1 := (hnew p hp).resolve_left fun z => nomatch z
      refine .inl ⟨hp, ?_, fun q => ?_⟩
      · cases q : g.get? p.1 with
        | none => rfl
        | some o => exact absurd (Heap.lt_size (L.fr.keep _ _ q)) (Nat.not_lt.mpr hge)
      · have := L.fr.ns.lt; rw [← q] at this; exact absurd this (Nat.not_lt.mpr hge)
    · exact .inr ⟨hp, fun z => nomatch z⟩
  · rw [List.map_append]
    refine List.pairwise_append.mpr ⟨O.ord, L.ord, fun a ha b hb => ?_⟩
    obtain ⟨p, hp, rfl⟩ := List.mem_map.mp ha
    obtain ⟨q, hq, rfl⟩ := List.mem_map.mp hb
    have hge : s.heap.objs.size ≤ p.1 := (hnew p hp).resolve_left fun z => nomatch z
    exact Nat.lt_of_lt_of_le (Heap.lt_size (L.nw q hq).1) hge
end

end
section
/-! ## what the classes say of the names -/
theorem fo662a (w : World) : fieldOk (hd.heap_39 w.params) 662 (Str.ofString "_StringIO__newline") = true := by kernel_rfl
theorem fo662b (w : World) : fieldOk (hd.heap_39 w.params) 662 (Str.ofString "_StringIO__buf") = true := by kernel_rfl
theorem fo662c (w : World) : fieldOk (hd.heap_39 w.params) 662 (Str.ofString "_StringIO__pos") = true := by kernel_rfl
theorem mo662a (w : World) : methOk (hd.heap_39 w.params) 662 (Str.ofString "_StringIO__check") 446 = true := by kernel_rfl
theorem mo662b (w : World) : methOk (hd.heap_39 w.params) 662 (Str.ofString "_StringIO__translated") 439 = true := by kernel_rfl
theorem mo662c (w : World) : methOk (hd.heap_39 w.params) 662 (Str.ofString "read") 608 = true := by kernel_rfl
theorem fo797a (w : World) : fieldOk (hd.heap_39 w.params) 797 (Str.ofString "instream") = true := by kernel_rfl
theorem fo797b (w : World) : fieldOk (hd.heap_39 w.params) 797 (Str.ofString "infile") = true := by kernel_rfl
theorem fo797c (w : World) : fieldOk (hd.heap_39 w.params) 797 (Str.ofString "posix") = true := by kernel_rfl
theorem fo797d (w : World) : fieldOk (hd.heap_39 w.params) 797 (Str.ofString "eof") = true := by kernel_rfl
theorem fo797e (w : World) : fieldOk (hd.heap_39 w.params) 797 (Str.ofString "commenters") = true := by kernel_rfl
theorem fo797f (w : World) : fieldOk (hd.heap_39 w.params) 797 (Str.ofString "wordchars") = true := by kernel_rfl
theorem fo797g (w : World) : fieldOk (hd.heap_39 w.params) 797 (Str.ofString "whitespace") = true := by kernel_rfl
theorem fo797h (w : World) : fieldOk (hd.heap_39 w.params) 797 (Str.ofString "whitespace_split") = true := by kernel_rfl
theorem fo797i (w : World) : fieldOk (hd.heap_39 w.params) 797 (Str.ofString "quotes") = true := by kernel_rfl
theorem fo797j (w : World) : fieldOk (hd.heap_39 w.params) 797 (Str.ofString "escape") = true := by kernel_rfl
theorem fo797k (w : World) : fieldOk (hd.heap_39 w.params) 797 (Str.ofString "escapedquotes") = true := by kernel_rfl
theorem fo797l (w : World) : fieldOk (hd.heap_39 w.params) 797 (Str.ofString "state") = true := by kernel_rfl
theorem fo797m (w : World) : fieldOk (hd.heap_39 w.params) 797 (Str.ofString "pushback") = true := by kernel_rfl
theorem fo797n (w : World) : fieldOk (hd.heap_39 w.params) 797 (Str.ofString "lineno") = true := by kernel_rfl
theorem fo797o (w : World) : fieldOk (hd.heap_39 w.params) 797 (Str.ofString "debug") = true := by kernel_rfl
theorem fo797p (w : World) : fieldOk (hd.heap_39 w.params) 797 (Str.ofString "token") = true := by kernel_rfl
theorem fo797q (w : World) : fieldOk (hd.heap_39 w.params) 797 (Str.ofString "filestack") = true := by kernel_rfl
theorem fo797r (w : World) : fieldOk (hd.heap_39 w.params) 797 (Str.ofString "source") = true := by kernel_rfl
theorem fo797s (w : World) : fieldOk (hd.heap_39 w.params) 797 (Str.ofString "_punctuation_chars") = true := by kernel_rfl
theorem mo797a (w : World) : methOk (hd.heap_39 w.params) 797 (Str.ofString "get_token") 758 = true := by kernel_rfl
theorem mo797b (w : World) : methOk (hd.heap_39 w.params) 797 (Str.ofString "read_token") 765 = true := by kernel_rfl
theorem po797 (w : World) : propOk (hd.heap_39 w.params) 797 (Str.ofString "punctuation_chars") 728 = true := by kernel_rfl
def W31 : List Nat := (Str.ofString "abcdfeghijklmnopqrstuvwxyzABCDEFGHIJKLMNOPQRSTUVWXYZ0123456789_").cps.toList
theorem lit31 : Str.ofString "abcdfeghijklmnopqrstuvwxyzABCDEFGHIJKLMNOPQRSTUVWXYZ0123456789_" = T W31 := T_of _
def W34 : List Nat := (Str.ofString "ßàáâãäåæçèéêëìíîïðñòóôõöøùúûüýþÿÀÁÂÃÄÅÆÇÈÉÊËÌÍÎÏÐÑÒÓÔÕÖØÙÚÛÜÝÞ").cps.toList
theorem lit34 : Str.ofString "ßàáâãäåæçèéêëìíîïðñòóôõöøùúûüýþÿÀÁÂÃÄÅÆÇÈÉÊËÌÍÎÏÐÑÒÓÔÕÖØÙÚÛÜÝÞ" = T W34 := T_of _
theorem W_34 : 34 ∉ W31 ++ W34 := by decide +kernel
theorem W_len : (W31 ++ W34).length ≤ 200 := by decide +kernel
theorem W31_len : W31.length ≤ 100 := by decide +kernel
theorem W34_len : W34.length ≤ 100 := by decide +kernel

end
section
/-! ## an empty deque -/
def dqObj : Obj := { cls := .type "collections.deque", data := .fields #[.none, .int 0 0] }
theorem mro_deque : mroOf (.type "collections.deque") = pure [.type "collections.deque", .type "object"] := by rw [mroOf_type]; kernel_rfl
theorem lookup_deque_new : typeLookup (.type "collections.deque") "__new__" = pure (some (.builtin "collections.deque.__new__")) := by rw [typeLookup_type, builtinLookup_eq_fast]; kernel_rfl
theorem slot_deque_init : Slot "collections.deque" "__init__" "collections.deque.__init__" :=
  .of (owner := "collections.deque") (n := "__init__") (by rw [typeLookup_type, builtinLookup_eq_fast]; kernel_rfl) (by decide +kernel) (by decide +kernel) (by decide +kernel)
    (by first | exact .inl (by decide +kernel) | exact .inr (by decide +kernel)) (by rw [isSubtype_type]; kernel_rfl)
theorem slot_deque_len : Slot "collections.deque" "__len__" "collections.deque.__len__" :=
  .of (owner := "collections.deque") (n := "__len__") (by rw [typeLookup_type, builtinLookup_eq_fast]; kernel_rfl) (by decide +kernel) (by decide +kernel) (by decide +kernel)
    (by first | exact .inl (by decide +kernel) | exact .inr (by decide +kernel)) (by rw [isSubtype_type]; kernel_rfl)
theorem noBool_deque : typeLookup (.type "collections.deque") "__bool__" = pure none := by rw [typeLookup_type, builtinLookup_eq_fast]; kernel_rfl
theorem called_deque : TypeCalled "collections.deque" "collections.deque.__new__" "collections.deque.__init__" :=
  ⟨by decide +kernel, by decide +kernel, ⟨_, _, mro_deque⟩, madeBy_type mro_deque lookup_deque_new (by decide +kernel), by decide +kernel, by rw [isSubtype_type]; kernel_rfl, slot_deque_init⟩
theorem typeCall_deque : checkTypeCall "collections.deque" ⟨[], []⟩ = pure () := by kernel_rfl
theorem newCall_deque : checkBuiltinCall "collections.deque.__new__" ⟨[.type "collections.deque"], []⟩ = pure () := by kernel_rfl
theorem entry_deque_new : entryFor table "collections.deque.__new__" = some Builtin.«collections.deque.__new__» := entryFor_of_tree (by kernel_rfl)
theorem entry_deque_init : entryFor table "collections.deque.__init__" = some Builtin.«collections.deque.__init__» := entryFor_of_tree (by kernel_rfl)
theorem entry_deque_len : entryFor table "collections.deque.__len__" = some Builtin.«collections.deque.__len__» := entryFor_of_tree (by kernel_rfl)
theorem plain_deque_new : plainId "collections.deque.__new__" = true := by decide +kernel
theorem args_deque_init (a : Value) : argsOk "collections.deque.__init__" ⟨[a], []⟩ := by unfold argsOk; kernel_rfl
theorem args_deque_len (a : Value) : argsOk "collections.deque.__len__" ⟨[a], []⟩ := by unfold argsOk; kernel_rfl
theorem dq_newArgs : Builtin.Deque.newArgs "collections.deque" ⟨[.type "collections.deque"], []⟩ = pure (.type "collections.deque", []) := by kernel_rfl
theorem dq_hasDict : typeHasDict (.type "collections.deque") = false := by decide +kernel
section
variable {prog : Program} {w : World} {A : Around} {E : Value → Shared → Prop} {s : Shared}
theorem code_deque_new {Q₁ : Value → Shared → Prop} (h : Q₁ (.ref s.heap.objs.size) { s with heap := s.heap.push dqObj }) :
    codeAny (model prog w) A (.call (.builtin "collections.deque.__new__") ⟨[.type "collections.deque"], []⟩) (wants Q₁ E) s := by
  refine codeAny_of_tree ?_
  show wpAny _ A.in1 (do checkBuiltinCall "collections.deque.__new__" ⟨[.type "collections.deque"], []⟩; again (.builtin "collections.deque.__new__" ⟨[.type "collections.deque"], []⟩)) _ _ s
  refine wpAny_bind (wpAny_of_eq newCall_deque (wpAny_pure ⟨plainId_quiet plain_deque_new _, codeAny_builtin entry_deque_new ?_⟩))
  rw [Around.under_plainId plain_deque_new _]
  show wpAny _ _ (do let (cls, _) ← Builtin.Deque.newArgs "collections.deque" ⟨[.type "collections.deque"], []⟩; ret (← Builtin.Deque.new cls #[] none)) _ _ _
  rw [dq_newArgs]
  refine wpAny_bind (wpAny_pure ?_)
  show wpAny _ _ (Builtin.Deque.new (.type "collections.deque") #[] none >>= _) _ _ _
  unfold Builtin.Deque.new
  rw [dq_hasDict]
  refine wpAny_bind ?_
  refine wpAny_bind (wpAny_pure ?_)
  refine wpAny_newObj_type (wpAny_pure h) (by size_fits)
theorem call_deque_0 {Q : Value → Shared → Prop} (h : ∀ h', h'.get? s.heap.objs.size = some dqObj → Heap.SameBut s.heap.objs.size (s.heap.push dqObj) h' → Q (.ref s.heap.objs.size) { s with heap := h' }) : wpAny (model prog w) A (call (.type "collections.deque") []) Q E s := by
  refine callType_codes (Q₁ := fun obj s₁ => obj = .ref s.heap.objs.size ∧ s₁ = { s with heap := s.heap.push dqObj }) called_deque typeCall_deque entry_deque_init (code_deque_new ⟨rfl, rfl⟩) fun obj s₁ h₁ => ?_
  obtain ⟨rfl, rfl⟩ := h₁
  have hS : (s.heap.push dqObj).get? s.heap.objs.size = some dqObj := Heap.get?_push_size _ rfl
  refine ⟨⟨_, hS, rfl⟩, args_deque_init _, ?_⟩
  show wpAny _ _ (setField (.ref s.heap.objs.size) 0 .none >>= fun _ => Builtin.Deque.clear (.ref s.heap.objs.size) >>= fun _ => ret .none) _ _ _
  refine wpAny_bind (wpAny_setField hS rfl (by decide) ?_)
  have hS2 := Heap.get?_update_self (Obj.mapFields (·.setIfInBounds 0 Value.none)) hS rfl
  unfold Builtin.Deque.clear Builtin.Deque.items
  refine wpAny_bind (wpAny_bind (wpAny_bind (wpAny_fieldsOf hS2 rfl (wpAny_pure ?_))))
  rw [if_neg (by simp [Obj.mapFields, dqObj])]
  refine wpAny_pure (wpAny_pure ⟨rfl, h _ ?_ (Heap.SameBut.update ..)⟩)
  exact hS2
theorem truthy_deque {a : Addr} {Q : Bool → Shared → Prop} (ha : s.heap.get? a = some dqObj) (h : Q false { s with toks := s.toks + 1 + 1 }) : wpAny (model prog w) A (truthy (.ref a)) Q E s := by
  have hT : s.TypeIs (.ref a) "collections.deque" := ⟨_, ha, rfl⟩
  have key0 : wpAny (model prog w) A.in1 (Builtin.«len» ⟨[.ref a], []⟩) (fun fin s' => ∃ r, fin = .done (.ret r) ∧ (r = .int 0 (s.toks + 1) ∧ Q false s')) E s := by
    unfold Builtin.«len»
    refine wpAny_bind (m := oneArg "len" _) (wpAny_pure ?_)
    refine wpAny_bind (m := callSpecial? (.ref a) (Str.ofString "__len__")) (wpAny_callSpecial?_slot (name := Str.ofString "__len__") hT slot_deque_len
      (wpAny_call_entry slot_deque_len hT entry_deque_len ?_ (args_deque_len _)))
    · show wpAny _ _ (do retInt (← Builtin.Deque.size (.ref a))) _ _ s
      unfold Builtin.Deque.size
      refine wpAny_bind (wpAny_bind (wpAny_fieldsOf ha rfl (wpAny_pure ?_)))
      refine wpAny_bind (wpAny_mkInt (wpAny_pure ⟨_, rfl, ?_⟩))
      refine wpAny_bind (wpAny_holding (wpAny_pure ?_))
      refine wpAny_bind (wpAny_letGo ?_)
      show wpAny _ _ (if ((0 : Nat) : Int) < 0 then _ else _) _ _ _
      rw [if_neg (by omega)]
      show wpAny _ _ (if ((0 : Nat) : Int) ≥ 2 ^ 63 then _ else _) _ _ _
      rw [if_neg (by omega)]
      exact wpAny_bind (wpAny_mkInt (wpAny_pure ⟨_, rfl, rfl, h⟩))
  have key : wpAny (model prog w) A (runValue (.builtin "len" ⟨[.ref a], []⟩)) (fun r s' => r = .int 0 (s.toks + 1) ∧ Q false s') E s := by
    refine wpAny_runValue (codeAny_builtin entry_len ?_)
    rw [Around.under_plainId plain_len _]
    exact wpAny_mono key0 (fun fin s' h' => by obtain ⟨r, rfl, hq⟩ := h'; exact hq) fun _ _ e => e
  unfold truthy
  first
    | refine wpAny_bind (wpAny_callSpecial?_none (name := Str.ofString "__bool__") hT noBool_deque ?_)
    | refine wpAny_bind (wpAny_pure (wpAny_bind (wpAny_callSpecial?_none (name := Str.ofString "__bool__") hT noBool_deque ?_)))
  first
    | refine wpAny_bind (wpAny_specialOf (name := Str.ofString "__len__") hT slot_deque_len.lookup ?_)
    | refine wpAny_bind (wpAny_pure (wpAny_bind (wpAny_specialOf (name := Str.ofString "__len__") hT slot_deque_len.lookup ?_)))
  first
    | exact wpAny_bind (wpAny_mono key (fun r s' h' => by obtain ⟨rfl, hq⟩ := h'; exact wpAny_pure hq) fun _ _ e => e)
    | exact wpAny_bind (wpAny_pure (wpAny_bind (wpAny_mono key (fun r s' h' => by obtain ⟨rfl, hq⟩ := h'; exact wpAny_pure hq) fun _ _ e => e)))
end
section
variable {B : Shared} {g : Heap} {env : Env} {vals vals' : Vals} {s : Shared} {news news' : News'} {A : Around} {E : Value → Shared → Prop} {prog : Program} {w : World}
theorem r_deque {Q : Value → Shared → Prop} (D : St B g env vals s news) (k : ∀ a s', B.heap.objs.size ≤ a → St B g env vals s' ((a, dqObj) :: news) → Q (.ref a) s') : wpAny (model prog w) A (call (.type "collections.deque") []) Q E s :=
  call_deque_0 fun h' e hs => k _ _ D.up.2 ((D.made dqObj).upd (.head) hs e (Nat.le_refl _))
theorem r_truthy_deque {a : Addr} {Q : Bool → Shared → Prop} (D : St B g env vals s news) (ha : (a, dqObj) ∈ news) (k : ∀ s', St B g env vals s' news → Q false s') : wpAny (model prog w) A (truthy (.ref a)) Q E s :=
  truthy_deque (D.get ha) (k _ (D.tk1 (n := 2)))
end

end
section
/-! ## contracts that may raise: the frames below are known -/
def frs (fl : List Env) : List Addr := fl.filterMap (·.frame)
def KeptF (fl : List Env) (h h' : Heap) : Prop := ∀ b ∈ frs fl, ∀ o, h.get? b = some o → (∀ vs, o.data ≠ .fields vs) → ∃ sl, h'.get? b = some { o with slots := sl }
theorem KeptF.tail {env : Env} {fl : List Env} {h h' : Heap} (k : KeptF (env :: fl) h h') : KeptF fl h h' := fun b hb => k b (by
  unfold frs at hb ⊢
  rw [List.filterMap_cons]
  split
  · exact hb
  · exact List.mem_cons_of_mem _ hb)
theorem KeptF.frames {fl : List Env} {g h h' : Heap} (k : KeptF fl h h') (hl : h.FunFrames g fl) : h'.FunFrames g fl := by
  induction fl with
  | nil => trivial
  | cons env rest ih =>
    obtain ⟨hk, ⟨L, o, hf, hn, ho, hd⟩, hr⟩ := hl
    obtain ⟨sl, e⟩ := k L (by unfold frs; rw [List.filterMap_cons, hf]; exact List.mem_cons_self) o ho hd
    exact ⟨hk, ⟨L, _, hf, hn, e, hd⟩, ih k.tail hr⟩
theorem frames_base {fl : List Env} {g g' h : Heap} (hl : h.FunFrames g fl) (k : ∀ b ∈ frs fl, g'.get? b = none) : h.FunFrames g' fl := by
  induction fl with
  | nil => trivial
  | cons env rest ih =>
    obtain ⟨hk, ⟨L, o, hf, hn, ho, hd⟩, hr⟩ := hl
    refine ⟨hk, ⟨L, o, hf, k L (by unfold frs; rw [List.filterMap_cons, hf]; exact List.mem_cons_self), ho, hd⟩, ih hr fun b hb => k b ?_⟩
    unfold frs at hb ⊢
    rw [List.filterMap_cons, hf]; exact List.mem_cons_of_mem _ hb
def FnE (K : Frag) (prog : Program) (w : World) (n : Nat) (f : Value) (args : List Value) (own : News') (post : Result → News' → Shared → Prop) : Prop :=
  ∀ {A : Around} {s : Shared} {g : Heap} {fl : List Env} {R : Result → Shared → Prop}, Sta K g → Room A n → A.frames = some fl → s.heap.FunFrames g fl → (frs fl).Pairwise (· > ·) → Own g s own → (∀ p ∈ own, p.1 ∉ frs fl) →
    (∀ r s' own', post r own' s' → Own g s' own' → (∀ p ∈ own', p.1 ∈ own.map (·.1) ∨ s.heap.objs.size ≤ p.1) → KeptF fl s.heap s'.heap → Rest s s' → Up s s' → R r s') →
    codeAny (model prog w) A (.call f ⟨args, []⟩) R s
/-- the objects of the frames below, as they stood at B up to slots -/
structure FoAt (B : Shared) (fl : List Env) (fo : News') : Prop where
  keys : fo.map (·.1) = frs fl
  obj : ∀ p ∈ fo, (∀ vs, p.2.data ≠ .fields vs) ∧ ∃ o sl, B.heap.get? p.1 = some o ∧ p.2 = { o with slots := sl }
  env : ∀ env ∈ fl, env.scope.kind ≠ .module ∧ env.frame.isSome = true

section
variable {B : Shared} {g : Heap} {env : Env} {vals vals' : Vals} {s : Shared} {news news' : News'} {A : Around} {E : Value → Shared → Prop} {K : Frag} {prog : Program} {w : World} {n : Nat} {f : Value} {args : List Value} {fl : List Env}
theorem FoAt.frames {fo : News'} {h : Heap} (F : FoAt B fl fo) (k : ∀ b ∈ frs fl, g.get? b = none) (hm : ∀ p ∈ fo, h.get? p.1 = some p.2) : h.FunFrames g fl := by
  have hb : ∀ b ∈ frs fl, ∃ o, h.get? b = some o ∧ ∀ vs, o.data ≠ .fields vs := fun b hb => by
    rw [← F.keys] at hb
    obtain ⟨p, hp, rfl⟩ := List.mem_map.mp hb
    exact ⟨p.2, hm p hp, (F.obj p hp).1⟩
  have he := F.env
  clear F hm
  induction fl with
  | nil => trivial
  | cons env rest ih =>
    obtain ⟨h1, h2⟩ := he env List.mem_cons_self
    obtain ⟨L, hL⟩ := Option.isSome_iff_exists.mp h2
    have hf : frs (env :: rest) = L :: frs rest := by unfold frs; rw [List.filterMap_cons, hL]
    rw [hf] at k hb
    obtain ⟨o, ho, hd⟩ := hb L List.mem_cons_self
    exact ⟨h1, ⟨L, o, hL, k L List.mem_cons_self, ho, hd⟩, ih (fun b q => k b (List.mem_cons_of_mem _ q)) (fun b q => hb b (List.mem_cons_of_mem _ q)) fun e q => he e (List.mem_cons_of_mem _ q)⟩
/-- at the entry -/
theorem fo_at {s : Shared} (hf : s.heap.FunFrames g fl) : ∃ fo, FoAt s fl fo ∧ ∀ p ∈ fo, s.heap.get? p.1 = some p.2 ∧ g.get? p.1 = none := by
  induction fl with
  | nil => exact ⟨[], ⟨rfl, fun _ hp => (nomatch hp), fun _ hp => (nomatch hp)⟩, fun _ hp => nomatch hp⟩
  | cons env rest ih =>
    obtain ⟨hk, ⟨L, o, hL, hn, ho, hd⟩, hr⟩ := hf
    obtain ⟨fo, F, G⟩ := ih hr
    refine ⟨(L, o) :: fo, ⟨by unfold frs; rw [List.filterMap_cons, hL, List.map_cons, F.keys]; rfl, fun p hp => ?_, fun e he => ?_⟩, fun p hp => ?_⟩
    · rcases List.mem_cons.mp hp with rfl | hp
      · exact ⟨hd, o, o.slots, ho, rfl⟩
      · exact F.obj p hp
    · rcases List.mem_cons.mp he with rfl | he
      · exact ⟨hk, by rw [hL]; rfl⟩
      · exact F.env e he
    · rcases List.mem_cons.mp hp with rfl | hp
      · exact ⟨ho, hn⟩
      · exact G p hp
theorem St.gnone (D : St B g env vals s news) : g.get? env.locals = none := by
  obtain ⟨m, L, e⟩ := D.led
  cases q : g.get? env.locals with
  | none => rfl
  | some o => exact absurd (Heap.lt_size q) (Nat.not_lt.mpr L.fr.above)
theorem St.ns_slots {h h' : Heap} {L : Addr} {m : Str → Option Value} (hn : h.Ns L m) (k : ∀ o, h.get? L = some o → (∀ vs, o.data ≠ .fields vs) → ∃ sl, h'.get? L = some { o with slots := sl }) : h'.Ns L m := by
  obtain ⟨o, es, ep, ho, hd, r⟩ := hn
  obtain ⟨sl, hs⟩ := k o ho fun vs q => by rw [hd] at q; cases q
  exact ⟨_, es, ep, hs, hd, r⟩
theorem news_slots {h h' : Heap} {fl : List Env} (k : KeptF fl h h') : ∀ {fo : News'}, (∀ p ∈ fo, p.1 ∈ frs fl ∧ h.get? p.1 = some p.2 ∧ ∀ vs, p.2.data ≠ .fields vs) →
    ∃ fo' : News', fo'.map (·.1) = fo.map (·.1) ∧ ∀ p ∈ fo', h'.get? p.1 = some p.2 ∧ (∀ vs, p.2.data ≠ .fields vs) ∧ ∃ q ∈ fo, q.1 = p.1 ∧ ∃ sl, p.2 = { q.2 with slots := sl }
  | [], _ => ⟨[], rfl, fun _ hp => nomatch hp⟩
  | p :: r, H => by
    obtain ⟨fo', e, G⟩ := news_slots k (fo := r) fun q hq => H q (List.mem_cons_of_mem _ hq)
    obtain ⟨h1, h2, h3⟩ := H p List.mem_cons_self
    obtain ⟨sl, hs⟩ := k p.1 h1 p.2 h2 h3
    refine ⟨(p.1, { p.2 with slots := sl }) :: fo', by rw [List.map_cons, List.map_cons, e], fun q hq => ?_⟩
    rcases List.mem_cons.mp hq with rfl | hq
    · exact ⟨hs, h3, p, List.mem_cons_self, rfl, sl, rfl⟩
    · obtain ⟨a, b, q', c, d⟩ := G q hq
      exact ⟨a, b, q', List.mem_cons_of_mem _ c, d⟩
theorem useEc {pre own post fo : News'} {P : Result → News' → Shared → Prop} {R : Result → Shared → Prop} (C : FnE K prog w n f args own P) (S : Sta K g) (hA : Room A n) (hfm : env.frame = some env.locals) (hst : A.frames = some (env :: fl)) (F : FoAt B fl fo) (hlo : ∀ b ∈ frs fl, b < env.locals) (D : St B g env vals s (pre ++ (own ++ (post ++ fo))))
    (hP : ∀ r own' s', P r own' s' → own'.map (·.1) = own.map (·.1))
    (k : ∀ r own' fo' s', P r own' s' → FoAt B fl fo' → St B g env vals s' (pre ++ (own' ++ (post ++ fo'))) → R r s') : codeAny (model prog w) A (.call f ⟨args, []⟩) R s := by
  have hs : own.Sublist (pre ++ (own ++ (post ++ fo))) := (List.sublist_append_left own _).trans (List.sublist_append_right pre _)
  obtain ⟨m, L, e⟩ := D.led
  have ho := L.ord
  rw [List.map_append, List.map_append, List.map_append, List.pairwise_append, List.pairwise_append, List.pairwise_append] at ho
  obtain ⟨o1, ⟨o2, ⟨o3, o3', o3''⟩, o4⟩, o5⟩ := ho
  have hmf : ∀ p ∈ fo, p ∈ pre ++ (own ++ (post ++ fo)) := fun p hp => List.mem_append_right _ (List.mem_append_right _ (List.mem_append_right _ hp))
  have hfg : ∀ b ∈ frs fl, g.get? b = none := fun b hb => by
    rw [← F.keys] at hb
    obtain ⟨p, hp, rfl⟩ := List.mem_map.mp hb
    exact (L.nw p (hmf p hp)).2.2
  have hff : s.heap.FunFrames g fl := F.frames hfg fun p hp => (L.nw p (hmf p hp)).1
  let hid := own.map (·.1) ++ (env.locals :: frs fl)
  have hg : ∀ b o, g.get? b = some o → b ∉ hid := fun b o q z => by
    rcases List.mem_append.mp z with z | z
    · obtain ⟨p, hp, rfl⟩ := List.mem_map.mp z
      rw [(L.nw p (hs.subset hp)).2.2] at q; cases q
    · rcases List.mem_cons.mp z with rfl | z
      · rw [D.gnone] at q; cases q
      · rw [hfg b z] at q; cases q
  have S' : Sta K (hideAll s.heap hid) := S.keeps fun b o q => hideAll_get _ (L.fr.keep b o q) (hg b o q)
  have hf : s.heap.FunFrames (hideAll s.heap hid) (env :: fl) :=
    Heap.FunFrames.cons (by rw [D.kind]; decide) hfm L.fr.ns (hideAll_none _ (List.mem_append_right _ List.mem_cons_self)) (frames_base hff fun b hb => hideAll_none _ (List.mem_append_right _ (List.mem_cons_of_mem _ hb)))
  have O' : Own (hideAll s.heap hid) s own := ⟨fun b o q => of_hideAll _ q, Nat.le_of_eq (hideAll_size _ _), o2, fun p hp => ⟨(L.nw p (hs.subset hp)).1, hideAll_none _ (List.mem_append_left _ (List.mem_map_of_mem hp))⟩, D.tok⟩
  have hfrs : frs (env :: fl) = env.locals :: frs fl := by unfold frs; rw [List.filterMap_cons, hfm]
  have hord : (frs (env :: fl)).Pairwise (· > ·) := by
    rw [hfrs, List.pairwise_cons]
    exact ⟨hlo, F.keys ▸ o3'⟩
  refine C S' hA hst hf hord O' (fun p hp z => ?_) fun r s' own' hp O hnew kf rs u => ?_
  · rw [hfrs] at z
    rcases List.mem_cons.mp z with z | z
    · exact (L.nw p (hs.subset hp)).2.1 z
    · rw [← F.keys] at z
      exact absurd (o4 _ (List.mem_map_of_mem hp) _ (List.mem_append_right _ z)) (Nat.lt_irrefl _)
  obtain ⟨fo', ek, G⟩ := news_slots kf.tail (fo := fo) fun p hp => ⟨F.keys ▸ List.mem_map_of_mem hp, (L.nw p (hmf p hp)).1, (F.obj p hp).1⟩
  refine k r own' fo' s' hp ⟨by rw [ek, F.keys], fun p hp => ?_, F.env⟩ ⟨⟨m, ⟨⟨?_, fun b o q => O.keep _ _ (hideAll_get _ (L.fr.keep b o q) (hg b o q)), L.fr.above⟩, fun p hq => ?_, ?_⟩, e⟩, D.loc, D.nd, D.kind, Nat.le_trans D.tok u.1, D.rest.trans rs, D.up.trans u⟩
  · obtain ⟨g1, g2, q, hq, e1, sl, e2⟩ := G p hp
    obtain ⟨_, o, sl', h1, h2⟩ := F.obj q hq
    exact ⟨g2, o, sl, e1 ▸ h1, by rw [e2, h2]⟩
  · exact St.ns_slots L.fr.ns fun o h1 h2 => kf env.locals (by rw [hfrs]; exact List.mem_cons_self) o h1 h2
  · have old : ∀ p, p ∈ pre ∨ p ∈ post → s'.heap.get? p.1 = some p.2 ∧ p.1 ≠ env.locals ∧ g.get? p.1 = none := fun p hp => by
      have hm : p ∈ pre ++ (own ++ (post ++ fo)) := hp.elim (List.mem_append_left _) fun z => List.mem_append_right _ (List.mem_append_right _ (List.mem_append_left _ z))
      have z := L.nw p hm
      refine ⟨O.keep _ _ (hideAll_get _ z.1 fun q => ?_), z.2⟩
      rcases List.mem_append.mp q with q | q
      · rcases hp with hp | hp
        · exact absurd (o5 _ (List.mem_map_of_mem hp) _ (List.mem_append_left _ q)) (Nat.lt_irrefl _)
        · exact absurd (o4 _ q _ (List.mem_append_left _ (List.mem_map_of_mem hp))) (Nat.lt_irrefl _)
      · rcases List.mem_cons.mp q with q | q
        · exact z.2.1 q
        · rw [← F.keys] at q
          rcases hp with hp | hp
          · exact absurd (o5 _ (List.mem_map_of_mem hp) _ (List.mem_append_right _ (List.mem_append_right _ q))) (Nat.lt_irrefl _)
          · exact absurd (o3'' _ (List.mem_map_of_mem hp) _ q) (Nat.lt_irrefl _)
    rcases List.mem_append.mp hq with hq | hq
    · exact old p (.inl hq)
    · rcases List.mem_append.mp hq with hq | hq
      · have hk : p.1 ∈ own.map (·.1) := by rw [← hP r own' _ hp]; exact List.mem_map_of_mem hq
        obtain ⟨q, hq2, e2⟩ := List.mem_map.mp hk
        have z := L.nw q (hs.subset hq2)
        rw [e2] at z
        exact ⟨(O.at_ p hq).1, z.2⟩
      · rcases List.mem_append.mp hq with hq | hq
        · exact old p (.inr hq)
        · obtain ⟨g1, _, q, hq, e1, _⟩ := G p hq
          have z := L.nw q (hmf q hq)
          rw [e1] at z
          exact ⟨g1, z.2⟩
  · have := L.ord
    rw [List.map_append, List.map_append, List.map_append] at this ⊢
    rw [hP r own' _ hp, ek]; exact this
theorem useEn {news fo : News'} {P : Result → News' → Shared → Prop} {R : Result → Shared → Prop} (C : FnE K prog w n f args [] P) (S : Sta K g) (hA : Room A n) (hfm : env.frame = some env.locals) (hst : A.frames = some (env :: fl)) (F : FoAt B fl fo) (hlo : ∀ b ∈ frs fl, b < env.locals) (D : St B g env vals s (news ++ fo))
    (k : ∀ r own' fo' s', P r own' s' → (∀ p ∈ own', B.heap.objs.size ≤ p.1) → FoAt B fl fo' → St B g env vals s' (own' ++ (news ++ fo')) → R r s') : codeAny (model prog w) A (.call f ⟨args, []⟩) R s := by
  obtain ⟨m, L, e⟩ := D.led
  have ho := L.ord
  rw [List.map_append, List.pairwise_append] at ho
  obtain ⟨o3, o3', o3''⟩ := ho
  have hmf : ∀ p ∈ fo, p ∈ news ++ fo := fun p hp => List.mem_append_right _ hp
  have hfg : ∀ b ∈ frs fl, g.get? b = none := fun b hb => by
    rw [← F.keys] at hb
    obtain ⟨p, hp, rfl⟩ := List.mem_map.mp hb
    exact (L.nw p (hmf p hp)).2.2
  have hff : s.heap.FunFrames g fl := F.frames hfg fun p hp => (L.nw p (hmf p hp)).1
  let hid := env.locals :: frs fl
  have hg : ∀ b o, g.get? b = some o → b ∉ hid := fun b o q z => by
    rcases List.mem_cons.mp z with rfl | z
    · rw [D.gnone] at q; cases q
    · rw [hfg b z] at q; cases q
  have S' : Sta K (hideAll s.heap hid) := S.keeps fun b o q => hideAll_get _ (L.fr.keep b o q) (hg b o q)
  have hf : s.heap.FunFrames (hideAll s.heap hid) (env :: fl) :=
    Heap.FunFrames.cons (by rw [D.kind]; decide) hfm L.fr.ns (hideAll_none _ List.mem_cons_self) (frames_base hff fun b hb => hideAll_none _ (List.mem_cons_of_mem _ hb))
  have O' : Own (hideAll s.heap hid) s [] := ⟨fun b o q => of_hideAll _ q, Nat.le_of_eq (hideAll_size _ _), .nil, fun p hp => (nomatch hp), D.tok⟩
  have hfrs : frs (env :: fl) = env.locals :: frs fl := by unfold frs; rw [List.filterMap_cons, hfm]
  have hord : (frs (env :: fl)).Pairwise (· > ·) := by
    rw [hfrs, List.pairwise_cons]
    exact ⟨hlo, F.keys ▸ o3'⟩
  refine C S' hA hst hf hord O' (fun p hp => (nomatch hp)) fun r s' own' hp O hnew kf rs u => ?_
  obtain ⟨fo', ek, G⟩ := news_slots kf.tail (fo := fo) fun p hp => ⟨F.keys ▸ List.mem_map_of_mem hp, (L.nw p (hmf p hp)).1, (F.obj p hp).1⟩
  have hnew' : ∀ p ∈ own', s.heap.objs.size ≤ p.1 := fun p hp => (hnew p hp).resolve_left (by simp)
  refine k r own' fo' s' hp (fun p hp => Nat.le_trans D.up.2 (hnew' p hp)) ⟨by rw [ek, F.keys], fun p hp => ?_, F.env⟩ ⟨⟨m, ⟨⟨?_, fun b o q => O.keep _ _ (hideAll_get _ (L.fr.keep b o q) (hg b o q)), L.fr.above⟩, fun p hq => ?_, ?_⟩, e⟩, D.loc, D.nd, D.kind, Nat.le_trans D.tok u.1, D.rest.trans rs, D.up.trans u⟩
  · obtain ⟨g1, g2, q, hq, e1, sl, e2⟩ := G p hp
    obtain ⟨_, o, sl', h1, h2⟩ := F.obj q hq
    exact ⟨g2, o, sl, e1 ▸ h1, by rw [e2, h2]⟩
  · exact St.ns_slots L.fr.ns fun o h1 h2 => kf env.locals (by rw [hfrs]; exact List.mem_cons_self) o h1 h2
  · rcases List.mem_append.mp hq with hq | hq
    · have hge := hnew' p hq
      refine ⟨(O.at_ p hq).1, fun q => ?_, ?_⟩
      · have := L.fr.ns.lt; rw [← q] at this; exact absurd this (Nat.not_lt.mpr hge)
      · cases q : g.get? p.1 with
        | none => rfl
        | some o => exact absurd (Heap.lt_size (L.fr.keep _ _ q)) (Nat.not_lt.mpr hge)
    · rcases List.mem_append.mp hq with hq | hq
      · have z := L.nw p (List.mem_append_left _ hq)
        refine ⟨O.keep _ _ (hideAll_get _ z.1 fun q => ?_), z.2⟩
        rcases List.mem_cons.mp q with q | q
        · exact z.2.1 q
        · rw [← F.keys] at q
          exact absurd (o3'' _ (List.mem_map_of_mem hq) _ q) (Nat.lt_irrefl _)
      · obtain ⟨g1, _, q, hq, e1, _⟩ := G p hq
        have z := L.nw q (hmf q hq)
        rw [e1] at z
        exact ⟨g1, z.2⟩
  · have hL := L.ord
    rw [List.map_append] at hL
    rw [List.map_append, List.map_append, ek]
    refine List.pairwise_append.mpr ⟨O.ord, hL, fun a ha b hb => ?_⟩
    obtain ⟨p, hp, rfl⟩ := List.mem_map.mp ha
    have : b ∈ (news ++ fo).map (·.1) := by rw [List.map_append]; exact hb
    obtain ⟨q, hq, rfl⟩ := List.mem_map.mp this
    exact Nat.lt_of_lt_of_le (Heap.lt_size (L.nw q hq).1) (hnew' p hp)
end
section
variable {prog : Program} {w : World} {A : Around} {R : Result → Shared → Prop} {s : Shared} {g : Heap} {own : News'} {K : Frag} {n : Nat}
  {name qual : Str} {params : Arguments} {body : List Stmt} {scope : Scope} {dV kV doc pm cdv ct oc : Value} {an od : Option Addr} {osl : Array (Option Value)} {f : Addr} {args : Args} {binds : List (Str × Value)}
  {gl : List (Str × Value)} {more : List Str}
theorem enterF (S : Sta K g) (O : Own g s own) (hroom : Room A (n + 1))
    (ho : K.lookup f = some ⟨oc, od, .func (fnX name qual params body scope [] dV kV doc pm an cdv ct), osl⟩) (hcd : codeIn K cdv qual = true)
    (hbind : BindsTo s (fnX name qual params body scope [] dV kV doc pm an cdv ct) args binds)
    (hok : bodyOk scope (binds.map (·.1)) more = true) (hgl : gloOk K scope gl = true)
    (h : ∀ env A' s1, Room A' n → env.locals = s.heap.objs.size → env.frame = some env.locals → (∀ fl, A.frames = some fl → A'.frames = some (env :: fl)) → Glo K env gl → St s g env (startVals binds more) s1 own →
      wpAny (model prog w) A' (execs body env) (fun fl s' => R (.ok (.ret (retOf fl))) s') (fun e s' => wpAny (model prog w) A' (leaving env e) (fun _ s'' => R (.error e) s'') (fun e' s'' => R (.error e') s'') s') s1) :
    codeAny (model prog w) A (.call (.ref f) args) R s := by
  unfold bodyOk at hok
  simp only [Bool.and_eq_true, List.all_eq_true, beq_iff_eq, Bool.not_eq_true', decide_eq_true_eq, bne_iff_ne, ne_eq] at hok
  obtain ⟨⟨⟨⟨⟨h1, h2⟩, h3⟩, h4⟩, h5⟩, h6⟩ := hok
  refine codeAny_call_def (by have := hroom.dp; omega) (O.keep _ _ (S.X _ _ ho)) rfl (S.lim.keeps O.keep) ((codeRec_of S.X hcd).keeps O.keep) rfl hbind h3
    (fun x hx => (h1 x.1 (List.mem_append_left _ (List.mem_map_of_mem hx))).1) (fun h₁ hns hk => ?_) h4 h5 h6
  refine wpAny_mono (h (callEnv (fnX name qual params body scope [] dV kV doc pm an cdv ct) s.heap.objs.size f) _ _ hroom.deeper rfl rfl (fun fl hfl => Around.frames_deeper hfl) ⟨rfl, rfl, fun p hp => ?_⟩ ?_) (fun fl s' x => ?_) fun _ _ x => x
  · unfold gloOk at hgl
    have := List.all_eq_true.mp hgl p hp
    simp only [Bool.and_eq_true, beq_iff_eq, Bool.not_eq_true'] at this
    obtain ⟨⟨a, b⟩, c⟩ := this
    refine ⟨a, b, ?_⟩
    split at c
    · rename_i v e; exact .inl (by rw [e, of_decide_eq_true c])
    · rename_i e
      simp only [Bool.and_eq_true, decide_eq_true_eq, Bool.not_eq_true', beq_eq_false_iff_ne] at c
      exact .inr ⟨e, c.1, c.2⟩
    · cases c
  · have hne : ∀ p ∈ own, p.1 ≠ s.heap.objs.size := fun p hp => Nat.ne_of_lt (Heap.lt_size (O.at_ p hp).1)
    refine ⟨⟨_, ⟨⟨hns, fun b o e => hk b o (O.keep b o e), O.size⟩, fun p hp => ⟨hk _ _ (O.at_ p hp).1, hne p hp, (O.at_ p hp).2⟩, O.ord⟩, ?_⟩, ?_, ?_, h6, ?_, ?_, ?_⟩
    · intro p hp
      have nd' : (binds.map (·.1)).Nodup := (List.nodup_append.mp h2).1
      rcases List.mem_append.mp hp with hp | hp
      · obtain ⟨q, hq, rfl⟩ := List.mem_map.mp hp
        exact lookup_rev nd' hq
      · obtain ⟨q, hq, rfl⟩ := List.mem_map.mp hp
        exact lookup_rev_none fun z => (List.nodup_append.mp h2).2.2 _ z _ hq rfl
    · intro p hp
      refine h1 p.1 ?_
      rcases List.mem_append.mp hp with hp | hp
      · obtain ⟨q, hq, rfl⟩ := List.mem_map.mp hp
        exact List.mem_append_left _ (List.mem_map_of_mem hq)
      · obtain ⟨q, hq, rfl⟩ := List.mem_map.mp hp
        exact List.mem_append_right _ hq
    · have : (startVals binds more).map (·.1) = binds.map (·.1) ++ more := by
        unfold startVals; rw [List.map_append, List.map_map, List.map_map]; congr 1; exact List.map_id _
      rw [this]; exact h2
    · have := O.tok; show 1 ≤ s.toks + _; omega
    · exact ⟨rfl, rfl, rfl⟩
    · refine ⟨Nat.le_add_right _ _, ?_⟩
      show s.heap.objs.size ≤ h₁.objs.size
      exact Nat.le_of_lt hns.lt
  · cases fl <;> exact x
end
section
variable {B : Shared} {g : Heap} {env : Env} {vals vals' : Vals} {s : Shared} {own own' : News'} {A : Around} {E : Value → Shared → Prop} {K : Frag} {prog : Program} {w : World} {n : Nat} {fl : List Env} {R : Result → Shared → Prop}
/-- the base that the walk of a raising def is made over: all that the caller does not own -/
abbrev base2 (s : Shared) (own : News') : Heap := hideAll s.heap (own.map (·.1))
theorem Own.base2 (O : Own g s own) : Own (base2 s own) s own := ⟨fun b o q => of_hideAll _ q, Nat.le_of_eq (hideAll_size _ _), O.ord, fun p hp => ⟨(O.at_ p hp).1, hideAll_none _ (List.mem_map_of_mem hp)⟩, O.tok⟩
theorem Own.to2 (O : Own g s own) : ∀ b o, g.get? b = some o → (Mine.base2 s own).get? b = some o := fun b o q => hideAll_get _ (O.keep b o q) fun z => by
  obtain ⟨p, hp, rfl⟩ := List.mem_map.mp z
  rw [(O.at_ p hp).2] at q; cases q
theorem Own.sta2 (O : Own g s own) (S : Sta K g) : Sta K (Mine.base2 s own) := S.keeps O.to2
theorem St.ends (D : St B (base2 B own) env vals s own') (O : Own g B own) (hk : own'.map (·.1) = own.map (·.1)) : Own g s own' := by
  obtain ⟨m, L, e⟩ := D.led
  refine ⟨fun b o q => L.fr.keep _ _ (O.to2 b o q), Nat.le_trans O.size D.up.2, L.ord, fun p hp => ⟨(L.nw p hp).1, ?_⟩, D.tok⟩
  have : p.1 ∈ own.map (·.1) := by rw [← hk]; exact List.mem_map_of_mem hp
  obtain ⟨q, hq, e2⟩ := List.mem_map.mp this
  rw [← e2]; exact (O.at_ q hq).2
theorem St.keptF (D : St B (base2 B own) env vals s own') (hno : ∀ p ∈ own, p.1 ∉ frs fl) : ∀ b ∈ frs fl, ∀ o, B.heap.get? b = some o → s.heap.get? b = some o := fun b hb o ho =>
  D.keep b o (hideAll_get _ ho fun z => by
    obtain ⟨p, hp, rfl⟩ := List.mem_map.mp z
    exact hno p hp hb)
theorem St.leaveE (D : St B (base2 B own) env vals s own') (O : Own g B own) (hno : ∀ p ∈ own, p.1 ∉ frs fl) (hk : own'.map (·.1) = own.map (·.1)) {v : Value} {post : Result → News' → Shared → Prop} (hp : post (.ok (.ret v)) own' s)
    (k : ∀ r s' own', post r own' s' → Own g s' own' → (∀ p ∈ own', p.1 ∈ own.map (·.1) ∨ B.heap.objs.size ≤ p.1) → KeptF fl B.heap s'.heap → Rest B s' → Up B s' → R r s') : R (.ok (.ret v)) s :=
  k _ s own' hp (D.ends O hk) (fun p hp => .inl (by rw [← hk]; exact List.mem_map_of_mem hp)) (fun b hb o ho _ => ⟨o.slots, D.keptF hno b hb o ho⟩) D.rest D.up
theorem St.raiseE (D : St B (base2 B own) env vals s own') (O : Own g B own) (hno : ∀ p ∈ own, p.1 ∉ frs fl) (hk : own'.map (·.1) = own.map (·.1)) (hfm : env.frame = some env.locals) (hfr : A.frames = some (env :: fl)) (hff : B.heap.FunFrames g fl) {h1 : Heap} {e : Addr} {cls : String} {args : List Value} (hx : Heap.MadeExc s.heap h1 e cls args)
    {post : Result → News' → Shared → Prop} (hp : ∀ s, (∃ ob, s.heap.get? e = some ob ∧ ob.cls = .type cls) → post (.error (.ref e)) own' s)
    (k : ∀ r s' own', post r own' s' → Own g s' own' → (∀ p ∈ own', p.1 ∈ own.map (·.1) ∨ B.heap.objs.size ≤ p.1) → KeptF fl B.heap s'.heap → Rest B s' → Up B s' → R r s') :
    wpAny (model prog w) A (leaving env (.ref e)) (fun _ s'' => Up B s'' → R (.error (.ref e)) s'') (fun e' s'' => Up B s'' → R (.error e') s'') { s with heap := h1 } := by
  obtain ⟨m, L, ev⟩ := D.led
  have OE := D.ends O hk
  have hff1 : s.heap.FunFrames g fl := KeptF.frames (fun b hb o ho _ => ⟨o.slots, D.keptF hno b hb o ho⟩) hff
  have hfrs : frs (env :: fl) = env.locals :: frs fl := by unfold frs; rw [List.filterMap_cons, hfm]
  have hgl : g.get? env.locals = none := by
    cases q : g.get? env.locals with
    | none => rfl
    | some o => exact absurd (Heap.lt_size (O.to2 _ _ q)) (Nat.not_lt.mpr L.fr.above)
  have hF : s.heap.FunFrames (hideAll s.heap (env.locals :: frs fl)) (env :: fl) :=
    Heap.FunFrames.cons (by rw [D.kind]; decide) hfm L.fr.ns (hideAll_none _ List.mem_cons_self) (frames_base hff1 fun b hb => hideAll_none _ (List.mem_cons_of_mem _ hb))
  refine wpAny_leaves_madeW hfr hfm (fun b o q => of_hideAll _ q) hF hx.of fun h' t x1 x2 x3 x4 u => ?_
  have hst : ∀ b o, s.heap.get? b = some o → b ≠ env.locals → b ∉ frs fl → h'.get? b = some o := fun b o q1 q2 q3 => x1.1 _ _ (hideAll_get _ q1 fun z => by
    rcases List.mem_cons.mp z with z | z
    · exact q2 z
    · exact q3 z)
  refine k _ _ own' (hp _ (by
    obtain ⟨ob, ho, hc⟩ := x1.there
    exact ⟨ob, ho, hc⟩)) ⟨fun b o q => hst b o (OE.keep b o q) (fun z => by rw [z, hgl] at q; cases q) (fun z => by rw [(hff.mem z).1] at q; cases q), Nat.le_trans O.size u.2, OE.ord, fun p hp => ⟨hst _ _ (OE.at_ p hp).1 (L.nw p hp).2.1 fun z => ?_, (OE.at_ p hp).2⟩, Nat.le_trans D.tok (Nat.le_refl _)⟩
    (fun p hp => .inl (by rw [← hk]; exact List.mem_map_of_mem hp)) (fun b hb o ho hd => ?_) ⟨D.rest.1, D.rest.2.1, D.rest.2.2⟩ u
  · have : p.1 ∈ own.map (·.1) := by rw [← hk]; exact List.mem_map_of_mem hp
    obtain ⟨q, hq, e2⟩ := List.mem_map.mp this
    exact hno q hq (e2 ▸ z)
  · exact x4 b o (hx.keeps _ _ (D.keptF hno b hb o ho)) hd
end
section
variable {B : Shared} {g : Heap} {env : Env} {vals vals' : Vals} {s : Shared} {news news' own' fo : News'} {A : Around} {fl : List Env} {R : Result → Shared → Prop}
theorem Own.withFo (O : Own g s []) (F : FoAt s fl fo) (G : ∀ p ∈ fo, s.heap.get? p.1 = some p.2 ∧ g.get? p.1 = none) (hord : (frs fl).Pairwise (· > ·)) : Own g s fo := ⟨O.keep, O.size, F.keys ▸ hord, G, O.tok⟩
theorem FoAt.kept (F : FoAt B fl fo) {h : Heap} (hm : ∀ p ∈ fo, h.get? p.1 = some p.2) : KeptF fl B.heap h := fun b hb o ho _ => by
  rw [← F.keys] at hb
  obtain ⟨p, hp, rfl⟩ := List.mem_map.mp hb
  obtain ⟨_, o', sl, h1, h2⟩ := F.obj p hp
  rw [ho] at h1; cases h1
  exact ⟨sl, h2 ▸ hm p hp⟩
theorem St.leaveF (D : St B g env vals s (news ++ fo)) (F : FoAt B fl fo) (hn : own'.Sublist news) (hB : ∀ p ∈ own', B.heap.objs.size ≤ p.1) (hg : g.objs.size ≤ B.heap.objs.size) {v : Value} {post : Result → News' → Shared → Prop} (hp : post (.ok (.ret v)) own' s)
    (k : ∀ r s' own', post r own' s' → Own g s' own' → (∀ p ∈ own', p.1 ∈ ([] : News').map (·.1) ∨ B.heap.objs.size ≤ p.1) → KeptF fl B.heap s'.heap → Rest B s' → Up B s' → R r s') : R (.ok (.ret v)) s := by
  have KF : KeptF fl B.heap s.heap := F.kept fun p hp => D.get (List.mem_append_right _ hp)
  obtain ⟨m, L, e⟩ := (D.drop (hn.trans (List.sublist_append_left _ _))).led
  exact k _ s own' hp ⟨L.fr.keep, Nat.le_trans hg D.up.2, L.ord, fun p hp => ⟨(L.nw p hp).1, (L.nw p hp).2.2⟩, D.tok⟩ (fun p hp => .inr (hB p hp)) KF D.rest D.up
end

end
section
/-! ## calls with keywords; classes made through a __new__ of the text's own -/
theorem Room.make {A : Around} {n : Nat} (h : Room A (n + 1)) (C : Addr) (vs : List Value) (kw : List (Str × Value)) : Room (A.under (.builtin "type.__call__" ⟨.ref C :: vs, kw⟩)) n :=
  ⟨h.hd, by have e : (A.under (.builtin "type.__call__" ⟨.ref C :: vs, kw⟩)).depth = A.depth + 1 := rfl
            have := h.dp; omega, by have e : (A.under (.builtin "type.__call__" ⟨.ref C :: vs, kw⟩)).units = A.units + 1 := rfl
                                    have := h.un; omega⟩
def FnK (K : Frag) (prog : Program) (w : World) (n : Nat) (f : Value) (args : Args) (own : News') (post : Value → News' → Prop) : Prop :=
  ∀ {A : Around} {s : Shared} {g : Heap} {R : Result → Shared → Prop}, Sta K g → Room A n → Own g s own →
    (∀ v s' own', post v own' → Own g s' own' → (∀ p ∈ own', p.1 ∈ own.map (·.1) ∨ s.heap.objs.size ≤ p.1) → Rest s s' → Up s s' → R (.ok (.ret v)) s') →
    codeAny (model prog w) A (.call f args) R s
section
variable {B : Shared} {g : Heap} {env : Env} {vals vals' : Vals} {s : Shared} {news news' : News'} {A : Around} {E : Value → Shared → Prop} {K : Frag} {prog : Program} {w : World} {n : Nat} {f : Value} {args : Args} {C : Addr}
/-- a call that may make new objects and turns the newest ones -/
theorem useG {own post : News'} {P : Value → News' → Prop} {R : Result → Shared → Prop} (Cc : FnK K prog w n f args own P) (S : Sta K g) (hA : Room A n) (D : St B g env vals s (own ++ post))
    (k : ∀ v own' s', P v own' → (∀ p ∈ own', p.1 ∈ own.map (·.1) ∨ B.heap.objs.size ≤ p.1) → St B g env vals s' (own' ++ post) → R (.ok (.ret v)) s') : codeAny (model prog w) A (.call f args) R s := by
  have hs : own.Sublist (own ++ post) := List.sublist_append_left own post
  obtain ⟨m, L, e⟩ := D.led
  have ho := L.ord
  rw [List.map_append, List.pairwise_append] at ho
  obtain ⟨o2, o3, o4⟩ := ho
  refine Cc (D.sta S hs) hA (D.own hs) fun v s' own' hp O hnew r u => k v own' s' hp (fun p hp => (hnew p hp).imp id fun z => Nat.le_trans D.up.2 z) (D.after (own := own) (fun p hp => hs.subset hp) O r u (fun p hq => ?_) ?_)
  · rcases List.mem_append.mp hq with hq | hq
    · rcases hnew p hq with hk | hge
      · obtain ⟨q, hq2, e2⟩ := List.mem_map.mp hk
        have z := L.nw q (hs.subset hq2)
        rw [e2] at z
        exact .inl ⟨hq, z.2.2, z.2.1⟩
      · refine .inl ⟨hq, ?_, fun q => ?_⟩
        · cases q : g.get? p.1 with
          | none => rfl
          | some o => exact absurd (Heap.lt_size (L.fr.keep _ _ q)) (Nat.not_lt.mpr hge)
        · have := L.fr.ns.lt; rw [← q] at this; exact absurd this (Nat.not_lt.mpr hge)
    · refine .inr ⟨List.mem_append_right _ hq, fun z => ?_⟩
      exact absurd (o4 _ z _ (List.mem_map_of_mem hq)) (Nat.lt_irrefl _)
  · rw [List.map_append]
    refine List.pairwise_append.mpr ⟨O.ord, o3, fun a ha b hb => ?_⟩
    obtain ⟨p, hp, rfl⟩ := List.mem_map.mp ha
    rcases hnew p hp with hk | hge
    · exact o4 _ hk _ hb
    · obtain ⟨q, hq, rfl⟩ := List.mem_map.mp hb
      exact Nat.lt_of_lt_of_le (Heap.lt_size (L.nw q (List.mem_append_right _ hq)).1) hge
/-- an instance of a class whose makers are object's own -/
theorem r_makeK {rest : List Value} {kw : List (Str × Value)} {fI : Addr} {Q : Value → Shared → Prop} (S : Sta K g) (D : St B g env vals s news) (hm : makesIn K C = true) (hi : findIn K (.ref C) "__init__" = some (some (.ref fI))) (hf : typeIn K (.ref fI) = some (.type "function"))
    (h : ∀ x dx s', B.heap.objs.size ≤ dx → B.heap.objs.size ≤ x → St B g env vals s' (Ob x C dx :: (Di dx [] 0) :: news) →
      codeAny (model prog w) (A.under (.builtin "type.__call__" ⟨.ref C :: rest, kw⟩)) (.call (.ref fI) ⟨.ref x :: rest, kw⟩) (fun r s' => match r with | .ok (.ret v) => v = .none ∧ Q (.ref x) s' | _ => False) s') :
    wpAny (model prog w) A (call (.ref C) rest kw) Q E s := by
  obtain ⟨hh, gg, d, t, os⟩ := s
  refine wpAny_call (make_core (makes_of (S.X.keeps D.keep) hm) (looks_findIn (S.X.keeps D.keep) hi) (fun self => bind_fn (S.X.keeps D.keep) self hf) (.inl rfl) ?_)
  have D1 := D.made emptyDict
  have D2 := D1.made (instObj C hh.objs.size)
  have e2 : (hh.push emptyDict).objs.size = hh.objs.size + 1 := Heap.size_push ..
  refine codeAny_mono (h (hh.objs.size + 1) hh.objs.size _ D.up.2 (Nat.le_succ_of_le D.up.2) (e2 ▸ D2)) fun r s' q => ?_
  rcases r with e | (v | _ | _ | _) <;> first | exact q.elim | exact q
end
section
variable {prog : Program} {w : World} {A : Around} {K : Frag} {C : Addr} {R : Result → Shared → Prop} {h : Heap} {g : Array GenState} {d : Drawn} {t : Nat} {os : OsState}
theorem new_py {oc : Value} {od : Option Addr} {cd : ClassData} {sl : Array (Option Value)} (X : K.In h) (hK : K.lookup C = some ⟨oc, od, .cls cd, sl⟩) (e1 : cd.abstract = false) (e2 : cd.hasDel = false)
    (base : Looks (model prog w) h (Bind.staticBase (.ref C)) (.type "object")) (made : Looks (model prog w) h (Bind.madeBy (.type "object")) (some "object.__new__")) (hs : mroIn K C (.type "object") = some true) (ht : instIn K (.ref C) (.type "type") = some true)
    (hq : R (.ok (.ret (.ref (h.objs.size + 1)))) ⟨(h.push emptyDict).push (instObj C h.objs.size), g, d, t, os⟩) :
    codeAny (model prog w) A (.call (.builtin "object.__new__") ⟨[.ref C], []⟩) R ⟨h, g, d, t, os⟩ := by
  have hC := X _ _ hK
  have F := PySem.F.objNew
  have top : Looks (model prog w) h (isSubtype (.ref C) (.type "object")) true := looks_mroIn X hs
  have typ : Looks (model prog w) h (isInstance (.ref C) (.type "type")) true := looks_instIn X ht
  refine codeAny_call_builtin_code (Code.quiet_builtin _ F.quiet) ?_
  simp only [checkBuiltinCall, F.kind, F.split, F.row]
  have args : Bind.checkArgs "object.__new__" ⟨.hand, "object.__new__", "__new__", .cls, []⟩ ⟨[.ref C], []⟩ = pure () := by kernel_rfl
  have here : Looks (model prog w) h (Bind.madeHere "object.__new__" (.ref C)) () := base.andThen (made.andThen (Looks.of_pure (by simp only [Option.map_some, bne_self_eq_false, Bool.false_eq_true, if_false])))
  rw [args]
  repeat (first | simp only [bne_self_eq_false, Bool.false_eq_true, if_false] | lk)
  refine codeAny_builtin F.entry ?_
  unfold Builtin.«object.__new__»
  have fin : ∀ A', wpAny (model prog w) A' (do
      let d ← if typeHasDict (.ref C) then some <$> alloc { cls := .type "dict", data := .dict #[] } else pure none
      ret (← newObj (.ref C) .plain d)) (fun fin s' => match fin with | .done f => R (.ok f) s' | .again c' => c'.quiet = true ∧ codeAny (model prog w) A c' R s') (fun e s' => R (.error e) s') ⟨h, g, d, t, os⟩ := by
    intro A'
    show wpAny _ _ ((alloc emptyDict >>= fun x => pure (some x)) >>= _) _ _ _
    refine wpAny_bind (wpAny_bind (wpAny_alloc (wpAny_pure (wpAny_bind ?_))))
    show wpAny _ _ (newObjAsIs _ _ _) _ _ _
    unfold newObjAsIs classHasDel
    refine wpAny_bind (wpAny_alloc (wpAny_bind (wpAny_bind (wpAny_load (Heap.get?_push_of_some _ (Heap.get?_push_of_some _ hC)) (wpAny_pure ?_)))))
    rw [e2]
    refine wpAny_pure (wpAny_pure ?_)
    show R _ _
    rw [Heap.size_push]
    exact hq
  repeat (first | simp only [e1, Bool.false_eq_true, if_false] | exact fin _ | lk)
end
section
variable {B : Shared} {g : Heap} {env : Env} {vals vals' : Vals} {s : Shared} {news news' : News'} {A : Around} {E : Value → Shared → Prop} {K : Frag} {prog : Program} {w : World} {n : Nat} {C : Addr}
theorem get_new {M : Unit} {p : Addr} {f : Value} {rest : List Value} {mc : Value} {expr : Bool} {Q : Value → Shared → Prop} (X : K.In s.heap) (hr : readsIn K C mc = true)
    (e : findCls K (.ref C) mc (Str.ofString "__new__") = some (.get (.builtin "staticmethod.__get__") (.ref p) .none (.ref C))) (hp : recIn K p "staticmethod" = some (f :: rest)) (hv : handedIn f = true) (h : Q f { s with toks := s.toks + 1 }) :
    wpAny (model prog w) A (getAttr (.ref C) (Str.ofString "__new__") expr) Q E s :=
  cls_bind X hr e (wpAny_call (sm_get (s := { s with toks := s.toks + 1 }) X hp (handed_on hv h)))
theorem r_makePy {oc : Value} {od : Option Addr} {cd : ClassData} {sl : Array (Option Value)} {rest rest' : List Value} {fN fI p : Addr} {mc : Value} {Q : Value → Shared → Prop} (S : Sta K g) (D : St B g env vals s news) (hA : Room A (n + 1))
    (hK : K.lookup C = some ⟨oc, od, .cls cd, sl⟩) (e4 : cd.mro.isEmpty = false) (hcall : specialIn K (.ref C) "__call__" = some (some (.builtin "type.__call__"))) (htyp : instIn K (.ref C) (.type "type") = some true)
    (hmb : ∀ S, peek K S (Bind.madeBy (.ref C)) = some none) (hread : readsIn K C mc = true) (hfind : findCls K (.ref C) mc (Str.ofString "__new__") = some (.get (.builtin "staticmethod.__get__") (.ref p) .none (.ref C)))
    (hrec : recIn K p "staticmethod" = some (.ref fN :: rest')) (hself : mroIn K C (.ref C) = some true) (hi : findIn K (.ref C) "__init__" = some (some (.ref fI))) (hf : typeIn K (.ref fI) = some (.type "function"))
    (hn : FnK K prog w n (.ref fN) ⟨.ref C :: rest, []⟩ [] (fun v own => ∃ x dx, v = .ref x ∧ own = [Ob x C dx, Di dx [] 0]))
    (h : ∀ x dx s', B.heap.objs.size ≤ dx → B.heap.objs.size ≤ x → St B g env vals s' (Ob x C dx :: (Di dx [] 0) :: news) →
      codeAny (model prog w) (A.under (.builtin "type.__call__" ⟨.ref C :: rest, []⟩)) (.call (.ref fI) ⟨.ref x :: rest, []⟩) (fun r s' => match r with | .ok (.ret v) => v = .none ∧ Q (.ref x) s' | _ => False) s') :
    wpAny (model prog w) A (call (.ref C) rest []) Q E s := by
  have X := S.X.keeps D.keep
  have hA' := hA.make C rest []
  have hC := X _ _ hK
  have Ccall : Looks (model prog w) s.heap (specialOf (.ref C) "__call__") (some (.builtin "type.__call__")) := looks_specialIn X hcall
  have typ : Looks (model prog w) s.heap (isInstance (.ref C) (.type "type")) true := looks_instIn X htyp
  have made : Looks (model prog w) s.heap (Bind.madeBy (.ref C)) none := Looks.of_peek X (hmb _)
  obtain ⟨hh, gg, d, t, os⟩ := s
  refine wpAny_call (codeAny_of_tree ?_)
  show wpAny _ _ (callAny (.ref C) _) _ _ _
  refine nd_load hC ?_
  show wpAny _ _ (callAny.viaDunder (.ref C) _) _ _ _
  unfold callAny.viaDunder
  refine wpAny_bind (Ccall.at ?_)
  dsimp only
  rw [tc_bind]
  refine wpAny_bind (wpAny_pure (wpAny_bind (wpAny_pure ?_)))
  refine wpAny_pure (a := Fin.again (.call (.builtin "type.__call__") ⟨.ref C :: rest, []⟩)) (And.intro rfl ?_)
  refine codeAny_call_builtin_at (Code.quiet_builtin _ (by decide +kernel)) entry_typeCall (check_slot tc_kind tc_split typ (tc_args _ _ _) ?_)
  unfold Builtin.«type.__call__»
  have hm : Looks (model prog w) hh (mroOf (.ref C)) cd.mro := ((Looks.ld (part := none) hC).andThen .now).andThen .now
  repeat (first | (with_reducible refine get_new (M := ()) X hread hfind hrec rfl ?_) | simp only [e4, Bool.false_eq_true, if_false] | with_reducible refine wpAny_call ?_ | lk)
  refine useG (post := news) hn S hA' (D.tk1 (n := 1)) fun v own' s2 hp hB D2 => ?_
  obtain ⟨x, dx, rfl, rfl⟩ := hp
  replace D2 : St B g env vals s2 (Ob x C dx :: Di dx [] 0 :: news) := D2
  have hbx : B.heap.objs.size ≤ x := (hB (Ob x C dx) (by simp)).resolve_left (by simp)
  have hbd : B.heap.objs.size ≤ dx := (hB (Di dx [] 0) (by simp)).resolve_left (by simp)
  have I2 : InstAt s2.heap x (instObj C dx) C (some (dictOf [] 0)) := inst_at (D2.get (by simp)) (D2.get (by simp))
  have X2 := S.X.keeps D2.keep
  have t1 : Looks (model prog w) s2.heap (typeOf (.ref x)) (.ref C) := I2.type
  have s1 : Looks (model prog w) s2.heap (isSubtype (.ref C) (.ref C)) true := looks_mroIn X2 hself
  have i1 : Looks (model prog w) s2.heap (typeLookup (.ref C) (Str.ofString "__init__")) (some (.ref fI)) := looks_findIn X2 hi
  have b1 : Looks (model prog w) s2.heap (bindSpecial (.ref fI) (.ref x)) (.ref fI, [.ref x]) := bind_fn X2 (.ref x) hf
  have hq := h x dx s2 hbd hbx D2
  clear D D2 hn h I2 X2
  obtain ⟨hh2, gg2, d2, tt2, os2⟩ := s2
  dsimp only
  unfold isInstance callSpecial? specialOf
  repeat (first | with_reducible refine wpAny_call ?_ | lk)
  refine codeAny_mono hq fun r s' z => ?_
  rcases r with e | (v | _ | _ | _) <;> first | exact z.elim | skip
  obtain ⟨rfl, z⟩ := z
  exact wpAny_pure (wpAny_pure z)
end
section
variable {prog : Program} {w : World} {A : Around} {R : Result → Shared → Prop} {s : Shared} {g : Heap} {own : News'} {K : Frag} {n : Nat}
  {name qual : Str} {params : Arguments} {body : List Stmt} {scope : Scope} {dV kV doc pm cdv ct oc : Value} {an od : Option Addr} {osl : Array (Option Value)} {f : Addr} {args : Args} {binds : List (Str × Value)}
  {gl : List (Str × Value)} {more : List Str}
theorem enterB {s₁ : Shared} (S : Sta K g) (O : Own g s own) (O₁ : Own g s₁ own) (u₁ : Up s s₁) (r₁ : Rest s s₁) (hroom : Room A (n + 1))
    (ho : K.lookup f = some ⟨oc, od, .func (fnX name qual params body scope [] dV kV doc pm an cdv ct), osl⟩) (hcd : codeIn K cdv qual = true)
    (hbind : ∀ (M : Model) (A : Around) (E : Value → Shared → Prop) (Q : List (Str × Value) → Shared → Prop), Q binds s₁ → wpAny M A (bindArgs (fnX name qual params body scope [] dV kV doc pm an cdv ct) args) Q E s)
    (hok : bodyOk scope (binds.map (·.1)) more = true) (hgl : gloOk K scope gl = true)
    (h : ∀ env A' s1, Room A' n → Glo K env gl → St s g env (startVals binds more) s1 own →
      wpAny (model prog w) A' (execs body env) (fun fl s' => R (.ok (.ret (retOf fl))) s') (fun e s' => wpAny (model prog w) A' (leaving env e) (fun _ s'' => R (.error e) s'') (fun e' s'' => R (.error e') s'') s') s1) :
    codeAny (model prog w) A (.call (.ref f) args) R s := by
  unfold bodyOk at hok
  simp only [Bool.and_eq_true, List.all_eq_true, beq_iff_eq, Bool.not_eq_true', decide_eq_true_eq, bne_iff_ne, ne_eq] at hok
  obtain ⟨⟨⟨⟨⟨h1, h2⟩, h3⟩, h4⟩, h5⟩, h6⟩ := hok
  refine codeAny_call_function (by have := hroom.dp; omega) (O.keep _ _ (S.X _ _ ho)) rfl h4 h5 rfl ((codeRec_of S.X hcd).keeps O.keep) (hbind _ _ _ _ ?_)
  refine wpAny_newFunctionEnv h3 (fun x hx => (h1 x.1 (List.mem_append_left _ (List.mem_map_of_mem hx))).1) (fun h₁ hns hsb => ⟨(S.lim.keeps O₁.keep).fresh _ hsb, codeAny_func ?_⟩) h6
  have hk : ∀ b o, s₁.heap.get? b = some o → h₁.get? b = some o := fun b o e => hsb.extBut b o (Nat.ne_of_lt (Heap.lt_size e)) (Heap.get?_push_of_some _ e)
  refine wpAny_mono (h (callEnv (fnX name qual params body scope [] dV kV doc pm an cdv ct) s₁.heap.objs.size f) _ _ hroom.deeper ⟨rfl, rfl, fun p hp => ?_⟩ ?_) (fun fl s' x => ?_) fun _ _ x => x
  · unfold gloOk at hgl
    have := List.all_eq_true.mp hgl p hp
    simp only [Bool.and_eq_true, beq_iff_eq, Bool.not_eq_true'] at this
    obtain ⟨⟨a, b⟩, c⟩ := this
    refine ⟨a, b, ?_⟩
    split at c
    · rename_i v e; exact .inl (by rw [e, of_decide_eq_true c])
    · rename_i e
      simp only [Bool.and_eq_true, decide_eq_true_eq, Bool.not_eq_true', beq_eq_false_iff_ne] at c
      exact .inr ⟨e, c.1, c.2⟩
    · cases c
  · have hne : ∀ p ∈ own, p.1 ≠ s₁.heap.objs.size := fun p hp => Nat.ne_of_lt (Heap.lt_size (O₁.at_ p hp).1)
    refine ⟨⟨_, ⟨⟨hns, fun b o e => hk b o (O₁.keep b o e), O₁.size⟩, fun p hp => ⟨hk _ _ (O₁.at_ p hp).1, hne p hp, (O₁.at_ p hp).2⟩, O₁.ord⟩, ?_⟩, ?_, ?_, h6, ?_, ?_, ?_⟩
    · intro p hp
      have nd' : (binds.map (·.1)).Nodup := (List.nodup_append.mp h2).1
      rcases List.mem_append.mp hp with hp | hp
      · obtain ⟨q, hq, rfl⟩ := List.mem_map.mp hp
        exact lookup_rev nd' hq
      · obtain ⟨q, hq, rfl⟩ := List.mem_map.mp hp
        exact lookup_rev_none fun z => (List.nodup_append.mp h2).2.2 _ z _ hq rfl
    · intro p hp
      refine h1 p.1 ?_
      rcases List.mem_append.mp hp with hp | hp
      · obtain ⟨q, hq, rfl⟩ := List.mem_map.mp hp
        exact List.mem_append_left _ (List.mem_map_of_mem hq)
      · obtain ⟨q, hq, rfl⟩ := List.mem_map.mp hp
        exact List.mem_append_right _ hq
    · have : (startVals binds more).map (·.1) = binds.map (·.1) ++ more := by
        unfold startVals; rw [List.map_append, List.map_map, List.map_map]; congr 1; exact List.map_id _
      rw [this]; exact h2
    · have := O₁.tok; show 1 ≤ s₁.toks + _; omega
    · exact r₁.trans ⟨rfl, rfl, rfl⟩
    · refine u₁.trans ⟨Nat.le_add_right _ _, ?_⟩
      show s₁.heap.objs.size ≤ h₁.objs.size
      exact Nat.le_of_lt hns.lt
  · cases fl <;> exact x
end

end
section
/-! ## comprehensions over a list -/
section
variable {B : Shared} {g : Heap} {env : Env} {vals vals' : Vals} {s : Shared} {news news' : News'} {A : Around} {E : Value → Shared → Prop} {K : Frag} {prog : Program} {w : World}
/-- what one turn owes -/
def CompStep (K : Frag) (prog : Program) (w : World) (A : Around) (x : Str) (ifs : List Expr) (elt : Expr) (vs : List Value) (Rr : Nat → List Value → Prop) (cenvOf : Addr → Env) (s₂ : Shared) : Prop :=
  ∀ C B' g' s i v ys m acc I o, (∀ b o, s₂.heap.get? b = some o → g'.get? b = some o) → I < acc → Sta K g' → vs[i]? = some v → Rr i ys → St B' g' (cenvOf C) [(x, some v)] s [(acc, Lo ys m), (I, o)] →
    wpAny (model prog w) A (forIn ifs true fun c r => if r = true then do let ok ← isTrue c (cenvOf C) (eval c (cenvOf C)); pure (ForInStep.yield ok) else pure (ForInStep.yield r))
      (fun ok s₁ => if ok = true then wpAny (model prog w) A (eval elt (cenvOf C)) (fun y s₂ => Rr (i + 1) (ys ++ [y]) ∧ ∃ vx, St B' g' (cenvOf C) [(x, vx)] s₂ [(acc, Lo ys m), (I, o)]) (fun _ _ => False) s₁
        else Rr (i + 1) ys ∧ ∃ vx, St B' g' (cenvOf C) [(x, vx)] s₁ [(acc, Lo ys m), (I, o)]) (fun _ _ => False) s
theorem comp_core {elt iter : Expr} {x : Str} {px : Pos} {ifs : List Expr} {scope : Scope} {cl : List (Str × Addr)} {pos : Pos} {l : Addr} {vs : List Value} {n : Nat} {Rr : Nat → List Value → Prop} {RR : Value → Addr → Result → Shared → Prop}
    (hA : A.handled = none) (hcell : ∀ y ∈ scope.names, y.2 ≠ .cell) (hkind : scope.kind = .function) (hx : scope.names.lookup x = some .local) (hd : (x == ("__debug__" : Str)) = false)
    (S : Sta K g) (D : St B g env vals s news) (hm : s.heap.get? l = some (Lo vs n)) (h0 : Rr 0 []) (hlen : ∀ i ys, Rr i ys → ys.length ≤ 16777216)
    (step : CompStep K prog w A x ifs elt vs Rr (fun C => compEnvC scope cl C env) s)
    (hfin : ∀ ys m acc C oC s', Rr vs.length ys → B.heap.objs.size ≤ acc → (∃ mC, s'.heap.Ns C mC) → St B g env vals s' ((C, oC) :: (acc, Lo ys m) :: news) → RR (.ref acc) C (.ok .next) s') :
    wpAny (model prog w) A (newList []) (fun acc s₃ => wpAny (model prog w) A (newFunctionEnv scope env.globals cl [] env.qual none .none (some env)) (fun cenv s₄ =>
      codeAny (model prog w) A (.compStart (.ListComp elt [⟨.Name x px, iter, ifs, 0⟩] scope pos) 0 (.ref s.heap.objs.size) acc { cenv with scope := relabel scope env }) (RR acc cenv.locals) s₄) E s₃) E { s with heap := s.heap.push (Li l 0) } := by
  have hI : s.heap.objs.size < (s.heap.push (Li l 0)).objs.size := by rw [Heap.size_push]; exact Nat.lt_succ_self _
  have hlI : l ≠ s.heap.objs.size := Nat.ne_of_lt (Heap.lt_size hm)
  have hm2 : (s.heap.push (Li l 0)).get? l = some (Lo vs n) := Heap.get?_push_of_some _ hm
  have D2 := D.made (Li l 0)
  have hgI : g.get? s.heap.objs.size = none := by
    obtain ⟨m, L, _⟩ := D2.led
    exact (L.nw _ List.mem_cons_self).2.2
  have hold : ∀ b o, s.heap.get? b = some o → (s.heap.push (Li l 0)).get? b = some o ∧ b ≠ s.heap.objs.size := fun b o e => ⟨Heap.get?_push_of_some _ e, Nat.ne_of_lt (Heap.lt_size e)⟩
  have hold : ∀ b o, s.heap.get? b = some o → ({ s with heap := s.heap.push (Li l 0) } : Shared).heap.get? b = some o ∧ b ≠ s.heap.objs.size := hold
  generalize hs2 : ({ s with heap := s.heap.push (Li l 0) } : Shared) = s2 at D2 hold ⊢
  have hI2 : s.heap.objs.size < s2.heap.objs.size := by rw [← hs2]; exact hI
  have hm2' : s2.heap.get? l = some (Lo vs n) := by rw [← hs2]; exact hm2
  have hB2 : B.heap.objs.size ≤ s2.heap.objs.size := D2.up.2
  generalize s.heap.objs.size = I at hI hI2 hlI D2 hgI hold ⊢
  clear hs2 hI hm2 D hm
  refine wpAny_newObj_type (wpAny_newFunctionEnv hcell (by intro y hy; simp at hy) (fun h₁ hns₁ hsb₁ => ?_) hkind)
  dsimp only at hns₁ hsb₁ ⊢
  generalize hH2 : s2.heap.push { cls := .type "list", dict := none, data := .seq ([] : List Value).toArray } = H2 at hns₁ hsb₁ ⊢
  have hC : H2.objs.size = s2.heap.objs.size + 1 := by rw [← hH2, Heap.size_push]
  have hacc : H2.get? s2.heap.objs.size = some (Lo [] 0) := by rw [← hH2]; exact Heap.get?_push_size _ rfl
  have hk2 : ∀ b o, s2.heap.get? b = some o → H2.get? b = some o := fun b o e => by rw [← hH2]; exact Heap.get?_push_of_some _ e
  have hsz1 : H2.objs.size < h₁.objs.size := hns₁.lt
  generalize H2.objs.size = C at hns₁ hsb₁ hC hsz1 ⊢
  have old : ∀ b o, s2.heap.get? b = some o → h₁.get? b = some o := fun b o e =>
    hsb₁.extBut b o (Nat.ne_of_lt (by rw [hC]; exact Nat.lt_succ_of_lt (Heap.lt_size e))) (Heap.get?_push_of_some _ (hk2 b o e))
  have hacc1 : h₁.get? s2.heap.objs.size = some (Lo [] 0) := hsb₁.extBut _ _ (Nat.ne_of_lt (by rw [hC]; exact Nat.lt_succ_self _)) (Heap.get?_push_of_some _ hacc)
  clear hacc hk2 hH2 hsb₁
  have hL : ∀ b, b ∈ [I] → b = I := fun b hb => List.mem_singleton.mp hb
  have hgI' : (hideAll s2.heap [I]).get? I = none := hideAll_none _ List.mem_cons_self
  have hgk : ∀ b o, b ≠ I → s2.heap.get? b = some o → (hideAll s2.heap [I]).get? b = some o := fun b o hb e => hideAll_get _ e fun z => hb (hL b z)
  have hgs : (hideAll s2.heap [I]).objs.size = s2.heap.objs.size := hideAll_size _ _
  have hgf : ∀ b o, (hideAll s2.heap [I]).get? b = some o → s2.heap.get? b = some o := fun b o e => of_hideAll _ e
  have S' : Sta K (hideAll s2.heap [I]) := S.keeps fun b o e => hgk b o (fun z => by rw [z, hgI] at e; cases e) (D2.keep b o e)
  have hga : (hideAll s2.heap [I]).get? s2.heap.objs.size = none := Heap.get?_none_of_le (by rw [hgs]; exact Nat.le_refl _)
  have hlg : (hideAll s2.heap [I]).get? l = some (Lo vs n) := hgk l _ hlI hm2'
  generalize hideAll s2.heap [I] = g' at hgI' hgk hgs hgf S' hga hlg
  have hIs : s2.heap.get? I = some (Li l 0) := D2.get List.mem_cons_self
  generalize hacc' : s2.heap.objs.size = acc at hI2 hB2 hC hacc1 hga hgs ⊢
  have Dc : St ⟨h₁, s2.gens, s2.drawn, s2.toks + ([] : List (Str × Value)).length, s2.os⟩ g' (compEnvC scope cl C env) [(x, none)] ⟨h₁, s2.gens, s2.drawn, s2.toks + ([] : List (Str × Value)).length, s2.os⟩ [(acc, Lo [] 0), (I, Li l 0)] := by
    refine ⟨⟨_, ⟨⟨hns₁, fun b o e => old b o (hgf b o e), ?_⟩, fun p hp => ?_, ?_⟩, fun p hp => ?_⟩, fun p hp => ?_, ?_, hkind, D2.tok, Rest.rfl, Up.rfl⟩
    · show g'.objs.size ≤ C; omega
    · simp only [List.mem_cons, List.not_mem_nil, or_false] at hp
      rcases hp with rfl | rfl
      · exact ⟨hacc1, by show acc ≠ C; omega, hga⟩
      · exact ⟨old _ _ hIs, by show I ≠ C; omega, hgI'⟩
    · simp only [List.map_cons, List.map_nil, List.pairwise_cons, List.mem_cons, List.not_mem_nil, or_false, forall_eq]
      exact ⟨hI2, fun _ h => h.elim, .nil⟩
    · rw [List.mem_singleton.mp hp]; rfl
    · rw [List.mem_singleton.mp hp]; exact ⟨lookup_relabel_local hx, hd⟩
    · simp
  have hstart : Rest s2 ⟨h₁, s2.gens, s2.drawn, s2.toks + ([] : List (Str × Value)).length, s2.os⟩ := ⟨rfl, rfl, rfl⟩
  have hstart2 : Up s2 ⟨h₁, s2.gens, s2.drawn, s2.toks + ([] : List (Str × Value)).length, s2.os⟩ := ⟨Nat.le_refl _, by show s2.heap.objs.size ≤ h₁.objs.size; omega⟩
  clear old hacc1 hns₁ hga hIs
  show codeAny (model prog w) A (.compStart (.ListComp elt [⟨.Name x px, iter, ifs, 0⟩] scope pos) 0 (.ref I) (.ref acc) (compEnvC scope cl C env)) (RR (.ref acc) C) ⟨h₁, s2.gens, s2.drawn, s2.toks + ([] : List (Str × Value)).length, s2.os⟩
  generalize (⟨h₁, s2.gens, s2.drawn, s2.toks + ([] : List (Str × Value)).length, s2.os⟩ : Shared) = s4 at Dc hstart hstart2 ⊢
  have loop : codeAny (model prog w) A (.compLoop (.ListComp elt [⟨.Name x px, iter, ifs, 0⟩] scope pos) 0 (.ref I) (.ref acc) (compEnvC scope cl C env)) (RR (.ref acc) C) s4 := by
    refine codeAny_compLoop_tests (fun k s' => ∃ i ys m vx o, k = vs.length - i ∧ i ≤ vs.length ∧ o.cls = .type "list_iterator" ∧ o.data = .fields #[.ref l, .int i 0] ∧ Rr i ys ∧ St s4 g' (compEnvC scope cl C env) [(x, vx)] s' [(acc, Lo ys m), (I, o)])
      ?_ _ ⟨0, [], 0, none, Li l 0, rfl, Nat.zero_le _, rfl, rfl, h0, Dc⟩
    rintro k s' ⟨i, ys, m, vx, o, rfl, hi, hc, hdt, hR, D⟩
    have hit : s'.heap.IsListIter I l i := ⟨_, D.get (List.mem_cons_of_mem _ List.mem_cons_self), hc, hdt⟩
    have hls : s'.heap.IsList l vs.toArray := ⟨_, D.keep _ _ hlg, rfl, n, rfl⟩
    have noE : ∀ e s'', False → notedBy (model prog w) A (compEnvC scope cl C env) (fun e s' => RR (.ref acc) C (.error e) s') e s'' := fun _ _ x => x.elim
    by_cases hlt : i < vs.length
    · have hxv : vs[i]? = some vs[i] := List.getElem?_eq_getElem hlt
      refine wpAny_pyNext_list_item hit hls (x := vs[i]) (by simp [hlt]) fun h' hit' hs' => ?_
      obtain ⟨o', ho', hc', hd'⟩ := hit'
      have D1 := D.upd (.tail .head) hs' ho' (Nat.le_refl s'.toks)
      refine wpAny_assign_Name (r_st D1 (.head (u := vx)) fun s5 D5 => ?_)
      refine wpAny_mono (step C s4 g' s5 i vs[i] ys m acc I o' (fun b o e => hgk b o (hold b o e).2 (hold b o e).1) hI2 S' hxv hR D5) (fun ok s6 h6 => ?_) noE
      cases ok with
      | false =>
        rw [if_neg (by decide)] at h6 ⊢
        obtain ⟨hR', vx', D6⟩ := h6
        exact ⟨vs.length - (i + 1), by omega, i + 1, ys, m, vx', o', rfl, hlt, hc', hd', hR', D6⟩
      | true =>
        rw [if_pos rfl] at h6 ⊢
        refine wpAny_mono h6 (fun y s7 h7 => ?_) noE
        obtain ⟨hR', vx', D7⟩ := h7
        exact r_append D7 (.head) (hlen _ _ hR) fun s8 D8 => ⟨vs.length - (i + 1), by omega, i + 1, ys ++ [y], m + 1, vx', o', rfl, hlt, hc', hd', hR', D8⟩
    · refine up ?_
      refine wpAny_pyNext_list_end hA hit hls (by simp; omega) fun h' hx' u => ?_
      have hie : i = vs.length := by omega
      subst hie
      have D9 := D.without (.tail (o' := o) .head) hx' u.2
      show RR (.ref acc) C (.ok .next) _
      obtain ⟨mc, L9, _⟩ := id D9.led
      have kk : ∀ b o, b ≠ I → s2.heap.get? b = some o → h'.get? b = some o := fun b o hb e => L9.fr.keep b o (hgk b o hb e)
      have hnsC := L9.fr.ns
      have hnsC' := hnsC
      obtain ⟨oC, es, ep, hoC, _⟩ := hnsC'
      have hacc9 := D9.get List.mem_cons_self
      obtain ⟨m2, L2, e2⟩ := id D2.led
      have hlt0 : env.locals < acc := hacc' ▸ L2.fr.ns.lt
      have hlt1 : ∀ b o, s2.heap.get? b = some o → b < acc := fun b o e => hacc' ▸ Heap.lt_size e
      have hge : ∀ b, acc ≤ b → b ≠ env.locals ∧ g.get? b = none := fun b hb => ⟨fun q => Nat.lt_irrefl _ (Nat.lt_of_lt_of_le (q ▸ hlt0) hb), by
        cases q : g.get? b with
        | none => rfl
        | some o => exact absurd (hlt1 _ _ (L2.fr.keep _ _ q)) (Nat.not_lt.mpr hb)⟩
      have hord := L2.ord
      rw [List.map_cons, List.pairwise_cons] at hord
      refine hfin ys m acc C oC _ hR hB2 ⟨mc, hnsC⟩ ⟨⟨m2, ⟨⟨?_, fun b o e => kk b o (fun z => by rw [z, hgI] at e; cases e) (L2.fr.keep b o e), L2.fr.above⟩, fun p hp => ?_, ?_⟩, e2⟩, D2.loc, D2.nd, D2.kind, D9.tok, D2.rest.trans (hstart.trans D9.rest), D2.up.trans (hstart2.trans D9.up)⟩
      · obtain ⟨o, es', ep', ho, hr⟩ := L2.fr.ns
        exact ⟨o, es', ep', kk _ _ (fun z => (L2.nw _ List.mem_cons_self).2.1 z.symm) ho, hr⟩
      · rcases List.mem_cons.mp hp with rfl | hp
        · exact ⟨hoC, hge C (by rw [hC]; exact Nat.le_succ _)⟩
        · rcases List.mem_cons.mp hp with rfl | hp
          · exact ⟨hacc9, hge acc (Nat.le_refl _)⟩
          · have z := L2.nw p (List.mem_cons_of_mem _ hp)
            exact ⟨kk _ _ (Nat.ne_of_lt (hord.1 _ (List.mem_map_of_mem (f := (·.1)) hp))) z.1, z.2⟩
      · have hlt2 : ∀ a ∈ news.map (·.1), a < acc := fun a ha => by
          obtain ⟨p, hp, rfl⟩ := List.mem_map.mp ha
          exact hlt1 _ _ (L2.nw p (List.mem_cons_of_mem _ hp)).1
        rw [List.map_cons, List.map_cons, List.pairwise_cons, List.pairwise_cons]
        refine ⟨fun a ha => ?_, hlt2, hord.2⟩
        rcases List.mem_cons.mp ha with h | ha
        · show C > a; rw [h, hC]; exact Nat.lt_succ_self _
        · have := hlt2 a ha; show C > a; rw [hC]; exact Nat.lt_succ_of_lt this
  exact codeAny_compStart_list loop (wpAny_pyIter_listiter (l := l) (i := 0) ⟨_, Dc.get (List.mem_cons_of_mem _ List.mem_cons_self), rfl, rfl⟩ loop)
end
section
variable {B : Shared} {g : Heap} {env : Env} {vals vals' : Vals} {s : Shared} {news news' : News'} {A : Around} {E : Value → Shared → Prop} {K : Frag} {prog : Program} {w : World}
theorem St.part (D : St B g env vals s news) {C : Addr} {oC : Obj} {rest : News'} (e : news = (C, oC) :: rest) {h' : Heap} (hs : Heap.SameBut C s.heap h') : St B g env vals { s with heap := h' } rest := by
  subst e
  exact D.without (.head (o' := oC)) hs.extBut (Nat.le_of_eq hs.1.symm)
theorem ns_again {h h' : Heap} {C : Addr} {oC : Obj} {m : Str → Option Value} (hn : h.Ns C m) (e : h.get? C = some oC) (e' : h'.get? C = some oC) : h'.Ns C m := by
  obtain ⟨o, es, ep, ho, r⟩ := hn
  rw [e] at ho; cases ho
  exact ⟨oC, es, ep, e', r⟩
theorem r_listcomp {elt iter : Expr} {x : Str} {px : Pos} {ifs : List Expr} {scope : Scope} {cl : List (Str × Addr)} {pos : Pos} {Q : Value → Shared → Prop}
    (hA : A.handled = none) (hclos : closureFor scope env = pure cl) (hcell : ∀ y ∈ scope.names, y.2 ≠ .cell) (hkind : scope.kind = .function) (hnames : ∀ y ∈ scope.names, y.2 = .local → scope.names.lookup y.1 = some .local)
    (hx : scope.names.lookup x = some .local) (hd : (x == ("__debug__" : Str)) = false)
    (h : wpAny (model prog w) A (eval iter env) (fun xv s₁ => ∃ B g vals news l vs n, ∃ Rr : Nat → List Value → Prop, xv = .ref l ∧ St B g env vals s₁ news ∧ Sta K g ∧ s₁.heap.get? l = some (Lo vs n) ∧ Rr 0 [] ∧ (∀ i ys, Rr i ys → ys.length ≤ 16777216) ∧
      CompStep K prog w A x ifs elt vs Rr (fun C => compEnvC scope cl C env) s₁ ∧
      (∀ ys m acc s', Rr vs.length ys → B.heap.objs.size ≤ acc → St B g env vals s' ((acc, Lo ys m) :: news) → Q (.ref acc) s')) E s)
    (hs : ∀ x, foldedSetIterable iter env x = pure x := by intro _; rfl) :
    wpAny (model prog w) A (eval (.ListComp elt [⟨.Name x px, iter, ifs, 0⟩] scope pos) env) Q E s := by
  rw [eval_ListComp]
  refine wpAny_comprehension_free (use := none) rfl hs hclos hkind hnames (wpAny_mono h (fun xv s₁ h₁ => ?_) fun _ _ e => e)
  obtain ⟨B, g, vals, news, l, vs, n, Rr, rfl, D, S, hm, h0, hlen, step, k⟩ := h₁
  refine wpAny_pyIter_list (D.lst hm) (comp_core (RR := fun acc C => compPost (model prog w) A E none Q acc C) hA hcell hkind hx hd S D hm h0 hlen step fun ys m acc C oC s' hR hb hn D' => ?_)
  obtain ⟨mC, hn⟩ := hn
  exact ⟨mC, hn, fun h' hs' => k ys m acc _ hR hb (D'.part rfl hs')⟩
theorem r_listcomp_assign {elt iter : Expr} {x y : Str} {px py : Pos} {ifs : List Expr} {scope : Scope} {cl : List (Str × Addr)} {pos spos : Pos} {Q : Flow → Shared → Prop}
    (hsw : swapsWith (.ListComp elt [⟨.Name x px, iter, ifs, 0⟩] scope pos) (some (.Name y py)) spos.line env = pure true)
    (hA : A.handled = none) (hclos : closureFor scope env = pure cl) (hcell : ∀ y ∈ scope.names, y.2 ≠ .cell) (hkind : scope.kind = .function) (hnames : ∀ y ∈ scope.names, y.2 = .local → scope.names.lookup y.1 = some .local)
    (hx : scope.names.lookup x = some .local) (hd : (x == ("__debug__" : Str)) = false)
    (h : wpAny (model prog w) A (eval iter env) (fun xv s₁ => ∃ B g vals news l vs n, ∃ Rr : Nat → List Value → Prop, xv = .ref l ∧ St B g env vals s₁ news ∧ Sta K g ∧ s₁.heap.get? l = some (Lo vs n) ∧ Rr 0 [] ∧ (∀ i ys, Rr i ys → ys.length ≤ 16777216) ∧
      CompStep K prog w A x ifs elt vs Rr (fun C => compEnvC scope cl C env) s₁ ∧ ∃ vals' : Addr → Vals, (∀ acc, Put y (.ref acc) vals (vals' acc)) ∧
      (∀ ys m acc s', Rr vs.length ys → B.heap.objs.size ≤ acc → St B g env (vals' acc) s' ((acc, Lo ys m) :: news) → Q .next s')) E s)
    (hs : ∀ x, foldedSetIterable iter env x = pure x := by intro _; rfl) :
    wpAny (model prog w) A (exec (.Assign [.Name y py] (.ListComp elt [⟨.Name x px, iter, ifs, 0⟩] scope pos) spos) env) Q E s := by
  rw [exec_Assign_Name_used _ _ _ _ hsw]
  refine wpAny_bind (wpAny_standAt (wpAny_bind ?_))
  show wpAny _ A (do let _ ← comprehension (.ListComp elt [⟨.Name x px, iter, ifs, 0⟩] scope pos) scope env _ (newList []) false (eval iter env) (some (assign (.Name y py) env))) _ _ s
  refine wpAny_bind (wpAny_mono (wpAny_comprehension_free (use := some (assign (.Name y py) env)) (Q := fun _ s' => Q .next s') rfl hs hclos hkind hnames
    (wpAny_mono h (fun xv s₁ h₁ => ?_) fun _ _ e => e)) (fun _ s' hq => wpAny_pure (wpAny_pure hq)) fun _ _ e => e)
  obtain ⟨B, g, vals, news, l, vs, n, Rr, rfl, D, S, hm, h0, hlen, step, vals', hput, k⟩ := h₁
  refine wpAny_pyIter_list (D.lst hm) (comp_core (RR := fun acc C => compPost (model prog w) A E (some (assign (.Name y py) env)) (fun _ s' => Q .next s') acc C) hA hcell hkind hx hd S D hm h0 hlen step fun ys m acc C oC s' hR hb hn D' => ?_)
  obtain ⟨mC, hn⟩ := hn
  have hC := D'.get List.mem_cons_self
  show wpAny _ A (assign (.Name y py) env (.ref acc)) _ _ _
  refine wpAny_assign_Name (r_st D' (hput acc) fun s'' D'' => ⟨mC, ns_again hn hC (D''.get List.mem_cons_self), fun h' hs' => k ys m acc _ hR hb (D''.part rfl hs')⟩)
end

end
section
/-! ## a def with two cells -/
section
variable {prog : Program} {w : World} {A : Around} {R : Result → Shared → Prop} {s : Shared} {g : Heap} {K : Frag} {n : Nat}
  {name qual : Str} {params : Arguments} {body : List Stmt} {scope : Scope} {dV kV doc pm cdv ct oc : Value} {an od : Option Addr} {osl : Array (Option Value)} {f : Addr} {args : List Value} {binds : List (Str × Value)}
  {gl : List (Str × Value)}
theorem enterC2 {x1 x2 : Str} {vals : Vals} (S : Sta K g) (O : Own g s []) (hroom : Room A (n + 1))
    (ho : K.lookup f = some ⟨oc, od, .func (fnX name qual params body scope [] dV kV doc pm an cdv ct), osl⟩) (hcd : codeIn K cdv qual = true)
    (hbind : bindArgs (fnX name qual params body scope [] dV kV doc pm an cdv ct) ⟨args, []⟩ = pure binds)
    (hcs : ∀ m, cellsFrom m scope.names [] = [(x2, m + 1), (x1, m)]) (hx : (x1 == x2) = false)
    (hkind : binds.all (fun b => scope.names.lookup b.1 == some .local || (scope.names.lookup b.1 == some .cell && (b.1 == x1 || b.1 == x2))) = true) (hgl : gloOk K scope gl = true)
    (hsc : (!scope.isCoroutine && !scope.isGenerator && scope.kind == .function) = true)
    (hvals : vals.all (fun p => scope.names.lookup p.1 == some .local && !(p.1 == ("__debug__" : Str))) = true) (hnd : (vals.map (·.1)).Nodup) (hv : ∀ p ∈ vals, bindL (fun x => scope.names.lookup x) binds (fun _ => none) p.1 = p.2)
    (h : ∀ env A' s1 c1 c2 o1 o2, Room A' n → Glo K env gl → env.scope = scope → env.cells = [(x2, c2), (x1, c1)] → o1.data = .cell (bindC (fun x => scope.names.lookup x) binds (fun _ => none) x1) → o2.data = .cell (bindC (fun x => scope.names.lookup x) binds (fun _ => none) x2) →
      s.heap.objs.size ≤ c1 → c1 < c2 → St s g env vals s1 [(c2, o2), (c1, o1)] →
      wpAny (model prog w) A' (execs body env) (fun fl s' => R (.ok (.ret (retOf fl))) s') (fun e s' => wpAny (model prog w) A' (leaving env e) (fun _ s'' => R (.error e) s'') (fun e' s'' => R (.error e') s'') s') s1) :
    codeAny (model prog w) A (.call (.ref f) ⟨args, []⟩) R s := by
  simp only [Bool.and_eq_true, Bool.not_eq_true', beq_iff_eq] at hsc
  obtain ⟨⟨h4, h5⟩, h6⟩ := hsc
  refine codeAny_call_function (by have := hroom.dp; omega) (O.keep _ _ (S.X _ _ ho)) rfl h4 h5 rfl ((codeRec_of S.X hcd).keeps O.keep) ?_
  rw [hbind]
  refine wpAny_pure (up (wpAny_newFunctionEnv_cells h6 (fun b hb => ?_) fun env he s₁ X u => ?_))
  · have := List.all_eq_true.mp hkind b hb
    simp only [Bool.or_eq_true, Bool.and_eq_true, beq_iff_eq] at this
    rcases this with q | ⟨q, z⟩
    · exact .inl q
    · refine .inr ⟨q, ?_⟩
      show ((cellsFrom (s.heap.objs.size + 1) scope.names []).lookup b.1).isSome = true
      rw [hcs]
      rcases z with z | z
      · rw [z, List.lookup_cons]
        rw [hx]
        simp
      · rw [z]; simp
  · subst he
    obtain ⟨X1, Xc, Xa, Xb⟩ := X
    have Xc : ∀ nm c, (cellsFrom (s.heap.objs.size + 1) scope.names []).lookup nm = some c → s₁.heap.IsCell c (bindC (fun x => scope.names.lookup x) binds (fun _ => none) nm) := Xc
    have hns : s₁.heap.Ns s.heap.objs.size (bindL (fun x => scope.names.lookup x) binds (fun _ => none)) := X1.ns
    rw [hcs] at Xc
    obtain ⟨o1, ho1, hd1⟩ := Xc x1 (s.heap.objs.size + 1) (by rw [List.lookup_cons, hx]; simp)
    obtain ⟨o2, ho2, hd2⟩ := Xc x2 (s.heap.objs.size + 1 + 1) (by simp)
    have hsame := X1.same
    have fresh : ∀ b, s.heap.objs.size ≤ b → g.get? b = none := fun b hb => by
      cases q : g.get? b with
      | none => rfl
      | some o => exact absurd (Heap.lt_size (O.keep _ _ q)) (Nat.not_lt.mpr hb)
    refine ⟨S.lim.keeps fun b o e => X1.keep _ _ (O.keep b o e), codeAny_func ?_⟩
    refine wpAny_mono (h (newEnv scope s.heap.objs.size mainGlobals (cellsFrom (s.heap.objs.size + 1) scope.names []) (qual ++ ".<locals>.") (some f) cdv none builtinsNs) _ s₁ (s.heap.objs.size + 1) (s.heap.objs.size + 1 + 1) o1 o2 hroom.deeper ⟨rfl, rfl, fun p hp => ?_⟩ rfl (by show cellsFrom _ _ _ = _; rw [hcs]) hd1 hd2 (Nat.le_succ _) (Nat.lt_succ_self _) ?_) (fun fl s' x => ?_) fun _ _ x => x
    · unfold gloOk at hgl
      have := List.all_eq_true.mp hgl p hp
      simp only [Bool.and_eq_true, beq_iff_eq, Bool.not_eq_true'] at this
      obtain ⟨⟨a, b⟩, c⟩ := this
      refine ⟨a, b, ?_⟩
      split at c
      · rename_i v e; exact .inl (by rw [e, of_decide_eq_true c])
      · rename_i e
        simp only [Bool.and_eq_true, decide_eq_true_eq, Bool.not_eq_true', beq_eq_false_iff_ne] at c
        exact .inr ⟨e, c.1, c.2⟩
      · cases c
    · refine ⟨⟨_, ⟨⟨hns, fun b o e => X1.keep _ _ (O.keep b o e), O.size⟩, fun p hp => ?_, ?_⟩, hv⟩, fun p hp => ?_, hnd, h6, Nat.le_trans O.tok u.1, ?_, u⟩
      · simp only [List.mem_cons, List.not_mem_nil, or_false] at hp
        rcases hp with rfl | rfl
        · exact ⟨ho2, Nat.ne_of_gt (Nat.lt_succ_of_lt (Nat.lt_succ_self _)), fresh _ (Nat.le_succ_of_le (Nat.le_succ _))⟩
        · exact ⟨ho1, Nat.ne_of_gt (Nat.lt_succ_self _), fresh _ (Nat.le_succ _)⟩
      · simp only [List.map_cons, List.map_nil, List.pairwise_cons, List.mem_cons, List.not_mem_nil, or_false, forall_eq]
        exact ⟨Nat.lt_succ_self _, fun _ h => h.elim, .nil⟩
      · have := List.all_eq_true.mp hvals p hp
        simp only [Bool.and_eq_true, beq_iff_eq, Bool.not_eq_true'] at this
        exact this
      · obtain ⟨h₁, tk, rfl⟩ := hsame
        exact ⟨rfl, rfl, rfl⟩
    · cases fl <;> exact x
end
section
variable {B : Shared} {g : Heap} {env : Env} {vals vals' : Vals} {s : Shared} {news news' : News'} {M : Model} {A : Around} {E : Value → Shared → Prop} {K : Frag} {prog : Program} {w : World}
theorem r_ldcell {x : Str} {pos : Pos} {c : Addr} {oc : Obj} {v : Value} {Q : Value → Shared → Prop} (hk : env.scope.kind = .function) (hl : env.kindOf x = some .cell) (hd : (x == ("__debug__" : Str)) = false) (hc : env.cells.lookup x = some c) (ho : s.heap.get? c = some oc) (hv : oc.data = .cell (some v)) (k : Q v s) :
    wpAny M A (eval (.Name x pos) env) Q E s := wpAny_Name (wpAny_loadName_cell hk hl hc ⟨oc, ho, hv⟩ k) hd
theorem r_stcell {x : Str} {c : Addr} {oc : Obj} {v₀ : Option Value} {v : Value} {f : Obj → News'} {Q : Unit → Shared → Prop} (D : St B g env vals s news) (hl : env.kindOf x = some .cell) (hc : env.cells.lookup x = some c) (U : Hole c oc news f) (hv : oc.data = .cell v₀)
    (k : ∀ oc' s', oc'.data = .cell (some v) → St B g env vals s' (f oc') → Q () s') : wpAny M A (storeName env x v) Q E s := by
  refine wpAny_storeName_cell D.kind hl hc ⟨oc, D.get (U.upd oc).keys.2, hv⟩ fun h' hcell hs => ?_
  obtain ⟨oc', ho', hd'⟩ := hcell
  exact k oc' _ hd' (D.upd (U.upd oc') hs ho' (Nat.le_refl _))
end
section
variable {B : Shared} {g : Heap} {env : Env} {vals vals' : Vals} {s : Shared} {news news' : News'} {A : Around} {E : Value → Shared → Prop} {K : Frag} {prog : Program} {w : World}
theorem St.grow (D : St B g env vals s news) {h' : Heap} {tk : Tok} {l : Addr} {o : Obj} (k : ∀ b o, s.heap.get? b = some o → h'.get? b = some o) (u : Up s ⟨h', s.gens, s.drawn, tk, s.os⟩) (hl : h'.get? l = some o) (hge : s.heap.objs.size ≤ l) : St B g env vals ⟨h', s.gens, s.drawn, tk, s.os⟩ ((l, o) :: news) := by
  obtain ⟨m, L, e⟩ := D.led
  refine D.to ⟨m, ⟨⟨L.fr.ns.keeps k, fun b o q => k _ _ (L.fr.keep b o q), L.fr.above⟩, fun p hp => ?_, ?_⟩, e⟩ rfl u
  · rcases List.mem_cons.mp hp with rfl | hp
    · refine ⟨hl, fun q => ?_, ?_⟩
      · have := L.fr.ns.lt; rw [← q] at this; exact absurd this (Nat.not_lt.mpr hge)
      · cases q : g.get? l with
        | none => rfl
        | some o => exact absurd (Heap.lt_size (L.fr.keep _ _ q)) (Nat.not_lt.mpr hge)
    · exact ⟨k _ _ (L.nw p hp).1, (L.nw p hp).2⟩
  · rw [List.map_cons, List.pairwise_cons]
    refine ⟨fun a ha => ?_, L.ord⟩
    obtain ⟨p, hp, rfl⟩ := List.mem_map.mp ha
    exact Nat.lt_of_lt_of_le (Heap.lt_size (L.nw p hp).1) hge
def rngObj (a b : Int) (t u v : Tok) : Obj := { cls := .type "range", data := .fields #[.int a t, .int b u, .int 1 v] }
theorem r_range2 {a b : Int} {t u : Tok} {Q : Value → Shared → Prop} (D : St B g env vals s news) (k : ∀ r v s', St B g env vals s' ((r, rngObj a b t u v) :: news) → Q (.ref r) s') : wpAny (model prog w) A (call (.type "range") [.int a t, .int b u]) Q E s :=
  call_range_2 (k _ s.toks _ (((D.made (rngObj a b t u s.toks))).tk1 (n := 1)))
theorem range_len {k n : Nat} (h : k ≤ n) : Builtin.Range.rangeSize (k : Int) (n : Int) 1 = ((n - k : Nat) : Int) := by
  unfold Builtin.Range.rangeSize
  rw [if_pos (by decide)]
  by_cases q : (k : Int) < n
  · rw [if_pos q, Int.ediv_one]; omega
  · rw [if_neg q]; omega
theorem nums_range : ∀ (n : Nat) (vs : List Value) (a : Nat), vs.length = n → (∀ (j : Nat) (v : Value), vs[j]? = some v → ∃ t, v = Value.int ((a : Int) + j * 1) t) → Nums vs (((List.range n).map (a + ·)).map Nat.cast)
  | 0, [], _, _, _ => .nil
  | n + 1, vs, a, hl, h => by
    have hne : vs ≠ [] := fun e => by rw [e] at hl; simp at hl
    obtain ⟨ws, x, rfl⟩ : ∃ ws x, vs = ws ++ [x] := ⟨vs.dropLast, vs.getLast hne, (List.dropLast_concat_getLast hne).symm⟩
    have hw : ws.length = n := by simpa using hl
    have ih := nums_range n ws a hw fun j v hj => h j v (by
      have := (List.getElem?_eq_some_iff.mp hj).1
      rw [List.getElem?_append_left this]; exact hj)
    obtain ⟨t, ht⟩ := h n x (by rw [List.getElem?_append_right (by omega), hw]; simp)
    rw [List.range_succ, List.map_append, List.map_append, ht]
    have e : (a : Int) + (n : Nat) * 1 = ((a + n : Nat) : Int) := by omega
    rw [e]
    exact ih.snoc
theorem r_list_range {r : Addr} {k n : Nat} {t u v : Tok} {Q : Value → Shared → Prop} (hh : A.handled = none) (D : St B g env vals s news) (hr : (r, rngObj (k : Int) (n : Int) t u v) ∈ news) (hk : k ≤ n) (hn : n ≤ 100000)
    (q : ∀ l ws m s', B.heap.objs.size ≤ l → Nums ws (((List.range (n - k)).map (k + ·)).map Nat.cast) → St B g env vals s' ((l, Lo ws m) :: news) → Q (.ref l) s') : wpAny (model prog w) A (call (.type "list") [.ref r]) Q E s := by
  refine up (call_list_range (a := (k : Int)) (b := (n : Int)) (c := 1) hh (D.get hr) ?_ (range_len hk) (by omega) fun h' tk acc c' hkk hl hacc u => ?_)
  · have e := range_len hk
    have f : ∀ i : Int, 0 ≤ i ∧ i ≤ 200000 → Builtin.Range.rangeFitsLong i = true := fun i hi => by
      unfold Builtin.Range.rangeFitsLong
      rw [Bool.and_eq_true, decide_eq_true_eq, decide_eq_true_eq]
      exact ⟨by omega, by omega⟩
    unfold PySem.Builtin.Range.small
    rw [e, f _ ⟨by omega, by omega⟩, f _ ⟨by omega, by omega⟩, f 1 ⟨by omega, by omega⟩, f _ ⟨by omega, by omega⟩, if_pos (by decide), f _ ⟨by omega, by omega⟩]
    simp
  · have hacc' : Nums acc.toList (((List.range (n - k)).map (k + ·)).map Nat.cast) := nums_range _ _ _ (by simpa using hacc.1) fun j v hj => hacc.2 j v (by simpa using hj)
    refine q _ acc.toList c' _ D.up.2 hacc' (D.grow hkk u ?_ (Nat.le_refl _))
    rw [hl]
end

end
section
/-! ## what the law itself needs -/
section
open PySem.SeqAt
variable {B : Shared} {g : Heap} {env : Env} {vals vals' : Vals} {s : Shared} {news news' : News'} {A : Around} {E : Value → Shared → Prop} {K : Frag} {prog : Program} {w : World}
theorem r_slice_ints {e sl : Expr} {l : Addr} {vs : List Value} {ms : List Int} {vl vu : Value} {lo hi : Option Int} {Q : Value → Shared → Prop} (D : St B g env vals s news) (hm : s.heap.IsList l vs.toArray) (pl : IsPart vl lo) (pu : IsPart vu hi)
    (hw : IntsAre (slicePick vs.toArray lo hi none).toList ms) (hsz : vs.length ≤ 16777216)
    (k : ∀ l' ws s', Nums ws ms → B.heap.objs.size ≤ l' → St B g env vals s' ((l', Lo ws 0) :: news) → Q (.ref l') s')
    (hs : subscripted sl false (.ref l) (.ref s.heap.objs.size) = operate [.ref s.heap.objs.size, .ref l] (getItem (.ref l) (.ref s.heap.objs.size)))
    (ht : ∀ r, letTemporaryGo e (.ref l) r = pure ()) :
    wpAny (model prog w) A (subscriptTail e sl (.ref l) (.ref s.heap.objs.size)) Q E (pushSlice s vl vu .none) := by
  obtain ⟨m, F, N, c⟩ := D.pushFr
  obtain ⟨m', L, ev⟩ := D.led
  refine up (slice_list3 (s := s) L.fr L.nw hm pl pu .none (by simp) (fun h' F' N' u => ?_) hs ht (by rw [List.size_toArray, sizeLine_eq]; exact hsz))
  rw [show slicePick vs.toArray lo hi none = ((slicePick vs.toArray lo hi none).toList).toArray from by simp] at N'
  refine k _ _ _ (Nums.of hw) (Nat.le_succ_of_le D.up.2) (D.to ⟨m', ⟨F', N', ?_⟩, ev⟩ rfl (up_push u))
  rw [List.map_cons, List.pairwise_cons]
  refine ⟨fun a ha => ?_, L.ord⟩
  obtain ⟨p, hp, rfl⟩ := List.mem_map.mp ha
  exact Nat.lt_succ_of_lt (Heap.lt_size (L.nw p hp).1)
theorem r_add_lists {l b : Addr} {vs ws : List Value} {n k : Nat} {Q : Value → Shared → Prop} (D : St B g env vals s news) (hl : s.heap.get? l = some (Lo vs n)) (hb : s.heap.get? b = some (Lo ws k)) (hz : vs.length + ws.length ≤ 16777216)
    (q : ∀ l' s', B.heap.objs.size ≤ l' → St B g env vals s' ((l', Lo (vs ++ ws) 0) :: news) → Q (.ref l') s') : wpAny (model prog w) A (binaryOp .Add (.ref l) (.ref b)) Q E s := by
  obtain ⟨m', L, ev⟩ := D.led
  refine up (add_lists L.fr L.nw (D.lst hl) (D.lst hb) (fun h' F' N' u => ?_) (by rw [sizeLine_eq]; exact hz))
  refine q _ _ D.up.2 (D.to ⟨m', ⟨F', N', ?_⟩, ev⟩ rfl u)
  rw [List.map_cons, List.pairwise_cons]
  refine ⟨fun a ha => ?_, L.ord⟩
  obtain ⟨p, hp, rfl⟩ := List.mem_map.mp ha
  exact Heap.lt_size (L.nw p hp).1
theorem r_sum {l : Addr} {vs : List Value} {ns : List Int} {n : Nat} {Q : Value → Shared → Prop} (hA : A.handled = none) (D : St B g env vals s news) (hl : s.heap.get? l = some (Lo vs n)) (hi : Nums vs ns)
    (q : ∀ t s', St B g env vals s' news → Q (.int ns.sum t) s') : wpAny (model prog w) A (call (.builtin "sum") [.ref l]) Q E s := by
  obtain ⟨m', L, ev⟩ := D.led
  exact up (LSm.sum_ints L.fr L.nw hA (D.lst hl) hi.are fun h' tk t' F' N' u => q _ _ (D.to ⟨m', ⟨F', N', L.ord⟩, ev⟩ rfl u))
theorem ne_bools {a b : Bool} {Q : Value → Shared → Prop} (h : Q (.bool (!(a == b))) s) : wpAny (model prog w) A (compareOp .NotEq (.bool a) (.bool b)) Q E s := PySem.EqBoolInt.of_rcne (SeqAt.RcNeAt.bool_bool a b) h
theorem ne_txt {a b : Addr} {x : List Nat} {t u : Tok} {n m : Nat} {Q : Value → Shared → Prop} (hl : s.heap.get? a = some (Lo [.str (T x) t] n)) (hl' : s.heap.get? b = some (Lo [.str (T x) u] m)) (hu : A.units < cLine)
    (h : Q (.bool false) s) : wpAny (model prog w) A (compareOp .NotEq (.ref a) (.ref b)) Q E s :=
  PySem.EqBoolInt.of_rcne (RcNeAt.lists (items := #[.str (T x) t]) (items2 := #[.str (T x) u]) (e := fun _ => true) ⟨_, hl, rfl, n, rfl⟩ ⟨_, hl', rfl, m, rfl⟩ rfl hu fun j h1 h2 => by
    have hj : j = 0 := by simpa using h1
    subst hj
    have := EqAt.str_str (A := A.in1) (s := s) (T x) t (T x) u
    rw [beq_self_eq_true] at this
    exact this) (by simpa using h)
end
theorem Nums.append {vs ws is js} (h : Nums vs is) (k : Nums ws js) : Nums (vs ++ ws) (is ++ js) := by
  induction h with
  | nil => exact k
  | cons _ ih => exact .cons ih
theorem r_newlist_n {B : Shared} {g : Heap} {env : Env} {vals : Vals} {s : Shared} {news : News'} {M : Model} {A : Around} {E : Value → Shared → Prop} {vs : List Value} {ns : List Int} {Q : Value → Shared → Prop} (hn : Nums vs ns) (D : St B g env vals s news) (hsz : vs.length ≤ 16777216)
    (k : ∀ l ws s', Nums ws ns → ws.length = vs.length → St B g env vals s' ((l, Lo ws 0) :: news) → Q (.ref l) s') : wpAny M A (newList vs) Q E s :=
  r_newlist D hsz fun l s' _ D => k l vs s' hn rfl D

end
theorem fill_all : PySem.Challenge.rw_kt0083_01.Holds → hd.heap_39 = hd.heap_39 := by
  k_fill
  intro _; rfl
local macro_rules | `(tactic| wtm_at "lit") => `(tactic| with_reducible first | exact lit0 | exact lit1 | exact lit2 | exact lit3 | exact lit4 | exact lit5 | exact lit6 | exact lit7 | exact lit8 | exact lit9 | exact lit10 | exact lit11 | exact lit12 | exact lit13 | exact lit14 | exact lit15 | exact lit16 | exact lit17 | exact lit18 | exact lit19 | exact lit20 | exact lit21 | exact lit22 | exact lit23 | exact lit24 | exact lit25 | exact lit26 | exact lit27 | exact lit28 | exact lit29 | exact lit30 | exact lit32 | exact lit33 | exact lit35 | exact lit36 | exact lit37 | exact lit38 | exact lit39 | exact lit40 | exact lit41 | exact lit42 | exact lit43 | exact lit44 | exact lit45 | exact lit46 | exact lit47 | exact lit48 | exact lit49 | exact lit50 | exact lit51 | exact lit52 | exact lit53 | exact lit54 | exact lit55 | exact lit56 | exact lit57 | exact lit58 | exact lit59 | exact lit60 | exact lit61 | exact lit31 | exact lit34)
local macro_rules | `(tactic| wtm_at "in") => `(tactic| first | with_reducible exact At.head | (with_reducible apply At.tail; wtm_at "in"))
local macro_rules | `(tactic| wtm_at "put") => `(tactic| first | with_reducible exact Put.head | (with_reducible apply Put.tail; wtm_at "put"))
local macro_rules | `(tactic| wtm_at "mem") => `(tactic| first | with_reducible exact List.mem_cons_self | (with_reducible apply List.mem_cons_of_mem; wtm_at "mem"))
local macro_rules | `(tactic| wtm_at "rf") => `(tactic| with_unfolding_all exact rfl)
local macro_rules | `(tactic| wtm_at "sz") => `(tactic| first | omega | (simp only [List.length_append, List.length_cons, List.length_nil, List.length_take, List.length_drop] at *; omega))
local macro_rules | `(tactic| wtm_at "nx") => do
  let D := Lean.mkIdent `D; let s := Lean.mkIdent `s; let t := Lean.mkIdent `t
  `(tactic| (clear $D:ident; (try clear $s:ident); intro $t:ident $s:ident $D:ident))
local macro_rules | `(tactic| wtm_at "nx0") => do
  let D := Lean.mkIdent `D; let s := Lean.mkIdent `s
  `(tactic| (clear $D:ident; (try clear $s:ident); intro $s:ident $D:ident))
local macro_rules | `(tactic| wtm_at "upd") => `(tactic| first | with_reducible exact UpdP.head | (with_reducible apply UpdP.tail; wtm_at "upd"))
local macro_rules | `(tactic| wtm_at "turn") => `(tactic| first | with_reducible exact Turn.head | (with_reducible apply Turn.tail; wtm_at "turn"))
local macro_rules | `(tactic| wtm_at "has") => do
  let D := Lean.mkIdent `D
  `(tactic| first | (with_reducible refine St.get $D ?h0; (case h0 => wtm_at "mem")) | (with_reducible refine St.keep $D _ _ ?h0; (case h0 => assumption)))
local macro_rules | `(tactic| wtm_at "nl") => do
  let D := Lean.mkIdent `D; let s := Lean.mkIdent `s
  `(tactic| (clear $D:ident; (try clear $s:ident)))
local macro_rules | `(tactic| wtm_at "nums") => `(tactic| first | with_reducible exact Nums.nil | (with_reducible apply Nums.cons; wtm_at "nums"))
local macro_rules | `(tactic| wtm_at "txts") => `(tactic| first | with_reducible exact Txts.nil | (with_reducible apply Txts.cons; wtm_at "txts"))
local macro_rules | `(tactic| wtm_at "nxt") => do
  let D := Lean.mkIdent `D; let s := Lean.mkIdent `s; let a := Lean.mkIdent `a; let ha := Lean.mkIdent `haB
  `(tactic| (clear $D:ident; (try clear $s:ident); intro $a:ident $s:ident $ha:ident $D:ident))
local macro_rules | `(tactic| wtm_at "nxb") => do
  let D := Lean.mkIdent `D; let s := Lean.mkIdent `s; let a := Lean.mkIdent `ad; let ha := Lean.mkIdent `hadB
  `(tactic| (clear $D:ident; (try clear $s:ident); intro $a:ident $s:ident $ha:ident $D:ident))
local macro_rules | `(tactic| wtm_at "sub") => `(tactic| first | with_reducible exact List.Sublist.refl _ | (with_reducible refine List.Sublist.cons_cons _ ?_; wtm_at "sub") | (with_reducible refine List.Sublist.cons _ ?_; wtm_at "sub") | exact List.nil_sublist _)
local macro_rules | `(tactic| wtm_at "hole") => `(tactic| first | with_reducible exact Hole.head | (with_reducible apply Hole.tail; wtm_at "hole"))
local macro_rules | `(tactic| wtm_at "nxf") => do
  let D := Lean.mkIdent `D; let s := Lean.mkIdent `s; let es := Lean.mkIdent `es; let n := Lean.mkIdent `n; let hF := Lean.mkIdent `hF
  `(tactic| (clear $D:ident; (try clear $s:ident); intro $es:ident $n:ident $s:ident $hF:ident $D:ident))
local macro_rules | `(tactic| wtm_at "fo") => `(tactic| with_reducible first | exact fo797l _ | exact fo797p _ | exact fo797o _ | exact fo797i _ | exact fo797c _ | exact fo797j _ | exact fo797k _ | exact fo797g _ | exact fo797e _ | exact fo797f _ | exact fo797a _ | exact fo662a _ | exact fo662b _ | exact fo662c _ | exact fo797b _ | exact fo797d _ | exact fo797h _ | exact fo797m _ | exact fo797n _ | exact fo797q _ | exact fo797r _ | exact fo797s _)
local macro_rules | `(tactic| wtm_at "mo") => `(tactic| with_reducible first | exact mo662a _ | exact mo662b _ | exact mo662c _ | exact mo797a _ | exact mo797b _)
local macro_rules | `(tactic| wtm_at "pu") => `(tactic| ((case hx => wtm_at "mem"); (case hd => wtm_at "mem"); (case hf => assumption); wtm_at "nx0"; wtm_at "ms"))
local macro_rules | `(tactic| wtm_at "m") => do
  let D := Lean.mkIdent `D; let S := Lean.mkIdent `S; let H := Lean.mkIdent `H; let hA := Lean.mkIdent `hA'
  `(tactic| first
  | with_reducible refine wpAny_execs_cons ?_
  | with_reducible refine wpAny_execs_nil ?_
  | (with_reducible refine' r_ld $D ?hx ?_; (case hx => wtm_at "in"))
  | (with_reducible refine' q_str $D ?hx ?_; (case hx => wtm_at "lit"); wtm_at "nx")
  | (with_reducible refine r_int $D ?_; wtm_at "nx")
  | with_reducible refine wpAny_If ?_
  | (with_reducible refine r_assign ?_ ?hs; (case hs => wtm_at "rf"))
  | with_reducible refine wpAny_AugAssign_Name ?_
  | with_reducible refine wpAny_Return_some ?_
  | with_reducible refine wpAny_Break ?_
  | (with_reducible refine wpAny_isTrue_Compare1 ?_ ?hm; (case hm => wtm_at "rf"))
  | (with_reducible refine wpAny_Compare1 ?_ ?hm; (case hm => wtm_at "rf"))
  | with_reducible refine wpAny_BinOp ?_
  | (with_reducible refine' r_ldn $D ?hx ?_; (case hx => wtm_at "in"))
  | (with_reducible refine' r_gl $S $H $D ?hx ?_; (case hx => wtm_at "mem"))
  | (with_reducible refine' r_st $D ?hx ?_; (case hx => wtm_at "put"); wtm_at "nx0")
  | with_reducible refine wpAny_truthy_bool ?_
  | with_reducible refine ite_t rfl ?_
  | with_reducible refine ite_f rfl ?_
  | with_reducible refine q_eq ?_
  | with_reducible refine q_ne ?_
  | with_reducible refine eq_int ?_
  | with_reducible refine ne_int ?_
  | with_reducible refine lt_int ?_
  | with_reducible refine gt_int ?_
  | with_reducible refine le_int ?_
  | with_reducible refine ge_int ?_
  | with_reducible refine IfExp_ ?_
  | with_reducible refine isTrue_not ?_
  | with_reducible refine isTrue_or_nil ?_
  | with_reducible refine isTrue_or ?_
  | with_reducible refine isTrue_and_nil ?_
  | with_reducible refine isTrue_and ?_
  | (with_reducible refine wpAny_isTrue_value ?_ ?he; (case he => wtm_at "rf"))
  | with_reducible refine BoolOp_one ?_
  | with_reducible refine BoolOp_or ?_
  | with_reducible refine BoolOp_and ?_
  | with_reducible refine Constant_bool ?_
  | with_reducible refine Constant_none ?_
  | with_reducible refine r_slice ?_
  | with_reducible refine Subscript_ ?_
  | with_reducible refine evalPart_some_step ?_
  | with_reducible refine evalPart_none_step ?_
  | (with_reducible refine' r_replace ?ha ?hb ?hne ?hz ?_ ?he; (case ha => wtm_at "lit"); (case hb => wtm_at "lit"); (case hne => decide); (case hz => decide); (case he => wtm_at "rf"))
  | (with_reducible refine rep_end $D ?hl ?_; (case hl => wtm_at "sz"); wtm_at "nx")
  | (with_reducible refine r_method ?_ ?he; (case he => wtm_at "rf"))
  | (with_reducible refine PyProof.Rows.Call_ ?_ ?he; (case he => wtm_at "rf"))
  | (with_reducible refine PyProof.Rows.callWith_builtin1 ?_ ?he ?hp; (case he => wtm_at "rf"); (case hp => wtm_at "rf"))
  | (with_reducible refine r_meth1 ?_ ?he ?hp; (case he => wtm_at "rf"); (case hp => wtm_at "rf"))
  | (with_reducible refine' r_callK $S $D ?hk ?_ ?he ?hp; (case hk => k_is); (case he => wtm_at "rf"); (case hp => wtm_at "rf"))
  | (with_reducible refine spliced_more ?_ ?he; (case he => wtm_at "rf"))
  | with_reducible refine spliced_none ?_
  | (with_reducible refine q_add $D ?hz ?_; (case hz => wtm_at "sz"); wtm_at "nx")
  | (with_reducible refine q_iadd $D ?hz ?_; (case hz => wtm_at "sz"); wtm_at "nx")
  | (with_reducible refine q_len $D ?hz ?_; (case hz => wtm_at "sz"); wtm_at "nx")
  | with_reducible refine q_in ?_
  | (with_reducible refine r_add_int $D ?_; wtm_at "nx")
  | (with_reducible refine q_div $D ?hb ?_; (case hb => decide); wtm_at "nx")
  | (with_reducible refine q_mod $D ?hb ?_; (case hb => decide); wtm_at "nx")
  | (with_reducible refine q_chr $D ?hb ?_; (case hb => omega); wtm_at "nx")
  | (with_reducible refine r_iadd_int $D ?_; wtm_at "nx")
  | (with_reducible refine r_sub_int $D ?_; wtm_at "nx")
  | with_reducible refine r_unary ?_
  | with_reducible refine r_inK $S $D ?_
  | (with_reducible refine r_neg_int $D ?_; wtm_at "nx")
  | with_reducible refine PySem.GM.find ?_
  | with_reducible refine PySem.GM.replace ?_
  | with_reducible refine PySem.GM.join ?_
  | with_reducible refine gm_translate ?_
  | with_reducible refine PySem.IsiPair.str_str ?_
  | (with_reducible refine' r_m_append $D ?hm ?_; (case hm => wtm_at "has"))
  | (with_reducible refine' r_append $D ?hU ?hz ?_; (case hU => wtm_at "upd"); (case hz => wtm_at "sz"); wtm_at "nx0")
  | (with_reducible refine' r_len_list $D ?hm ?hz ?_; (case hm => wtm_at "has"); (case hz => wtm_at "sz"); wtm_at "nx")
  | with_reducible refine wpAny_assign_Name ?_
  | (with_reducible refine r_newtuple $D ?hz ?_; (case hz => exact Nat.le_of_ble_eq_true rfl); wtm_at "nxt")
  | (with_reducible refine' r_notin_tup_int $D ?hT ?_; (case hT => wtm_at "nums"); wtm_at "nx0")
  | (with_reducible refine' r_in_tup_str $D ?hT ?_; (case hT => wtm_at "txts"); wtm_at "nx0")
  | with_reducible refine is_ref_none ?_
  | (with_reducible refine' r_item_list $D ?hm ?h0 ?hx ?hz ?_ ?hs ?ht; (case hm => wtm_at "has"); (case h0 => decide); (case hx => wtm_at "rf"); (case hz => wtm_at "sz"); (case hs => wtm_at "rf"); (case ht => (intro _; wtm_at "rf")))
  | (with_reducible refine' r_item_last $D ?hm ?hz ?_ ?hs ?ht; (case hm => wtm_at "has"); (case hz => wtm_at "sz"); (case hs => wtm_at "rf"); (case ht => (intro _; wtm_at "rf")))
  | (with_reducible refine wpAny_AugAssign_SubscriptAny ?_ ?hi; (case hi => (intros; wtm_at "rf")))
  | (with_reducible refine' r_getlast $D ?hm ?hz ?_; (case hm => wtm_at "has"); (case hz => wtm_at "sz"))
  | (with_reducible refine' r_setlast $D ?hU ?_; (case hU => wtm_at "upd"); wtm_at "nx0")
  | (with_reducible refine' r_truthy_list $D ?hm ?hz ?_; (case hm => wtm_at "has"); (case hz => wtm_at "sz"); wtm_at "nx0")
  | (with_reducible refine q_truthy $D ?hz ?_; (case hz => wtm_at "sz"); wtm_at "nx0")
  | with_reducible refine q_notin ?_
  | with_reducible refine List_ ?_
  | with_reducible refine Tuple_ ?_
  | (with_reducible refine' r_expr $D ?_ ?he; (case he => wtm_at "rf"))
  | (with_reducible refine r_pairS (Room.hd $hA) ?_ ?hs ?hw; (case hs => wtm_at "rf"); (case hw => (with_reducible refine' swapped2 (va := .none) (vb := .none) $D ?p1 ?p2 ?p3; (case p1 => wtm_at "put"); (case p2 => wtm_at "put"); (case p3 => wtm_at "rf"))))
  | (with_reducible refine r_pairN (Room.hd $hA) ?_ ?hs ?hw; (case hs => wtm_at "rf"); (case hw => wtm_at "rf"))
  | (with_reducible refine Tup2.mk1 $D ?_; wtm_at "nx0")
  | (with_reducible refine Tup2.mk2 $D ?_; wtm_at "nx0")
  | with_reducible refine Attribute_name ?_
  | (with_reducible refine' r_attr_append $D ?hx ?_; (case hx => wtm_at "has"); wtm_at "nxb")
  | (with_reducible refine' r_callBnd $D ?hx ?_ ?he ?hp; (case hx => wtm_at "mem"); (case he => wtm_at "rf"); (case hp => wtm_at "rf"))
  | (with_reducible refine' r_bndMid $D ?hx ?_; (case hx => wtm_at "mem"))
  | (with_reducible refine' r_add $D ?hx ?hU ?hz ?_; (case hx => wtm_at "mem"); (case hU => wtm_at "upd"); (case hz => wtm_at "sz"); wtm_at "nx0")
  | (with_reducible refine' q_join0 $D ?hm ?hT ?hz ?_; (case hm => wtm_at "has"); (case hT => assumption); (case hz => wtm_at "sz"); wtm_at "nx")
  | with_reducible refine r_joined ?_
  | with_reducible refine r_jcons ?_
  | (with_reducible refine r_jpair ?hz ?_; (case hz => wtm_at "sz"))
  | (with_reducible refine r_jnil $D ?hz ?_; (case hz => wtm_at "sz"); wtm_at "nx")
  | with_reducible refine FormattedValue_plain ?_
  | (with_reducible refine q_fmt $D ?hz ?_; (case hz => wtm_at "sz"); wtm_at "nx")
  | with_reducible refine isnot_str_ref ?_
  | with_reducible refine is_str_ref ?_
  | with_reducible refine wpAny_isNot_ref_self ?_
  | with_reducible refine wpAny_is_ref_self ?_
  | with_reducible refine wpAny_Assert_new (Room.hd $hA) ?_
  | (with_reducible refine' r_getf $S $D ?hx ?hd ?hf ?ha ?hok ?hv ?_; (case hx => wtm_at "has"); (case hd => wtm_at "has"); (case hf => assumption); (case ha => wtm_at "in"); (case hok => wtm_at "fo"); (case hv => with_reducible first | exact hd_str | exact hd_int | exact hd_ref | exact hd_bool | exact hd_none); wtm_at "nx0")
  | (with_reducible refine' r_setf $S $D ?hx ?hU ?hf ?hp ?hl ?hok ?_; (case hx => wtm_at "has"); (case hU => wtm_at "hole"); (case hf => assumption); (case hp => wtm_at "put"); (case hl => wtm_at "rf"); (case hok => wtm_at "fo"); wtm_at "nxf")
  | (with_reducible refine' r_meth $S $D ?hx ?hd ?hf ?ha ?hok ?_; (case hx => wtm_at "has"); (case hd => wtm_at "has"); (case hf => assumption); (case ha => kernel_rfl); (case hok => wtm_at "mo"))
  | (with_reducible refine plainObj_wpAny_Assign_Attribute ?_ ?hs; (case hs => wtm_at "rf"))
  | with_reducible refine wpAny_AugAssign_AttributeAny ?_
  | (with_reducible refine' r_callF $S $D ?hk ?_ ?he ?hp; (case hk => k_is); (case he => wtm_at "rf"); (case hp => wtm_at "rf"))
  | (with_reducible refine r_callF0 $S $D ?hk ?_; (case hk => k_is))
  | (with_reducible refine PyProof.Rows.callWith_type1 ?_ ?he ?hp; (case he => wtm_at "rf"); (case hp => wtm_at "rf"))
  | with_reducible refine call_int_int ?_
  | with_reducible refine q_type_int ?_
  | with_reducible refine q_type_str ?_
  | (with_reducible refine' r_truthy_deque $D ?hm ?_; (case hm => wtm_at "mem"); wtm_at "nx0")
  | with_reducible refine EqNone.eq_str_none ?_
  | with_reducible refine EqNone.eq_none_none ?_
  | with_reducible refine isnot_type_same ?_
  | with_reducible refine isnot_str_none ?_
  | with_reducible refine isnot_int_none ?_
  | with_reducible refine isnot_none_none ?_
  | with_reducible refine isnot_ref_none ?_
  | with_reducible refine is_str_none ?_
  | with_reducible refine is_int_none ?_
  | with_reducible refine is_none_none ?_
  | dsimp only)
local macro_rules | `(tactic| wtm_at "ms") => `(tactic| repeat wtm_at "m")

local macro_rules | `(tactic| wtm_at "ar") => `(tactic| first | assumption | omega | exact ⟨by omega, by omega⟩ | decide)
local macro_rules | `(tactic| wtm_at "sl") => `(tactic| ((case hi => wtm_at "ar"); (case hj => wtm_at "ar"); (case hb => wtm_at "ar"); (case hs => wtm_at "rf"); (case ht => (intro _; wtm_at "rf")); wtm_at "nx"; wtm_at "ms"))
local macro_rules | `(tactic| wtm_at "it") => `(tactic| ((case hi => wtm_at "ar"); (case hs => wtm_at "rf"); (case ht => (intro _; wtm_at "rf")); wtm_at "nx"; wtm_at "ms"))
local macro_rules | `(tactic| wtm_at "li") => `(tactic| ((case hm => wtm_at "has"); (case hi => wtm_at "ar"); (case hz => wtm_at "ar"); (case hs => wtm_at "rf"); (case ht => (intro _; wtm_at "rf")); wtm_at "ms"))
section
def un257 : List Nat → List Nat
  | [] => []
  | c :: r => if c = 34 then (match r with | 34 :: r' => 34 :: un257 r' | _ => []) else c :: un257 r

theorem un257_ne {c : Nat} {r : List Nat} (h : c ≠ 34) : un257 (c :: r) = c :: un257 r := by rw [un257.eq_def]; exact if_neg h
theorem un257_two {r : List Nat} : un257 (34 :: 34 :: r) = 34 :: un257 r := by rw [un257.eq_def]; rfl
theorem un257_end {c : Nat} {r : List Nat} (h : c ≠ 34) : un257 (34 :: c :: r) = [] := by
  rw [un257.eq_def]
  simp only [if_true]
  split
  · rename_i e; injection e with e1 e2; exact absurd e1 h
  · rfl
theorem t257 (w : World) (r : List Nat) (hr : r.length ≤ 1000000) (t0 : Tok) : Fn (hd.heap_39 w.params) PySem.Challenge.pw_kt0083_01 w 3 (.ref 114) [.str (T ([50, 53, 55, 32, 34] ++ r)) t0] [] (fun v own => ∃ t, v = .str (T (un257 r)) t ∧ own = []) := by
  intro A s g R S hA O k
  have hs0 : g.objs.size ≤ s.heap.objs.size := O.size
  refine' enter (binds := [(Str.ofString "resp", .str (T ([50, 53, 55, 32, 34] ++ r)) t0)]) (more := [Str.ofString "dirname", Str.ofString "i", Str.ofString "n", Str.ofString "c"]) (gl := [(Str.ofString "len", .builtin "len")]) S O hA ?h1 ?h2 ?h3 ?h4 ?h5 ?_
  case h1 => k_is
  case h2 => k_is
  case h3 => exact BindsTo.of_eq rfl
  case h4 => kernel_rfl
  case h5 => kernel_rfl
  intro env A' s1 hA' H D
  replace D : St s g env [(Str.ofString "resp", some (.str (T ([50, 53, 55, 32, 34] ++ r)) t0)), (Str.ofString "dirname", none), (Str.ofString "i", none), (Str.ofString "n", none), (Str.ofString "c", none)] s1 [] := D
  generalize s = B at D k hs0 O
  clear O
  have hl : ([50, 53, 55, 32, 34] ++ r).length = 5 + r.length := by simp only [List.length_append, List.length_cons, List.length_nil]
  have hz : ([50, 53, 55, 32, 34] ++ r).length ≤ 16777216 := by omega
  wtm_at "ms"
  refine q_slice_ns D (by decide) hz ?_; wtm_at "nx"; wtm_at "ms"
  refine q_slice_ss D ⟨by decide, by omega⟩ (by decide) hz ?_; wtm_at "nx"; wtm_at "ms"
  refine m_while (fun n s => ∃ (k : Nat) (acc : List Nat) (i : Int) (ti td tn : Tok) (vc : Option Value), k ≤ r.length ∧ n = r.length - k ∧ i = 5 + k ∧ acc ++ un257 (r.drop k) = un257 r ∧ acc.length ≤ k ∧
    St B g env [(Str.ofString "resp", some (.str (T ([50, 53, 55, 32, 34] ++ r)) t0)), (Str.ofString "dirname", some (.str (T acc) td)), (Str.ofString "i", some (.int i ti)), (Str.ofString "n", some (.int (([50, 53, 55, 32, 34] ++ r).length : Int) tn)), (Str.ofString "c", vc)] s []) r.length ?_ ?_
  · exact ⟨0, [], 5, _, _, _, _, Nat.zero_le _, rfl, rfl, rfl, Nat.le_refl _, D⟩
  clear D
  rintro n s ⟨j, acc, i, ti, td, tn, vc, hj, rfl, rfl, hacc, hla, D⟩
  wtm_at "ms"
  refine ite_b (fun h => ?_) (fun h => ?_)
  · have hlt : j < r.length := by have := of_decide_eq_true h; omega
    have hc : r[j]? = some r[j] := List.getElem?_eq_getElem hlt
    have hd : r.drop j = r[j] :: r.drop (j + 1) := List.drop_eq_getElem_cons hlt
    generalize r[j] = c at hc hd
    wtm_at "ms"
    refine q_item (c := c) D (by omega) ?_ hz ?_
    · rw [List.getElem?_append_right (by simp only [List.length_cons, List.length_nil]; omega)]
      rw [← hc]; congr 1; simp only [List.length_cons, List.length_nil]; omega
    wtm_at "nx"; wtm_at "ms"
    rw [hd] at hacc
    refine ite_b (fun h2 => ?_) (fun h2 => ?_)
    · have hc34 : c = 34 := by simpa using h2
      subst hc34
      wtm_at "ms"
      refine ite_b (fun h3 => ?_) (fun h3 => ?_)
      · have hend : j + 1 = r.length := by have := of_decide_eq_true h3; omega
        wtm_at "ms"
        have e : acc = un257 r := by rw [← hacc, List.drop_eq_nil_of_le (by omega)]; simp [un257]
        exact D.leaveS hs0 e k
      · have hlt2 : j + 1 < r.length := by have := of_decide_eq_false h3; omega
        have hc2 : r[j + 1]? = some r[j + 1] := List.getElem?_eq_getElem hlt2
        have hd2 : r.drop (j + 1) = r[j + 1] :: r.drop (j + 2) := List.drop_eq_getElem_cons hlt2
        generalize r[j + 1] = c2 at hc2 hd2
        rw [hd2] at hacc
        wtm_at "ms"
        refine q_item (c := c2) D (by omega) ?_ hz ?_
        · rw [List.getElem?_append_right (by simp only [List.length_cons, List.length_nil]; omega)]
          rw [← hc2]; congr 1; simp only [List.length_cons, List.length_nil]; omega
        wtm_at "nx"; wtm_at "ms"
        refine ite_b (fun h4 => ?_) (fun h4 => ?_)
        · wtm_at "ms"
          have hne : c2 ≠ 34 := by simpa using h4
          have e : acc = un257 r := by rw [← hacc, un257_end hne, List.append_nil]
          exact D.leaveS hs0 e k
        · have hc34 : c2 = 34 := by simpa using h4
          subst hc34
          wtm_at "ms"
          refine ⟨r.length - (j + 2), by omega, j + 2, acc ++ [34], _, _, _, _, _, by omega, rfl, ?_, ?_, ?_, D⟩
          · omega
          · rw [← hacc, un257_two, List.append_assoc]; rfl
          · simp only [List.length_append, List.length_cons, List.length_nil]; omega
    · have hne : c ≠ 34 := by simpa using h2
      wtm_at "ms"
      refine ⟨r.length - (j + 1), by omega, j + 1, acc ++ [c], _, _, _, _, _, by omega, rfl, ?_, ?_, ?_, D⟩
      · omega
      · rw [← hacc, un257_ne hne, List.append_assoc]; rfl
      · simp only [List.length_append, List.length_cons, List.length_nil]; omega
  · wtm_at "ms"
    have hend : j = r.length := by have := of_decide_eq_false h; omega
    have e : acc = un257 r := by rw [← hacc, List.drop_eq_nil_of_le (by omega)]; simp [un257]
    exact D.leaveS hs0 e k

end
section
def barred (c : Nat) : List Nat := if c ∈ [42, 63, 91] then [91, c, 93] else [c]

theorem tBarred (w : World) (c : Nat) (t0 : Tok) : Fn (hd.heap_39 w.params) PySem.Challenge.pw_kt0083_01 w 3 (.ref 816) [.str (T [c]) t0] [] (fun v own => ∃ t, v = .str (T (barred c)) t ∧ own = []) := by
  intro A s g R S hA O k
  have hs0 : g.objs.size ≤ s.heap.objs.size := O.size
  refine' enter (binds := [(Str.ofString "sign", .str (T [c]) t0)]) (more := []) (gl := []) S O hA ?h1 ?h2 ?h3 ?h4 ?h5 ?_
  case h1 => k_is
  case h2 => k_is
  case h3 => exact BindsTo.of_eq rfl
  case h4 => kernel_rfl
  case h5 => kernel_rfl
  intro env A' s1 hA' H D
  replace D : St s g env [(Str.ofString "sign", some (.str (T [c]) t0))] s1 [] := D
  generalize s = B at D k hs0 O
  clear O
  wtm_at "ms"
  refine ite_b (fun h => ?_) (fun h => ?_)
  · have hc : c ∈ [42, 63, 91] := of_decide_eq_true h
    wtm_at "ms"
    exact D.leaveS hs0 (by rw [barred, if_pos hc]; rfl) k
  · have hc : ¬ c ∈ [42, 63, 91] := of_decide_eq_false h
    wtm_at "ms"
    exact D.leaveS hs0 (by rw [barred, if_neg hc]) k

/-- the dressing of a text -/
def dressW (way : Int) (l : List Nat) : List Nat :=
  if way = 1 then [50, 53, 55, 32, 34] ++ sub1 34 [34, 34] l ++ [34] else [34] ++ sub1 34 [92, 34] (sub1 92 [92, 92] l) ++ [34]
theorem sub1_len (c : Nat) (z l : List Nat) (hz : z.length = 2) : (sub1 c z l).length ≤ 2 * l.length := by
  induction l with
  | nil => simp [sub1]
  | cons k r ih =>
    have : sub1 c z (k :: r) = (if k = c then z else [k]) ++ sub1 c z r := rfl
    rw [this, List.length_append, List.length_cons]
    split <;> simp only [hz, List.length_cons, List.length_nil] <;> omega
theorem tDressed (w : World) (way : Int) (l : List Nat) (hl : l.length ≤ 10000) (t0 t1 : Tok) : Fn (hd.heap_39 w.params) PySem.Challenge.pw_kt0083_01 w 3 (.ref 856) [.int way t0, .str (T l) t1] [] (fun v own => ∃ t, v = .str (T (dressW way l)) t ∧ own = []) := by
  intro A s g R S hA O k
  have hs0 : g.objs.size ≤ s.heap.objs.size := O.size
  refine' enter (binds := [(Str.ofString "way", .int way t0), (Str.ofString "text", .str (T l) t1)]) (more := []) (gl := []) S O hA ?h1 ?h2 ?h3 ?h4 ?h5 ?_
  case h1 => k_is
  case h2 => k_is
  case h3 => exact BindsTo.of_eq rfl
  case h4 => kernel_rfl
  case h5 => kernel_rfl
  intro env A' s1 hA' H D
  replace D : St s g env [(Str.ofString "way", some (.int way t0)), (Str.ofString "text", some (.str (T l) t1))] s1 [] := D
  generalize s = B at D k hs0 O
  clear O
  have h1 := sub1_len 34 [34, 34] l rfl
  have h2 := sub1_len 92 [92, 92] l rfl
  have h3 := sub1_len 34 [92, 34] (sub1 92 [92, 92] l) rfl
  wtm_at "ms"
  refine ite_b (fun h => ?_) (fun h => ?_)
  · wtm_at "ms"
    exact D.leaveS hs0 (by rw [dressW, if_pos (eq_of_beq h)]) k
  · wtm_at "ms"
    exact D.leaveS hs0 (by rw [dressW, if_neg (by intro e; subst e; cases h)]) k

end
section
/-- the sign that a number draws -/
def signOf (x : Nat) : Nat := if x / 8 % 8 = 7 then 200 + x / 64 else [34, 34, 92, 92, 42, 91, 63].getD (x / 8 % 8) 0
theorem tSign (w : World) (x : Nat) (hx : x < 1000000) (t0 : Tok) : Fn (hd.heap_39 w.params) PySem.Challenge.pw_kt0083_01 w 3 (.ref 837) [.int x t0] [] (fun v own => ∃ t, v = .str (T [signOf x]) t ∧ own = []) := by
  intro A s g R S hA O k
  have hs0 : g.objs.size ≤ s.heap.objs.size := O.size
  refine' enter (binds := [(Str.ofString "x", .int x t0)]) (more := []) (gl := [(Str.ofString "chr", .builtin "chr")]) S O hA ?h1 ?h2 ?h3 ?h4 ?h5 ?_
  case h1 => k_is
  case h2 => k_is
  case h3 => exact BindsTo.of_eq rfl
  case h4 => kernel_rfl
  case h5 => kernel_rfl
  intro env A' s1 hA' H D
  replace D : St s g env [(Str.ofString "x", some (.int x t0))] s1 [] := D
  generalize s = B at D k hs0 O
  clear O
  wtm_at "ms"
  refine ite_b (fun h => ?_) (fun h => ?_)
  · have h7 : (x : Int) / 8 % 8 = 7 := eq_of_beq h
    wtm_at "ms"
    refine D.leaveS hs0 ?_ k
    rw [signOf, if_pos (by omega)]
    congr 1
  · have h7 : ¬ (x : Int) / 8 % 8 = 7 := fun e => by rw [e] at h; cases h
    wtm_at "ms"
    have hi : x / 8 % 8 < 7 := by omega
    have hg : ([34, 34, 92, 92, 42, 91, 63] : List Nat)[((x : Int) / 8 % 8).toNat]? = some (signOf x) := by
      have e : ((x : Int) / 8 % 8).toNat = x / 8 % 8 := by omega
      rw [e, signOf, if_neg (by omega)]
      generalize x / 8 % 8 = j at hi
      rcases j with _ | _ | _ | _ | _ | _ | _ | j <;> first | rfl | omega
    refine q_item D (by omega) hg (by decide) ?_; wtm_at "nx"; wtm_at "ms"
    exact D.leaveS hs0 rfl k

end
section
def itemOf (x : Nat) : List (List Nat) := if x % 8 < 2 then [[]] else if x % 8 > 2 then [[signOf x]] else []
def nameOf (x : Nat) : List Nat := if x % 8 = 0 ∨ x % 8 = 3 then [] else [signOf x]
theorem itemLen (xs : List Nat) : (xs.flatMap itemOf).length ≤ xs.length := by
  induction xs with
  | nil => simp
  | cons x r ih =>
    rw [List.flatMap_cons, List.length_append, List.length_cons]
    have : (itemOf x).length ≤ 1 := by unfold itemOf; split <;> (try split) <;> simp
    omega
theorem nameLen (xs : List Nat) : (xs.flatMap nameOf).length ≤ xs.length := by
  induction xs with
  | nil => simp
  | cons x r ih =>
    rw [List.flatMap_cons, List.length_append, List.length_cons]
    have : (nameOf x).length ≤ 1 := by unfold nameOf; split <;> simp
    omega
theorem tDrawn (w : World) (l : Addr) (vs : List Value) (n : Nat) (xs : List Nat) (hxs : Nums vs (xs.map Nat.cast)) (hb : ∀ x ∈ xs, x < 1000000) (hl : xs.length ≤ 1000) :
    FnR (hd.heap_39 w.params) PySem.Challenge.pw_kt0083_01 w 5 (.ref 844) [.ref l] [(l, Lo vs n)]
      (fun v own => ∃ a b ws k t, v = .ref a ∧ own = [(a, tupObj [.ref b, .str (T (xs.flatMap nameOf)) t]), (b, Lo ws k)] ∧ Txts ws (xs.flatMap itemOf)) := by
  intro A s g R S hA O hr k
  have hs0 : g.objs.size ≤ s.heap.objs.size := O.size
  have hlst : g.get? l = some (Lo vs n) := hr _ (List.mem_singleton.mpr rfl)
  refine' enter (binds := [(Str.ofString "numbers", .ref l)]) (more := [Str.ofString "items", Str.ofString "name", Str.ofString "x"]) (gl := [(Str.ofString "_law_sign", .ref 837)]) S O hA ?h1 ?h2 ?h3 ?h4 ?h5 ?_
  case h1 => k_is
  case h2 => k_is
  case h3 => exact BindsTo.of_eq rfl
  case h4 => kernel_rfl
  case h5 => kernel_rfl
  intro env A' s1 hA' H D
  replace D : St s g env [(Str.ofString "numbers", some (.ref l)), (Str.ofString "items", none), (Str.ofString "name", none), (Str.ofString "x", none)] s1 [] := D
  generalize s = B at D k hs0 O
  clear O
  wtm_at "ms"
  refine r_newlist D (by decide) ?_; wtm_at "nl"; intro b s hbB D; wtm_at "ms"
  refine r_for hA'.hd ?_
  wtm_at "ms"
  refine ⟨_, _, _, _, l, vs, n, fun I o i s => ∃ (ws : List Value) (kk : Nat) (t : Tok) (vx : Option Value), Txts ws ((xs.take i).flatMap itemOf) ∧
    St B g env [(Str.ofString "numbers", some (.ref l)), (Str.ofString "items", some (.ref b)), (Str.ofString "name", some (.str (T ((xs.take i).flatMap nameOf)) t)), (Str.ofString "x", vx)] s [(I, o), (b, Lo ws kk)],
    rfl, D, by wtm_at "has", fun I o s' D' => ⟨[], 0, _, _, .nil, D'⟩, ?_⟩
  rintro I o i s' hi ⟨ws, kk, t, vx, hws, D⟩
  refine ⟨_, _, _, n, _, _, D, by wtm_at "has", fun o' => ⟨_, by wtm_at "turn", fun v s' hv D => ?_⟩, fun hi s' D => ?_⟩
  · obtain ⟨xi, ti, hx, rfl⟩ := hxs.got hv
    rw [List.getElem?_map] at hx
    cases hxi : xs[i]? with
    | none => rw [hxi] at hx; cases hx
    | some x =>
    rw [hxi] at hx
    cases hx
    have hx6 := hb x (List.mem_of_getElem? hxi)
    have hti : xs.take (i + 1) = xs.take i ++ [x] := by rw [List.take_add_one, hxi]; rfl
    have e1 : (xs.take (i + 1)).flatMap itemOf = (xs.take i).flatMap itemOf ++ itemOf x := by rw [hti, List.flatMap_append, List.flatMap_singleton]
    have e2 : (xs.take (i + 1)).flatMap nameOf = (xs.take i).flatMap nameOf ++ nameOf x := by rw [hti, List.flatMap_append, List.flatMap_singleton]
    have hwl := hws.len
    have hil := Nat.le_trans (itemLen (xs.take i)) (List.length_take_le i xs)
    have hnl := Nat.le_trans (nameLen (xs.take i)) (List.length_take_le i xs)
    have hil2 : (xs.take i).length ≤ xs.length := List.length_take_le' i xs
    have hil3 := itemLen (xs.take i)
    have hnl3 := nameLen (xs.take i)
    clear hti hv hxi
    wtm_at "ms"
    have hi8 : x % 8 < 2 ∨ x % 8 = 2 ∨ x % 8 > 2 := by omega
    have h03 : (x : Int) % 8 ∈ ([0, 3] : List Int) ↔ (x % 8 = 0 ∨ x % 8 = 3) := by
      simp only [List.mem_cons, List.not_mem_nil, or_false]; omega
    refine ite_b (fun h1 => ?_) (fun h1 => ?_)
    · have h1' : x % 8 < 2 := by have := of_decide_eq_true h1; omega
      have ei : itemOf x = [[]] := if_pos h1'
      wtm_at "ms"
      refine ite_b (fun h2 => ?_) (fun h2 => ?_)
      · have en : nameOf x = [signOf x] := if_neg fun q => by rw [d_t (h03.mpr q)] at h2; cases h2
        wtm_at "ms"
        refine use0 (tSign w x hx6 _) S (hA'.less (by decide)) D fun v own' s0 hp D => ?_
        obtain ⟨tt, rfl, rfl⟩ := hp
        replace D := D.drop (List.Sublist.refl [(I, o'), (b, Lo (ws ++ [.str (T []) _]) (kk + 1))])
        wtm_at "ms"
        refine' ⟨_, _, _, _, ?hW, ?hD⟩
        case hD => rw [e2, en]; exact D
        case hW => rw [e1, ei]; exact hws.snoc
      · have en : nameOf x = [] := if_pos (by refine h03.mp ?_; by_cases q : (x : Int) % 8 ∈ ([0, 3] : List Int); exact q; rw [d_f q] at h2; cases h2)
        wtm_at "ms"
        refine' ⟨_, _, _, _, ?hW, ?hD⟩
        case hD => rw [e2, en, List.append_nil]; exact D
        case hW => rw [e1, ei]; exact hws.snoc
    · have h1' : ¬ x % 8 < 2 := by have := of_decide_eq_false h1; omega
      wtm_at "ms"
      refine ite_b (fun h2 => ?_) (fun h2 => ?_)
      · have h2' : x % 8 > 2 := by have := of_decide_eq_true h2; omega
        have ei : itemOf x = [[signOf x]] := (if_neg h1').trans (if_pos h2')
        wtm_at "ms"
        refine use0 (tSign w x hx6 _) S (hA'.less (by decide)) D fun v own' s0 hp D => ?_
        obtain ⟨tt, rfl, rfl⟩ := hp
        replace D := D.drop (List.Sublist.refl [(I, o'), (b, Lo ws kk)])
        wtm_at "ms"
        refine ite_b (fun h3 => ?_) (fun h3 => ?_)
        · have en : nameOf x = [signOf x] := if_neg fun q => by rw [d_t (h03.mpr q)] at h3; cases h3
          wtm_at "ms"
          refine use0 (tSign w x hx6 _) S (hA'.less (by decide)) D fun v own' s0 hp D => ?_
          obtain ⟨tt', rfl, rfl⟩ := hp
          replace D := D.drop (List.Sublist.refl [(I, o'), (b, Lo (ws ++ [.str (T [signOf x]) _]) (kk + 1))])
          wtm_at "ms"
          refine' ⟨_, _, _, _, ?hW, ?hD⟩
          case hD => rw [e2, en]; exact D
          case hW => rw [e1, ei]; exact hws.snoc
        · have en : nameOf x = [] := if_pos (by refine h03.mp ?_; by_cases q : (x : Int) % 8 ∈ ([0, 3] : List Int); exact q; rw [d_f q] at h3; cases h3)
          wtm_at "ms"
          refine' ⟨_, _, _, _, ?hW, ?hD⟩
          case hD => rw [e2, en, List.append_nil]; exact D
          case hW => rw [e1, ei]; exact hws.snoc
      · have h2' : ¬ x % 8 > 2 := by have := of_decide_eq_false h2; omega
        have ei : itemOf x = [] := (if_neg h1').trans (if_neg h2')
        have en : nameOf x = [signOf x] := if_neg (by omega)
        wtm_at "ms"
        refine ite_t (nd_t (by rw [h03]; omega)) ?_
        wtm_at "ms"
        refine use0 (tSign w x hx6 _) S (hA'.less (by decide)) D fun v own' s0 hp D => ?_
        obtain ⟨tt, rfl, rfl⟩ := hp
        replace D := D.drop (List.Sublist.refl [(I, o'), (b, Lo ws kk)])
        wtm_at "ms"
        refine' ⟨_, _, _, _, ?hW, ?hD⟩
        case hD => rw [e2, en]; exact D
        case hW => rw [e1, ei, List.append_nil]; exact hws
  · wtm_at "ms"
    rw [List.take_of_length_le (by have := hxs.len; rw [List.length_map] at this; omega)] at hws D
    refine D.leaveN (List.Sublist.refl _) (fun p hp => ?_) hs0 ⟨a, b, ws, kk, t, rfl, rfl, hws⟩ k
    simp only [List.mem_cons, List.not_mem_nil, or_false] at hp
    rcases hp with rfl | rfl <;> assumption

end
section
theorem tTakes (w : World) (l : Addr) (vs : List Value) (n : Nat) (ls : List (List Nat)) (name : List Nat) (hxs : Txts vs ls) (hne : ls ≠ []) (hb : ∀ x ∈ ls, x.length ≤ 1000000) (hl : ls.length ≤ 1000000) (hn : name.length ≤ 1000000) (t0 : Tok) :
    FnR (hd.heap_39 w.params) PySem.Challenge.pw_kt0083_01 w 3 (.ref 830) [.ref l, .str (T name) t0] [(l, Lo vs n)]
      (fun v own => ∃ b : Bool, v = .bool b ∧ (b = true ↔ Fit ls name) ∧ own = []) := by
  intro A s g R S hA O hr k
  have hs0 : g.objs.size ≤ s.heap.objs.size := O.size
  have hlst : g.get? l = some (Lo vs n) := hr _ (List.mem_singleton.mpr rfl)
  refine' enter (binds := [(Str.ofString "pieces", .ref l), (Str.ofString "name", .str (T name) t0)]) (more := [Str.ofString "at", Str.ofString "piece", Str.ofString "place", Str.ofString "behind"]) (gl := [(Str.ofString "len", .builtin "len")]) S O hA ?h1 ?h2 ?h3 ?h4 ?h5 ?_
  case h1 => k_is
  case h2 => k_is
  case h3 => exact BindsTo.of_eq rfl
  case h4 => kernel_rfl
  case h5 => kernel_rfl
  intro env A' s1 hA' H D
  replace D : St s g env [(Str.ofString "pieces", some (.ref l)), (Str.ofString "name", some (.str (T name) t0)), (Str.ofString "at", none), (Str.ofString "piece", none), (Str.ofString "place", none), (Str.ofString "behind", none)] s1 [] := D
  generalize s = B at D k hs0 O
  clear O
  have hvl : vs.length ≤ 16777216 := by rw [hxs.len]; omega
  have hnm : name.length ≤ 16777216 := by omega
  cases hxs with
  | nil => exact absurd rfl hne
  | @cons p0 tp0 vr lr hxr =>
  have hp0 : p0.length ≤ 16777216 := by have := hb p0 List.mem_cons_self; omega
  cases hxr with
  | nil =>
    wtm_at "ms"
    exact D.leave (own := []) (fun _ hp => nomatch hp) hs0 (post := fun v own => ∃ b : Bool, v = .bool b ∧ (b = true ↔ Fit [p0] name) ∧ own = []) ⟨_, rfl, (decide_eq_true_iff (p := name = p0)), rfl⟩ k
  | @cons p1 tp1 vr lr hxr =>
  obtain ⟨ms, mls, q, tq, ev, el, hms⟩ := (Txts.cons (l := p1) (t := tp1) hxr).splitLast (List.cons_ne_nil _ _)
  rw [ev] at hlst hvl
  rw [el] at hb hl k
  have hq : q.length ≤ 1000000 := hb q (by simp)
  have hfc := fit_cons (p := p0) (l := name) (r := mls ++ [q]) (by simp)
  have hml := hms.len
  have hlst' : g.get? l = some (Lo ((.str (T p0) tp0 :: ms) ++ [.str (T q) tq]) n) := hlst
  have hmz : ms.length ≤ 16777214 := by simp at hl; omega
  wtm_at "ms"
  refine ite_f (by simp; omega) ?_
  wtm_at "ms"
  refine q_slice_ns D (by omega) hnm ?_; wtm_at "nx"; wtm_at "ms"
  refine ite_b (fun h => ?_) (fun h => ?_)
  · wtm_at "ms"
    refine D.leave (own := []) (fun _ hp => nomatch hp) hs0 ⟨_, rfl, (show (false = true ↔ Fit (p0 :: (mls ++ [q])) name) from ⟨fun q => (nomatch q), fun q => ?_⟩), rfl⟩ k
    have := (hfc.mp q).1
    simp only [Int.toNat_natCast, this, decide_true] at h
    cases h
  · have hp : name.take p0.length = p0 := by simpa using h
    have hpl : p0.length ≤ name.length := by have := congrArg List.length hp; rw [List.length_take] at this; omega
    replace hfc : Fit (p0 :: (mls ++ [q])) name ↔ Run (mls ++ [q]) (name.drop p0.length) := hfc.trans ⟨fun z => z.2.2, fun z => ⟨hp, hpl, z⟩⟩
    wtm_at "ms"
    refine r_for hA'.hd ?_
    wtm_at "ms"
    refine r_slice_list D (by wtm_at "has") (.int _ _) (.int _ _) (pick_mid _ _ ms) hvl ?_; wtm_at "nl"; intro M s hMB D
    refine ⟨_, _, _, _, M, ms, 0, fun I o i s => ∃ (at' : Nat) (ta : Tok) (vp vq : Option Value), at' ≤ name.length ∧ (Fit (p0 :: (mls ++ [q])) name ↔ Run (mls.drop i ++ [q]) (name.drop at')) ∧
      St B g env [(Str.ofString "pieces", some (.ref l)), (Str.ofString "name", some (.str (T name) t0)), (Str.ofString "at", some (.int at' ta)), (Str.ofString "piece", vp), (Str.ofString "place", vq), (Str.ofString "behind", none)] s [(I, o), (M, Lo ms 0)],
      rfl, D, by wtm_at "has", fun I o s' D' => ⟨p0.length, _, _, _, hpl, hfc, D'⟩, ?_⟩
    rintro I o i s' hi ⟨at', ta, vp, vq, hat, hinv, D⟩
    refine ⟨_, _, _, 0, _, _, D, by wtm_at "has", fun o' => ⟨_, by wtm_at "turn", fun v s' hv D => ?_⟩, fun hi s' D => ?_⟩
    · obtain ⟨p, tp, hp, rfl⟩ := hms.got hv
      have hpb : p.length ≤ 1000000 := hb p (by have := List.mem_of_getElem? hp; simp [this])
      have hd : mls.drop i = p :: mls.drop (i + 1) := (List.getElem?_eq_some_iff.mp hp).elim fun hlt e => by rw [List.drop_eq_getElem_cons hlt, e]
      wtm_at "ms"
      refine q_find3 D (by omega) ?_; wtm_at "nl"; intro t s r hr' D; wtm_at "ms"
      refine ite_b (fun h => ?_) (fun h => ?_)
      · wtm_at "ms"
        refine D.leaveN (news' := []) (List.nil_sublist _) (fun p hp => nomatch hp) hs0 ⟨_, rfl, (show (false = true ↔ Fit (p0 :: (mls ++ [q])) name) from ⟨fun q => (nomatch q), fun q => ?_⟩), rfl⟩ k
        rcases hr' with ⟨rfl, hno⟩ | ⟨j, rfl, _⟩
        · rw [hinv, hd] at q
          exact absurd q (run_none hat (by simp) (by simpa using hno))
        · have := of_decide_eq_true h; omega
      · rcases hr' with ⟨rfl, hno⟩ | ⟨j, rfl, hj1, hj2, hj3⟩
        · cases h
        · wtm_at "ms"
          refine ⟨j + p.length, _, _, _, hj2.1, ?_, D⟩
          rw [hinv, hd]
          exact run_first hat (by simp) (by omega) hj2 (by simpa using hj3)
    · have hdn : mls.drop i = [] := List.drop_eq_nil_of_le (by omega)
      rw [hdn] at hinv
      replace hinv := hinv.trans (run_last hat)
      wtm_at "ms"
      refine ite_b (fun h => ?_) (fun h => ?_)
      · have hle : at' + q.length ≤ name.length := by have := of_decide_eq_true h; omega
        wtm_at "ms"
        refine q_slice_sn D ⟨by omega, by omega⟩ hnm ?_; wtm_at "nx"; wtm_at "ms"
        refine D.leaveN (news' := []) (List.nil_sublist _) (fun p hp => nomatch hp) hs0 ⟨_, rfl, (Iff.trans decide_eq_true_iff ?_), rfl⟩ k
        have e : ((name.length : Int) - (q.length : Int)).toNat = name.length - q.length := by omega
        rw [e]
        exact ⟨fun z => hinv.mpr ⟨hle, z⟩, fun z => (hinv.mp z).2⟩
      · refine D.leaveN (news' := []) (List.nil_sublist _) (fun p hp => nomatch hp) hs0 ⟨_, rfl, ⟨fun z => (by rw [h] at z; cases z), fun z => ?_⟩, rfl⟩ k
        have := (hinv.mp z).1
        have := of_decide_eq_false h
        omega

end
section
abbrev lFront : List Nat := [102, 114, 111, 110, 116]
abbrev lGroup : List Nat := [103, 114, 111, 117, 112]
abbrev lBehind : List Nat := [98, 101, 104, 105, 110, 100]
abbrev lEnd : List Nat := [101, 110, 100]
/-- where the reading stands: the rest of the piece, the pieces behind it, the text ahead -/
inductive Stand : List Nat → List Nat → List (List Nat) → List Nat → Prop
  | front {p r} : Stand lFront p r (eT p ++ trTail r)
  | group {p q r} : Stand lGroup p (q :: r) (eT p ++ ([41] ++ trTail (q :: r)))
  | behind {q r} : Stand lBehind [] (q :: r) (trTail (q :: r))
  | fin {p} : Stand lEnd p [] (eT p)
inductive Step : List Nat → List Nat → List (List Nat) → List Nat → Prop
  | sign {st c p' rest R'} : (st = lFront ∨ st = lGroup ∨ st = lEnd) → Stand st p' rest R' → Step st (c :: p') rest (eS c ++ R')
  | opens {st m q r R'} : (st = lFront ∨ st = lBehind) → Stand lGroup m (q :: r) R' → Step st [] (m :: q :: r) ([40, 63, 62, 46, 42, 63] ++ R')
  | last {st q R'} : (st = lFront ∨ st = lBehind) → Stand lEnd q [] R' → Step st [] [q] ([46, 42] ++ R')
  | close {q r R'} : Stand lBehind [] (q :: r) R' → Step lGroup [] (q :: r) ([41] ++ R')
  | over {st} : (st = lFront ∨ st = lEnd) → Step st [] [] []
theorem Stand.step {st p rest R} (h : Stand st p rest R) : Step st p rest R := by
  have tl : ∀ {st} {rest : List (List Nat)}, (st = lFront ∨ st = lBehind) → (rest ≠ [] ∨ st = lFront) → Step st [] rest (trTail rest) := by
    intro st rest hs hr
    match rest with
    | [] => exact .over (.inl (hr.resolve_left fun q => q rfl))
    | [q] => exact .last hs .fin
    | m :: q :: r => exact .opens hs .group
  cases h with
  | @front p r =>
    cases p with
    | nil => exact tl (.inl rfl) (.inr rfl)
    | cons c p => rw [eT_cons, List.append_assoc]; exact .sign (.inl rfl) .front
  | @group p q r =>
    cases p with
    | nil => exact .close .behind
    | cons c p => rw [eT_cons, List.append_assoc]; exact .sign (.inr (.inl rfl)) .group
  | behind => exact tl (.inr rfl) (.inl (List.cons_ne_nil _ _))
  | @fin p =>
    cases p with
    | nil => exact .over (.inr rfl)
    | cons c p => rw [eT_cons]; exact .sign (.inr (.inr rfl)) .fin
theorem Step.nil {st p rest R} (h : Step st p rest R) (e : R = []) : p = [] ∧ rest = [] ∧ (st = lFront ∨ st = lEnd) := by
  cases h with
  | over hs => exact ⟨rfl, rfl, hs⟩
  | @sign _ c _ _ _ _ _ =>
    have hk := eS_kind c
    generalize eS c = E at hk e
    cases hk <;> cases e
  | opens => cases e
  | last => cases e
  | close => cases e
abbrev pV (text : List Nat) (t0 : Tok) (body : List Nat) (tb : Tok) (P : Addr) (st : List Nat) (ts : Tok) (a : Int) (ta : Tok) (vf : Option Value) : Vals :=
  [(Str.ofString "text", some (.str (T text) t0)), (Str.ofString "body", some (.str (T body) tb)), (Str.ofString "pieces", some (.ref P)), (Str.ofString "stand", some (.str (T st) ts)), (Str.ofString "at", some (.int a ta)), (Str.ofString "fence", vf)]
theorem tPieces (w : World) (ps : List (List Nat)) (hne : ps ≠ []) (hgood : ∀ p ∈ ps, ∀ c ∈ p, c ≠ 40 ∧ c ≠ 41 ∧ c ≠ 46) (hb : (trText ps).length ≤ 1000000) (t0 : Tok) :
    Fn (hd.heap_39 w.params) PySem.Challenge.pw_kt0083_01 w 3 (.ref 823) [.str (T (trText ps)) t0] [] (fun v own => ∃ a vs n, v = .ref a ∧ own = [(a, Lo vs n)] ∧ Txts vs ps) := by
  intro A s g R S hA O k
  have hs0 : g.objs.size ≤ s.heap.objs.size := O.size
  refine' enter (binds := [(Str.ofString "text", .str (T (trText ps)) t0)]) (more := [Str.ofString "body", Str.ofString "pieces", Str.ofString "stand", Str.ofString "at", Str.ofString "fence"]) (gl := [(Str.ofString "len", .builtin "len")]) S O hA ?h1 ?h2 ?h3 ?h4 ?h5 ?_
  case h1 => k_is
  case h2 => k_is
  case h3 => exact BindsTo.of_eq rfl
  case h4 => kernel_rfl
  case h5 => kernel_rfl
  intro env A' s1 hA' H D
  replace D : St s g env [(Str.ofString "text", some (.str (T (trText ps)) t0)), (Str.ofString "body", none), (Str.ofString "pieces", none), (Str.ofString "stand", none), (Str.ofString "at", none), (Str.ofString "fence", none)] s1 [] := D
  generalize s = B at D k hs0 O
  clear O
  cases ps with
  | nil => exact absurd rfl hne
  | cons p0 r0 =>
  have htx : trText (p0 :: r0) = [40, 63, 115, 58] ++ ((eT p0 ++ trTail r0) ++ [41, 92, 90]) := by rw [trText, List.append_assoc]
  generalize htt : trText (p0 :: r0) = text at htx hb D
  generalize hbo : eT p0 ++ trTail r0 = body at htx
  have htl : text.length = 7 + body.length := by rw [htx]; simp; omega
  have e1 : text.take 4 = [40, 63, 115, 58] := by rw [htx]; rfl
  have e2 : text.drop (text.length - 3) = [41, 92, 90] := by
    rw [htl, show 7 + body.length - 3 = 4 + body.length by omega, ← List.drop_drop, htx]; simp
  have e3 : (text.drop 4).take (text.length - 3 - 4) = body := by rw [htl, htx, show 7 + body.length - 3 - 4 = body.length by omega]; simp
  have hz : text.length ≤ 16777216 := by omega
  wtm_at "ms"
  refine q_slice_ns D (by decide) hz ?_; wtm_at "nx"; wtm_at "ms"
  refine ite_f (nd_f e1) ?_
  wtm_at "ms"
  refine q_slice_last (k := 3) D (by decide) (by omega) hz ?_; wtm_at "nx"; wtm_at "ms"
  refine ite_f (nd_f e2) ?_
  wtm_at "ms"
  refine q_slice_but (i := 4) (k := 3) D (by decide) (by omega) hz ?_
  rw [e3]
  wtm_at "nx"; wtm_at "ms"
  refine r_newlist D (by simp) ?_; wtm_at "nl"; intro P s hPB D; wtm_at "ms"
  have hbz : body.length ≤ 1000000 := by omega
  refine m_while (fun n s => ∃ (a : Nat) (st p : List Nat) (rest : List (List Nat)) (R : List Nat) (acc : List (List Nat)) (cur : List Nat) (vs : List Value) (kk : Nat) (ai : Int) (tb ts ta tc : Tok) (vf : Option Value),
    ai = a ∧ n = body.length - a ∧ a ≤ body.length ∧ body.drop a = R ∧ Stand st p rest R ∧ Txts vs acc ∧ acc ++ (cur ++ p) :: rest = p0 :: r0 ∧ cur.length ≤ a ∧ acc.length ≤ a ∧
    St B g env (pV text t0 body tb P st ts ai ta vf) s [(P, Lo (vs ++ [.str (T cur) tc]) kk)]) body.length ?_ ?_
  · exact ⟨0, lFront, p0, r0, body, [], [], [], 0, 0, _, _, _, _, _, rfl, rfl, Nat.zero_le _, rfl, hbo ▸ .front, .nil, rfl, Nat.le_refl _, Nat.le_refl _, D⟩
  clear D
  rintro n s ⟨i, st, p, rest, R, acc, cur, vs, kk, ai, tb, ts, ta, tc, vf, hai, rfl, ha, hR, hst, hvs, hps, hcl, hal, D⟩
  have hvl := hvs.len
  have hbz2 : body.length ≤ 16777216 := by omega
  wtm_at "ms"
  refine ite_b (fun h => ?_) (fun h => ?_)
  · have hlt : i < body.length := by have := of_decide_eq_true h; omega
    have hRne : R ≠ [] := fun e => by rw [e] at hR; have := congrArg List.length hR; simp at this; omega
    clear h
    cases hst.step with
    | over => exact absurd rfl hRne
    | @sign _ c p' _ R' hs hst' =>
      clear hRne hst
      have hc : c ≠ 40 ∧ c ≠ 41 ∧ c ≠ 46 := hgood (cur ++ c :: p') (by rw [← hps]; simp) c (by simp)
      obtain ⟨hc40, hc41, hc46⟩ := hc
      obtain ⟨x, R1, hx, hx40, hx41, hx46⟩ : ∃ x R1, eS c ++ R' = x :: R1 ∧ x ≠ 40 ∧ x ≠ 41 ∧ x ≠ 46 := by
        have hk := eS_kind c
        generalize eS c = E at hk
        cases hk <;> exact ⟨_, _, rfl, by omega, by omega, by omega⟩
      have hR1 := hR
      rw [hx] at hR1
      refine wpAny_execs_cons (wpAny_If ?_)
      refine wpAny_mono (Q := fun b s' => b = false ∧ St B g env (pV text t0 body tb P st ts ai ta vf) s' [(P, Lo (vs ++ [.str (T cur) tc]) kk)]) ?_ (fun b s hb => ?_) fun _ _ x => x
      · rcases hs with rfl | rfl | rfl
        · wtm_at "ms"
          with_reducible refine' q_slice_ak D i 6 hR1 ?hi ?hj ?hb hbz2 ?_ ?hs ?ht; wtm_at "sl"
          refine ite_f (d_f (by simp [hx40])) ?_
          wtm_at "ms"
          exact ⟨rfl, D⟩
        · wtm_at "ms"
          exact ⟨rfl, D⟩
        · wtm_at "ms"
          exact ⟨rfl, D⟩
      clear D
      obtain ⟨rfl, D⟩ := hb
      refine ite_f rfl ?_
      refine wpAny_execs_cons (wpAny_If ?_)
      refine wpAny_mono (Q := fun b s' => b = false ∧ St B g env (pV text t0 body tb P st ts ai ta vf) s' [(P, Lo (vs ++ [.str (T cur) tc]) kk)]) ?_ (fun b s hb => ?_) fun _ _ x => x
      · rcases hs with rfl | rfl | rfl
        · wtm_at "ms"
          with_reducible refine' q_slice_ak D i 2 hR1 ?hi ?hj ?hb hbz2 ?_ ?hs ?ht; wtm_at "sl"
          refine ite_f (d_f (by simp [hx46])) ?_
          wtm_at "ms"
          exact ⟨rfl, D⟩
        · wtm_at "ms"
          exact ⟨rfl, D⟩
        · wtm_at "ms"
          exact ⟨rfl, D⟩
      clear D
      obtain ⟨rfl, D⟩ := hb
      refine ite_f rfl ?_
      refine wpAny_execs_cons (wpAny_If ?_)
      refine wpAny_mono (Q := fun b s' => b = false ∧ St B g env (pV text t0 body tb P st ts ai ta vf) s' [(P, Lo (vs ++ [.str (T cur) tc]) kk)]) ?_ (fun b s hb => ?_) fun _ _ x => x
      · rcases hs with rfl | rfl | rfl
        · wtm_at "ms"
          exact ⟨rfl, D⟩
        · wtm_at "ms"
          with_reducible refine' q_item (c := x) D ?hi (drop_ai hai hR1) hbz2 ?_ ?hs ?ht; wtm_at "it"
          refine ite_f (d_f (by simp [hx41])) ?_
          wtm_at "ms"
          exact ⟨rfl, D⟩
        · wtm_at "ms"
          exact ⟨rfl, D⟩
      clear D
      obtain ⟨rfl, D⟩ := hb
      refine ite_f rfl ?_
      refine wpAny_execs_cons (wpAny_If ?_)
      refine wpAny_mono (Q := fun b s' => b = false ∧ St B g env (pV text t0 body tb P st ts ai ta vf) s' [(P, Lo (vs ++ [.str (T cur) tc]) kk)]) ?_ (fun b s hb => ?_) fun _ _ x => x
      · rcases hs with rfl | rfl | rfl
        · wtm_at "ms"
          exact ⟨rfl, D⟩
        · wtm_at "ms"
          exact ⟨rfl, D⟩
        · wtm_at "ms"
          exact ⟨rfl, D⟩
      clear D
      obtain ⟨rfl, D⟩ := hb
      refine ite_f rfl ?_
      clear hR1 hx hx40 hx41 hx46
      have hk := eS_kind c
      generalize eS c = E at hk hR
      cases hk with
      | plain h91 h92 =>
        have hRc : body.drop i = c :: R' := hR
        wtm_at "ms"
        with_reducible refine' q_item (c := c) D ?hi (drop_ai hai hRc) hbz2 ?_ ?hs ?ht; wtm_at "it"
        refine ite_f (d_f (by simp [h91])) ?_
        wtm_at "ms"
        with_reducible refine' q_slice_ak D i 1 hRc ?hi ?hj ?hb hbz2 ?_ ?hs ?ht; wtm_at "sl"
        refine ite_f (d_f (by simp [h92])) ?_
        wtm_at "ms"
        with_reducible refine' q_slice_ak D i 1 hRc ?hi ?hj ?hb hbz2 ?_ ?hs ?ht; wtm_at "sl"
        refine ⟨body.length - (i + 1), by omega, i + 1, _, p', rest, R', acc, cur ++ [c], vs, _, _, _, _, _, _, _, by omega, rfl, ?_, drop_app hR rfl, hst', hvs, by simpa using hps, by simp; omega, by omega, D⟩
        have := congrArg List.length hR; simp at this; omega
      | back  =>
        have hRc : body.drop i = 92 :: c :: R' := hR
        wtm_at "ms"
        with_reducible refine' q_item (c := 92) D ?hi (drop_ai hai hRc) hbz2 ?_ ?hs ?ht; wtm_at "it"
        with_reducible refine' q_slice_ak D i 1 hRc ?hi ?hj ?hb hbz2 ?_ ?hs ?ht; wtm_at "sl"
        with_reducible refine' q_slice_ak D (i + 1) 1 (drop_more hRc) ?hi ?hj ?hb hbz2 ?_ ?hs ?ht; wtm_at "sl"
        refine ⟨body.length - (i + 2), by omega, i + 2, _, p', rest, R', acc, cur ++ [c], vs, _, _, _, _, _, _, _, by omega, rfl, ?_, drop_app hR rfl, hst', hvs, by simpa using hps, by simp; omega, by omega, D⟩
        have := congrArg List.length hR; simp at this; omega
      | fence h92 =>
        have hRc : body.drop i = 91 :: c :: 93 :: R' := hR
        wtm_at "ms"
        with_reducible refine' q_item (c := 91) D ?hi (drop_ai hai hRc) hbz2 ?_ ?hs ?ht; wtm_at "it"
        with_reducible refine' q_slice_ak D (i + 1) 1 (drop_more hRc) ?hi ?hj ?hb hbz2 ?_ ?hs ?ht; wtm_at "sl"
        refine ite_f (d_f (by simp [h92])) ?_
        wtm_at "ms"
        with_reducible refine' q_slice_ak D (i + 1) 1 (drop_more hRc) ?hi ?hj ?hb hbz2 ?_ ?hs ?ht; wtm_at "sl"
        have hlt2 := drop_lt (drop_more hRc)
        with_reducible refine' q_slice_ak D (i + 2) 1 (drop_more (drop_more hRc)) ?hi ?hj ?hb hbz2 ?_ ?hs ?ht; wtm_at "sl"
        refine ⟨body.length - (i + 3), by omega, i + 3, _, p', rest, R', acc, cur ++ [c], vs, _, _, _, _, _, _, _, by omega, rfl, ?_, drop_app hR rfl, hst', hvs, by simpa using hps, by simp; omega, by omega, D⟩
        have := congrArg List.length hR; simp at this; omega
      | both  =>
        have hRc : body.drop i = 91 :: 92 :: 91 :: 93 :: R' := hR
        wtm_at "ms"
        with_reducible refine' q_item (c := 91) D ?hi (drop_ai hai hRc) hbz2 ?_ ?hs ?ht; wtm_at "it"
        with_reducible refine' q_slice_ak D (i + 1) 1 (drop_more hRc) ?hi ?hj ?hb hbz2 ?_ ?hs ?ht; wtm_at "sl"
        have hlt2 := drop_lt (drop_more hRc)
        with_reducible refine' q_slice_ak D (i + 2) 1 (drop_more (drop_more hRc)) ?hi ?hj ?hb hbz2 ?_ ?hs ?ht; wtm_at "sl"
        have hlt3 := drop_lt (drop_more (drop_more hRc))
        refine q_slice_ak D (i + 3) 1 (drop_more (drop_more (drop_more hRc))) (by omega) (by omega) (by omega) hbz2 ?_; wtm_at "nx"; wtm_at "ms"
        refine ⟨body.length - (i + 4), by omega, i + 4, _, p', rest, R', acc, cur ++ [91], vs, _, _, _, _, _, _, _, by omega, rfl, ?_, drop_app hR rfl, hst', hvs, by simpa using hps, by simp; omega, by omega, D⟩
        have := congrArg List.length hR; simp at this; omega
    | @opens _ m q r R' hs hst' =>
      wtm_at "ms"
      refine ite_t (d_t (by rcases hs with rfl | rfl <;> decide)) ?_
      wtm_at "ms"
      with_reducible refine' q_slice_ak D i 6 hR ?hi ?hj ?hb hbz2 ?_ ?hs ?ht; wtm_at "sl"
      refine ⟨body.length - (i + 6), by omega, i + 6, _, m, q :: r, R', acc ++ [cur], [], _, _, _, _, _, _, _, _, by omega, rfl, ?_, drop_app hR rfl, hst', hvs.snoc, by simpa using hps, by simp, by simp; omega, D⟩
      have := congrArg List.length hR; simp at this; omega
    | @last _ q R' hs hst' =>
      wtm_at "ms"
      refine ite_t (d_t (by rcases hs with rfl | rfl <;> decide)) ?_
      wtm_at "ms"
      with_reducible refine' q_slice_ak D i 6 hR ?hi ?hj ?hb hbz2 ?_ ?hs ?ht; wtm_at "sl"
      refine ite_t (d_t (by rcases hs with rfl | rfl <;> decide)) ?_
      wtm_at "ms"
      with_reducible refine' q_slice_ak D i 2 hR ?hi ?hj ?hb hbz2 ?_ ?hs ?ht; wtm_at "sl"
      refine ⟨body.length - (i + 2), by omega, i + 2, _, q, [], R', acc ++ [cur], [], _, _, _, _, _, _, _, _, by omega, rfl, ?_, drop_app hR rfl, hst', hvs.snoc, by simpa using hps, by simp, by simp; omega, D⟩
      have := congrArg List.length hR; simp at this; omega
    | @close q r R' hst' =>
      have hRc : body.drop i = 41 :: R' := hR
      wtm_at "ms"
      with_reducible refine' q_item (c := 41) D ?hi (drop_ai hai hRc) hbz2 ?_ ?hs ?ht; wtm_at "it"
      refine ⟨body.length - (i + 1), by omega, i + 1, _, [], q :: r, R', acc, cur, vs, _, _, _, _, _, _, _, by omega, rfl, by omega, drop_app hR rfl, hst', hvs, hps, by omega, by omega, D⟩
  · have hend : R = [] := by rw [← hR]; exact List.drop_eq_nil_of_le (by have := of_decide_eq_false h; omega)
    obtain ⟨rfl, rfl, hs⟩ := hst.step.nil hend
    wtm_at "ms"
    refine ite_t (d_t (by rcases hs with rfl | rfl <;> decide)) ?_
    wtm_at "ms"
    refine D.leaveN (List.Sublist.refl _) (fun p hp => ?_) hs0 ⟨P, _, _, rfl, rfl, ?_⟩ k
    · rw [List.mem_singleton.mp hp]; exact hPB
    · rw [← hps, List.append_nil]; exact hvs.snoc

end
section
def special : List Nat := [40, 41, 91, 93, 123, 125, 63, 42, 43, 45, 124, 94, 36, 92, 46, 38, 126, 35, 32, 9, 10, 13, 11, 12]
def escS (c : Nat) : List Nat := if c = 92 ∨ c = 32 then [92, c] else [c]
def isStrB (x : Str) : Option Value → Bool
  | some (.str y _) => decide (y = x)
  | _ => false
theorem isStrB_spec {x : Str} {o : Option Value} (h : isStrB x o = true) : ∃ u, o = some (.str x u) := by
  unfold isStrB at h
  split at h
  · exact ⟨_, by rw [of_decide_eq_true h]⟩
  · cases h
theorem tEscape (w : World) (c : Nat) (hc : c = 92 ∨ c = 32 ∨ c ∉ special) (t0 : Tok) : Fn (hd.heap_39 w.params) PySem.Challenge.pw_kt0083_01 w 3 (.ref 68) [.str (T [c]) t0] [] (fun v own => ∃ t, v = .str (T (escS c)) t ∧ own = []) := by
  intro A s g R S hA O k
  have hs0 : g.objs.size ≤ s.heap.objs.size := O.size
  refine' enter (binds := [(Str.ofString "pattern", .str (T [c]) t0)]) (more := []) (gl := [(Str.ofString "isinstance", .builtin "isinstance"), (Str.ofString "str", .type "str"), (Str.ofString "_special_chars_map", .ref 58)]) S O hA ?h1 ?h2 ?h3 ?h4 ?h5 ?_
  case h1 => k_is
  case h2 => k_is
  case h3 => exact BindsTo.of_eq rfl
  case h4 => kernel_rfl
  case h5 => kernel_rfl
  intro env A' s1 hA' H D
  replace D : St s g env [(Str.ofString "pattern", some (.str (T [c]) t0))] s1 [] := D
  generalize s = B at D k hs0 O
  clear O
  have hT : intTab (hd.heap_39 w.params) 58 special = true := by kernel_rfl
  wtm_at "ms"
  have X := S.X.keeps D.keep
  have hM : s1.heap.MapOf (intKind PySem.Challenge.pw_kt0083_01 w) 58 (intAt (hd.heap_39 w.params) 58) := intTab_map X hT
  by_cases h : c = 92 ∨ c = 32
  · have hf : ∃ u, intAt (hd.heap_39 w.params) 58 (c : Int) = some (.str (T [92, c]) u) := by
      rcases h with rfl | rfl
      · exact isStrB_spec (by kernel_rfl)
      · exact isStrB_spec (by kernel_rfl)
    obtain ⟨u, hf⟩ := hf
    refine translate_hit hM (by omega) hf fun t s' hx => ?_
    replace D := D.ext hx
    wtm_at "ms"
    exact D.leaveS hs0 (by rw [escS, if_pos h]) k
  · have hn : c ∉ special := hc.elim (fun q => absurd (.inl q) h) fun q => q.elim (fun q => absurd (.inr q) h) id
    refine translate_miss hA'.hd rfl hM (intAt_none hT hn) fun t s' hx => ?_
    replace D := D.ext hx
    wtm_at "ms"
    exact D.leaveS hs0 (by rw [escS, if_neg h]) k

end
section
abbrev jV (l st R ad : Addr) (i : Int) (ti : Tok) (n : Int) (tn : Tok) (vf : Option Value) : Vals :=
  [(Str.ofString "inp", some (.ref l)), (Str.ofString "STAR", some (.ref st)), (Str.ofString "res", some (.ref R)), (Str.ofString "add", some (.ref ad)), (Str.ofString "i", some (.int i ti)), (Str.ofString "n", some (.int n tn)), (Str.ofString "fixed", vf)]
theorem tJoin (w : World) (l st : Addr) (vs : List Value) (nn : Nat) (pf : List (List Nat)) (r : List (List (List Nat))) (hvs : Parts st vs (pf.map some ++ tailParts r)) (hmid : ∀ q ∈ r.dropLast, q ≠ [])
    (hb : (pf.flatten ++ tT r).length ≤ 10000) (hn : vs.length ≤ 10000) :
    FnR (hd.heap_39 w.params) PySem.Challenge.pw_kt0083_01 w 5 (.ref 82) [.ref l, .ref st] [(l, Lo vs nn)]
      (fun v own => ∃ t, v = .str (T ([40, 63, 115, 58] ++ (pf.flatten ++ tT r) ++ [41, 92, 90])) t ∧ own = []) := by
  intro A s g R S hA O hr k
  have hs0 : g.objs.size ≤ s.heap.objs.size := O.size
  have hlst : g.get? l = some (Lo vs nn) := hr _ (List.mem_singleton.mpr rfl)
  refine' enter (binds := [(Str.ofString "inp", .ref l), (Str.ofString "STAR", .ref st)]) (more := [Str.ofString "res", Str.ofString "add", Str.ofString "i", Str.ofString "n", Str.ofString "fixed"]) (gl := [(Str.ofString "len", .builtin "len")]) S O hA ?h1 ?h2 ?h3 ?h4 ?h5 ?_
  case h1 => k_is
  case h2 => k_is
  case h3 => exact BindsTo.of_eq rfl
  case h4 => kernel_rfl
  case h5 => kernel_rfl
  intro env A' s1 hA' H D
  replace D : St s g env [(Str.ofString "inp", some (.ref l)), (Str.ofString "STAR", some (.ref st)), (Str.ofString "res", none), (Str.ofString "add", none), (Str.ofString "i", none), (Str.ofString "n", none), (Str.ofString "fixed", none)] s1 [] := D
  generalize s = B at D k hs0 O
  clear O
  wtm_at "ms"
  refine r_newlist D (by decide) ?_; wtm_at "nl"; intro R s hRB D; wtm_at "ms"
  have hvl := hvs.len
  have hvz : vs.length ≤ 16777216 := by omega
  have hpl : vs.length = pf.length + (tailParts r).length := by rw [hvl, List.length_append, List.length_map]
  refine m_while (fun m s => ∃ (i : Nat) (rs : List Value) (kk : Nat) (ii : Int) (ti tn : Tok) (vf : Option Value), ii = i ∧ m = pf.length - i ∧ i ≤ pf.length ∧ Txts rs (pf.take i) ∧
    St B g env (jV l st R ad ii ti vs.length tn vf) s [(ad, bnd R), (R, Lo rs kk)]) pf.length ?_ ?_
  · exact ⟨0, [], 0, 0, _, _, _, rfl, rfl, Nat.zero_le _, .nil, D⟩
  clear D
  rintro m s ⟨i, rs, kk, ii, ti, tn, vf, hii, rfl, hi, hrs, D⟩
  have hrl := hrs.len
  rw [List.length_take] at hrl
  have hpp : (pf.map some ++ tailParts r)[i]? = if i < pf.length then pf[i]?.map some else (tailParts r)[i - pf.length]? := by
    by_cases h : i < pf.length
    · rw [if_pos h, List.getElem?_append_left (by rw [List.length_map]; exact h), List.getElem?_map]
    · rw [if_neg h, List.getElem?_append_right (by rw [List.length_map]; omega), List.length_map]
  refine wpAny_mono (Q := fun b s' => b = decide (i < pf.length) ∧ St B g env (jV l st R ad ii ti vs.length tn vf) s' [(ad, bnd R), (R, Lo rs kk)]) ?_ (fun b s hb => ?_) fun _ _ x => x
  · by_cases h : i < pf.length
    · rw [if_pos h, List.getElem?_eq_getElem h] at hpp
      obtain ⟨tx, hx⟩ := (hvs.get (i := i)).2 _ hpp
      wtm_at "ms"
      refine ite_t (d_t (by omega)) ?_
      wtm_at "ms"
      have hx' : vs[ii.toNat]? = some (.str (T pf[i]) tx) := by rw [hii]; exact hx
      with_reducible refine' r_item_list (vs := vs) (n := nn) D ?hm ?hi hx' ?hz ?_ ?hs ?ht; wtm_at "li"
      exact ⟨(d_t h).symm, D⟩
    · have hie : i = pf.length := by omega
      subst hie
      rw [if_neg h, Nat.sub_self] at hpp
      cases r with
      | nil =>
        wtm_at "ms"
        refine ite_f (d_f (by rw [hpl]; simp [tailParts]; omega)) ?_
        wtm_at "ms"
        exact ⟨(d_f h).symm, D⟩
      | cons q r =>
        have hx := (hvs.get (i := pf.length)).1 hpp
        wtm_at "ms"
        refine ite_t (d_t (by rw [hpl]; simp [tailParts]; omega)) ?_
        wtm_at "ms"
        have hx' : vs[ii.toNat]? = some (.ref st) := by rw [hii]; exact hx
        with_reducible refine' r_item_list (vs := vs) (n := nn) D ?hm ?hi hx' ?hz ?_ ?hs ?ht; wtm_at "li"
        exact ⟨(d_f h).symm, D⟩
  clear D
  obtain ⟨rfl, D⟩ := hb
  refine ite_b (fun h => ?_) (fun h => ?_)
  · have h := of_decide_eq_true h
    rw [if_pos h, List.getElem?_eq_getElem h] at hpp
    obtain ⟨tx, hx⟩ := (hvs.get (i := i)).2 _ hpp
    wtm_at "ms"
    have hx' : vs[ii.toNat]? = some (.str (T pf[i]) tx) := by rw [hii]; exact hx
    with_reducible refine' r_item_list (vs := vs) (n := nn) D ?hm ?hi hx' ?hz ?_ ?hs ?ht; wtm_at "li"
    refine ⟨pf.length - (i + 1), by omega, i + 1, _, _, _, _, _, _, by omega, rfl, h, ?_, D⟩
    rw [List.take_add_one, List.getElem?_eq_getElem h]; exact hrs.snoc
  · have h := of_decide_eq_false h
    have hie : i = pf.length := by omega
    subst hie
    rw [List.take_length] at hrs
    clear hpp
    wtm_at "ms"
    have hP : (pf.map some ++ tailParts r).drop pf.length = tailParts r := by have := List.drop_left (l₁ := pf.map some) (l₂ := tailParts r); rwa [List.length_map] at this
    generalize hPP : pf.map some ++ tailParts r = P at hvs hP hvl
    refine wpAny_mono (Q := fun f s' => f = .next ∧ ∃ (rs : List Value) (ts : List (List Nat)) (kk : Nat) (ti tn : Tok) (vf : Option Value), Txts rs ts ∧ ts.flatten = pf.flatten ++ tT r ∧ rs.length ≤ 100000 ∧
      St B g env (jV l st R ad vs.length ti vs.length tn vf) s' [(ad, bnd R), (R, Lo rs kk)]) ?_ (fun f s hf => ?_) fun _ _ x => x
    · refine m_while (fun m s => ∃ (i : Nat) (r' : List (List (List Nat))) (ts : List (List Nat)) (rs : List Value) (kk : Nat) (ii : Int) (ti tn : Tok) (vf : Option Value), ii = i ∧ m = vs.length - i ∧ i ≤ vs.length ∧ P.drop i = tailParts r' ∧ Txts rs ts ∧
        ts.flatten ++ tT r' = pf.flatten ++ tT r ∧ (∀ q ∈ r'.dropLast, q ≠ []) ∧ rs.length ≤ 2 * i ∧ St B g env (jV l st R ad ii ti vs.length tn vf) s [(ad, bnd R), (R, Lo rs kk)]) (vs.length - pf.length) ?_ ?_
      · exact ⟨pf.length, r, pf, rs, _, _, _, _, _, hii, rfl, by omega, hP, hrs, rfl, hmid, by omega, D⟩
      clear D hrs hii hP hrl rs ii ti tn vf hmid
      rintro m s ⟨i, r', ts, rs, kk, ii, ti, tn, vf, hii, rfl, hi, hP, hrs, hts, hmid, hrz, D⟩
      have hPl := gdrop_len hP (by omega)
      wtm_at "ms"
      refine ite_b (fun h => ?_) (fun h => ?_)
      · have hlt : i < vs.length := by have := of_decide_eq_true h; omega
        cases r' with
        | nil => exfalso; simp [tailParts] at hPl; omega
        | cons q r' =>
        have hx : vs[i]? = some (.ref st) := (hvs.get (i := i)).1 (gdrop_at hP)
        have hx' : vs[ii.toNat]? = some (.ref st) := by rw [hii]; exact hx
        wtm_at "ms"
        with_reducible refine' r_item_list (vs := vs) (n := nn) D ?hm ?hi hx' ?hz ?_ ?hs ?ht; wtm_at "li"
        have hP1 := gdrop_more hP
        have hPl1 := gdrop_len hP1 (by omega)
        rw [List.length_append, List.length_map] at hPl1
        refine ite_b (fun h2 => ?_) (fun h2 => ?_)
        · have h2' : i + 1 = vs.length := by have := eq_of_beq h2; omega
          have hq0 : q = [] := by cases q with | nil => rfl | cons a b => simp at hPl1; omega
          have hr0 : r' = [] := by cases r' with | nil => rfl | cons a b => simp [tailParts] at hPl1; omega
          subst hq0 hr0
          wtm_at "ms"
          rw [show ii + 1 = (vs.length : Int) by omega] at D
          exact ⟨rfl, _, ts ++ [[46, 42]], _, _, _, _, hrs.snoc, by rw [← hts]; simp [tT], by simp; omega, D⟩
        · have h2' : i + 1 ≠ vs.length := fun e => by rw [← e, hii] at h2; simp at h2
          have hq : q ≠ [] := by
            intro e
            subst e
            cases r' with
            | nil => simp [tailParts] at hPl1; omega
            | cons a b => exact hmid [] (by simp) rfl
          obtain ⟨x0, q0, rfl⟩ := List.exists_cons_of_ne_nil hq
          have hx0 := (hvs.get (i := i + 1)).2 x0 (gdrop_at hP1)
          obtain ⟨tx0, hx0⟩ := hx0
          have hx0' : vs[(ii + 1).toNat]? = some (.str (T x0) tx0) := by rw [hii]; exact hx0
          wtm_at "ms"
          with_reducible refine' r_item_list (vs := vs) (n := nn) D ?hm ?hi hx0' ?hz ?_ ?hs ?ht; wtm_at "li"
          refine r_newlist D (by decide) ?_; wtm_at "nl"; intro F s hFB D; wtm_at "ms"
          generalize hqq : x0 :: q0 = q at *
          clear hx0 hx0' hqq
          refine m_while (fun m s => ∃ (j : Nat) (fs : List Value) (kf : Nat) (ij : Int) (tj tn : Tok), ij = i + 1 + j ∧ m = q.length - j ∧ j ≤ q.length ∧ Txts fs (q.take j) ∧
            St B g env (jV l st R ad ij tj vs.length tn (some (.ref F))) s [(F, Lo fs kf), (ad, bnd R), (R, Lo rs kk)]) q.length ?_ ?_
          · exact ⟨0, [], 0, _, _, _, by omega, rfl, Nat.zero_le _, .nil, D⟩
          clear D
          rintro m s ⟨j, fs, kf, ij, tj, tn, hij, rfl, hj, hfs, D⟩
          have hfl := hfs.len
          rw [List.length_take] at hfl
          refine wpAny_mono (Q := fun b s' => b = decide (j < q.length) ∧ St B g env (jV l st R ad ij tj vs.length tn (some (.ref F))) s' [(F, Lo fs kf), (ad, bnd R), (R, Lo rs kk)]) ?_ (fun b s hb => ?_) fun _ _ x => x
          · by_cases h : j < q.length
            · have hpp := gdrop_mid hP1 (j := j) (by rw [List.length_map]; exact h)
              rw [List.getElem_map] at hpp
              obtain ⟨tx, hx⟩ := (hvs.get (i := i + 1 + j)).2 _ hpp
              have hx' : vs[ij.toNat]? = some (.str (T q[j]) tx) := by rw [hij]; exact hx
              wtm_at "ms"
              refine ite_t (d_t (by omega)) ?_
              wtm_at "ms"
              with_reducible refine' r_item_list (vs := vs) (n := nn) D ?hm ?hi hx' ?hz ?_ ?hs ?ht; wtm_at "li"
              exact ⟨(d_t h).symm, D⟩
            · have hje : j = q.length := by omega
              cases r' with
              | nil =>
                wtm_at "ms"
                refine ite_f (d_f (by simp [tailParts] at hPl1; omega)) ?_
                wtm_at "ms"
                exact ⟨(d_f h).symm, D⟩
              | cons q2 r2 =>
                have hP2 := gdrop_app hP1
                rw [List.length_map, ← hje] at hP2
                have hx := (hvs.get (i := i + 1 + j)).1 (gdrop_at hP2)
                have hx' : vs[ij.toNat]? = some (.ref st) := by rw [hij]; exact hx
                wtm_at "ms"
                refine ite_t (d_t (by simp [tailParts] at hPl1; omega)) ?_
                wtm_at "ms"
                with_reducible refine' r_item_list (vs := vs) (n := nn) D ?hm ?hi hx' ?hz ?_ ?hs ?ht; wtm_at "li"
                exact ⟨(d_f h).symm, D⟩
          clear D
          obtain ⟨rfl, D⟩ := hb
          refine ite_b (fun h => ?_) (fun h => ?_)
          · have h := of_decide_eq_true h
            have hpp := gdrop_mid hP1 (j := j) (by rw [List.length_map]; exact h)
            rw [List.getElem_map] at hpp
            obtain ⟨tx, hx⟩ := (hvs.get (i := i + 1 + j)).2 _ hpp
            have hx' : vs[ij.toNat]? = some (.str (T q[j]) tx) := by rw [hij]; exact hx
            wtm_at "ms"
            with_reducible refine' r_item_list (vs := vs) (n := nn) D ?hm ?hi hx' ?hz ?_ ?hs ?ht; wtm_at "li"
            refine ⟨q.length - (j + 1), by omega, j + 1, _, _, _, _, _, by omega, rfl, h, ?_, D⟩
            rw [List.take_add_one, List.getElem?_eq_getElem h]; exact hfs.snoc
          · have h := of_decide_eq_false h
            have hje : j = q.length := by omega
            subst hje
            rw [List.take_length] at hfs
            have hqf : q.flatten.length ≤ 10000 := by
              have h1 := congrArg List.length hts
              rw [List.length_append] at h1
              have h2 : q.flatten.length ≤ (tT (q :: r')).length := by cases r' <;> simp [tT] <;> omega
              omega
            have hql : 1 ≤ q.length := by cases q with | nil => exact absurd rfl hq | cons a b => simp
            wtm_at "ms"
            cases r' with
            | nil =>
              have hn1 : i + 1 + q.length = vs.length := by simp [tailParts] at hPl1; omega
              refine ite_t (by rw [hij]; exact beq_iff_eq.mpr (by omega)) ?_
              wtm_at "ms"
              replace D := D.drop (List.sublist_cons_self _ _)
              have hij' : ij = ((i + 1 + q.length : Nat) : Int) := by omega
              have e1 : P.drop (i + 1 + q.length) = tailParts [] := by have := gdrop_app hP1; rw [List.length_map] at this; exact this
              have e2 : (ts ++ [[46, 42]] ++ [q.flatten]).flatten ++ tT [] = pf.flatten ++ tT r := by rw [← hts]; simp [tT]
              refine ⟨_, ?_, i + 1 + q.length, [], ts ++ [[46, 42]] ++ [q.flatten], _, _, _, _, _, _, hij', rfl, ?_, e1, ?_, e2, ?_, ?_, D⟩
              · omega
              · omega
              · exact hrs.snoc.snoc
              · exact fun q hq => nomatch hq
              · simp; omega
            | cons q2 r2 =>
              have hn1 : i + 1 + q.length ≠ vs.length := by simp [tailParts] at hPl1; omega
              refine ite_f (by rw [hij, Bool.eq_false_iff]; intro e; exact hn1 (by have := eq_of_beq e; omega)) ?_
              wtm_at "ms"
              replace D := D.drop (List.sublist_cons_self _ _)
              have hij' : ij = ((i + 1 + q.length : Nat) : Int) := by omega
              have e1 : P.drop (i + 1 + q.length) = tailParts (q2 :: r2) := by have := gdrop_app hP1; rw [List.length_map] at this; exact this
              have e2 : (ts ++ [[] ++ [40, 63, 62, 46, 42, 63] ++ q.flatten ++ [41]]).flatten ++ tT (q2 :: r2) = pf.flatten ++ tT r := by rw [← hts]; simp [tT]
              refine ⟨_, ?_, i + 1 + q.length, q2 :: r2, ts ++ [[] ++ [40, 63, 62, 46, 42, 63] ++ q.flatten ++ [41]], _, _, _, _, _, _, hij', rfl, ?_, e1, ?_, e2, ?_, ?_, D⟩
              · omega
              · omega
              · exact hrs.snoc
              · exact fun x hx => hmid x (by simp; exact .inr hx)
              · simp; omega
      · have hlt : i = vs.length := by have := of_decide_eq_false h; omega
        cases r' with
        | cons q r' => exfalso; simp [tailParts] at hPl; omega
        | nil =>
        rw [hlt] at hii
        subst hii
        wtm_at "ms"
        exact ⟨rfl, rs, ts, _, _, _, _, hrs, by rw [← hts]; simp [tT], by omega, D⟩
    · clear D
      obtain ⟨rfl, rs, ts, kk, ti, tn, vf, hrs, hts, hrz, D⟩ := hf
      have hfl : ts.flatten.length ≤ 10000 := by rw [hts]; exact hb
      wtm_at "ms"
      refine ite_t (beq_self_eq_true _) ?_
      wtm_at "ms"
      rw [← hts] at k
      exact D.leaveN (news' := []) (List.nil_sublist _) (fun p hp => nomatch hp) hs0 (post := fun v own => ∃ t, v = .str (T ([40, 63, 115, 58] ++ ts.flatten ++ [41, 92, 90])) t ∧ own = []) ⟨_, rfl, rfl⟩ k

end
section
/-! ## _translate -/
def tokT : Option Nat → List Nat
  | none => [42]
  | some c => barred c
def patT (p : List (Option Nat)) : List Nat := p.flatMap tokT
def stepP (acc : List (Option (List Nat))) : Option Nat → List (Option (List Nat))
  | none => if acc.getLast? = some none then acc else acc ++ [none]
  | some c => acc ++ [some (eS c)]
def partsOf (p : List (Option Nat)) : List (Option (List Nat)) := p.foldl stepP []
def GoodC (c : Nat) : Prop := c = 42 ∨ c = 63 ∨ c = 91 ∨ ((c = 92 ∨ c = 32 ∨ c ∉ special) ∧ c ≠ 42 ∧ c ≠ 63 ∧ c ≠ 91)
abbrev lamPos : Pos := { line := 67, col := 39, endLine := 67, endCol := 76 }
abbrev tV (pt : List Nat) (t0 : Tok) (st : Addr) (t1 : Tok) (R ad : Addr) (i : Int) (ti : Tok) (n : Int) (tn : Tok) (vc vj vs : Option Value) : Vals :=
  [(Str.ofString "pat", some (.str (T pt) t0)), (Str.ofString "STAR", some (.ref st)), (Str.ofString "QUESTION_MARK", some (.str (T [46]) t1)), (Str.ofString "res", some (.ref R)), (Str.ofString "add", some (.ref ad)), (Str.ofString "i", some (.int i ti)), (Str.ofString "n", some (.int n tn)), (Str.ofString "c", vc), (Str.ofString "j", vj), (Str.ofString "stuff", vs), (Str.ofString "chunks", none), (Str.ofString "k", none), (Str.ofString "chunk", none)]
theorem Parts.last {S : Addr} : ∀ {vs ls}, Parts S vs ls → ls ≠ [] → ∃ vs' ls' v l, vs = vs' ++ [v] ∧ ls = ls' ++ [l] ∧ Parts S vs' ls' ∧ ((l = none ∧ v = .ref S) ∨ ∃ x t, l = some x ∧ v = .str (T x) t)
  | _, _, .nil, h => absurd rfl h
  | _, _, .star .nil, _ => ⟨[], [], _, _, rfl, rfl, .nil, .inl ⟨rfl, rfl⟩⟩
  | _, _, .text (l := l) (t := t) .nil, _ => ⟨[], [], _, _, rfl, rfl, .nil, .inr ⟨l, t, rfl, rfl⟩⟩
  | _, _, .star (.star h), _ => let ⟨vs', ls', v, l, e1, e2, h', o⟩ := Parts.last (.star h) (List.cons_ne_nil _ _); ⟨_ :: vs', _ :: ls', v, l, by rw [e1]; rfl, by rw [e2]; rfl, .star h', o⟩
  | _, _, .star (.text (l := l) (t := t) h), _ => let ⟨vs', ls', v, l', e1, e2, h', o⟩ := Parts.last (.text (l := l) (t := t) h) (List.cons_ne_nil _ _); ⟨_ :: vs', _ :: ls', v, l', by rw [e1]; rfl, by rw [e2]; rfl, .star h', o⟩
  | _, _, .text (.star h), _ => let ⟨vs', ls', v, l, e1, e2, h', o⟩ := Parts.last (.star h) (List.cons_ne_nil _ _); ⟨_ :: vs', _ :: ls', v, l, by rw [e1]; rfl, by rw [e2]; rfl, .text h', o⟩
  | _, _, .text (.text (l := l) (t := t) h), _ => let ⟨vs', ls', v, l', e1, e2, h', o⟩ := Parts.last (.text (l := l) (t := t) h) (List.cons_ne_nil _ _); ⟨_ :: vs', _ :: ls', v, l', by rw [e1]; rfl, by rw [e2]; rfl, .text h', o⟩
theorem partsOf_snoc (d : List (Option Nat)) (t : Option Nat) : partsOf (d ++ [t]) = stepP (partsOf d) t := by unfold partsOf; rw [List.foldl_append]; rfl
theorem tTrans (w : World) (st : Addr) (p : List (Option Nat)) (hgood : ∀ c, some c ∈ p → GoodC c) (hb : (patT p).length ≤ 10000) (t0 t1 : Tok) :
    FnT (hd.heap_39 w.params) PySem.Challenge.pw_kt0083_01 w 6 70 lamPos (.ref 75) [.str (T (patT p)) t0, .ref st, .str (T [46]) t1] []
      (fun v own => ∃ a vs k, v = .ref a ∧ own = [(a, Lo vs k)] ∧ Parts st vs (partsOf p)) := by
  intro A s g R ps hTab S hA O hr k
  have hs0 : g.objs.size ≤ s.heap.objs.size := O.size
  refine' enterC (binds := [(Str.ofString "pat", .str (T (patT p)) t0), (Str.ofString "STAR", .ref st), (Str.ofString "QUESTION_MARK", .str (T [46]) t1)]) (more := [Str.ofString "res", Str.ofString "add", Str.ofString "i", Str.ofString "n", Str.ofString "c", Str.ofString "j", Str.ofString "stuff", Str.ofString "chunks", Str.ofString "k", Str.ofString "chunk"])
    (gl := [(Str.ofString "len", .builtin "len"), (Str.ofString "_twin_re_1", .ref 49), (Str.ofString "escape", .ref 68)]) S O hA ?h1 ?h2 ?h3 ?h4 ?h5 ?_
  case h1 => k_is
  case h2 => k_is
  case h3 => exact BindsTo.of_eq rfl
  case h4 => kernel_rfl
  case h5 => kernel_rfl
  intro env A' s1 hA' hcd H D
  replace D : St s g env [(Str.ofString "pat", some (.str (T (patT p)) t0)), (Str.ofString "STAR", some (.ref st)), (Str.ofString "QUESTION_MARK", some (.str (T [46]) t1)), (Str.ofString "res", none), (Str.ofString "add", none), (Str.ofString "i", none), (Str.ofString "n", none), (Str.ofString "c", none), (Str.ofString "j", none), (Str.ofString "stuff", none), (Str.ofString "chunks", none), (Str.ofString "k", none), (Str.ofString "chunk", none)] s1 [(70, tabObj ps)] := D
  generalize s = B at D k hs0 O
  clear O
  wtm_at "ms"
  refine r_newlist D (by decide) ?_; wtm_at "nl"; intro R' s hRB D; wtm_at "ms"
  have hz : (patT p).length ≤ 16777216 := by omega
  replace D := D.drop (news' := [(ad, bnd R'), (R', Lo [] 0), (70, tabObj ps)]) (by first | exact List.Sublist.refl _ | simp)
  refine m_while (fun m s => ∃ (i : Nat) (done rest : List (Option Nat)) (vs : List Value) (kk : Nat) (ii : Int) (ti tn : Tok) (ps : Array Value) (vc vj vst : Option Value), ii = i ∧ m = (patT p).length - i ∧ i ≤ (patT p).length ∧ p = done ++ rest ∧ (patT p).drop i = patT rest ∧ Parts st vs (partsOf done) ∧ Tab lamPos ps ∧ vs.length ≤ i ∧
    St B g env (tV (patT p) t0 st t1 R' ad ii ti (patT p).length tn vc vj vst) s [(ad, bnd R'), (R', Lo vs kk), (70, tabObj ps)]) (patT p).length ?_ ?_
  · exact ⟨0, [], p, [], 0, 0, _, _, ps, _, _, _, rfl, rfl, Nat.zero_le _, rfl, rfl, .nil, hTab, Nat.le_refl _, D⟩
  clear D hTab ps
  rintro m s ⟨i, done, rest, vs, kk, ii, ti, tn, ps, vc, vj, vst, hii, rfl, hi, hpp, hdr, hvs, hTab, hvz, D⟩
  wtm_at "ms"
  refine ite_b (fun h => ?_) (fun h => ?_)
  · have hlt : i < (patT p).length := by have := of_decide_eq_true h; omega
    clear h
    cases rest with
    | nil => exfalso; have := congrArg List.length hdr; simp [patT] at this; simp [patT] at hlt; omega
    | cons tok rest =>
    cases tok with
    | none =>
      have hdc : (patT p).drop i = 42 :: patT rest := hdr
      wtm_at "ms"
      with_reducible refine' q_item (c := 42) D ?hi (drop_ai hii hdc) hz ?_ ?hs ?ht; wtm_at "it"
      have hpp' : p = (done ++ [none]) ++ rest := by rw [hpp]; simp
      cases hvs' : partsOf done with
      | nil =>
        rw [hvs'] at hvs
        cases hvs
        refine ite_t (by decide) ?_
        wtm_at "ms"
        refine ⟨_, ?_, i + 1, done ++ [none], rest, _, _, _, _, _, ps, _, _, _, ?_, rfl, hlt, hpp', drop_more hdc, ?_, hTab, ?_, D⟩
        · omega
        · omega
        · rw [partsOf_snoc, hvs']; exact .star .nil
        · simp
      | cons l0 lr =>
        obtain ⟨vs', ls', v, l, rfl, els, h', ho⟩ := hvs.last (by rw [hvs']; exact List.cons_ne_nil _ _)
        have hvn : vs' ++ [v] ≠ [] := by simp
        have hvz' : vs'.length ≤ 16777216 := by simp at hvz; omega
        refine ite_f (by rw [d_f hvn]; rfl) ?_
        rcases ho with ⟨rfl, rfl⟩ | ⟨x, tx, rfl, rfl⟩
        · wtm_at "ms"
          refine ⟨_, ?_, i + 1, done ++ [none], rest, _, _, _, _, _, ps, _, _, _, ?_, rfl, hlt, hpp', drop_more hdc, ?_, hTab, ?_, D⟩
          · omega
          · omega
          · rw [partsOf_snoc, els, stepP, if_pos (by simp)]; rw [← els]; exact hvs
          · omega
        · wtm_at "ms"
          refine ⟨_, ?_, i + 1, done ++ [none], rest, _, _, _, _, _, ps, _, _, _, ?_, rfl, hlt, hpp', drop_more hdc, ?_, hTab, ?_, D⟩
          · omega
          · omega
          · rw [partsOf_snoc, els, stepP, if_neg (by simp)]; rw [← els]; exact hvs.snocS
          · simp at hvz ⊢; omega
    | some c =>
      have hpp' : p = (done ++ [some c]) ++ rest := by rw [hpp]; simp
      have hgc : (c = 42 ∨ c = 63 ∨ c = 91) ∨ ((c = 92 ∨ c = 32 ∨ c ∉ special) ∧ c ≠ 42 ∧ c ≠ 63 ∧ c ≠ 91) := by
        rcases hgood c (by rw [hpp]; simp) with h | h | h | h
        · exact .inl (.inl h)
        · exact .inl (.inr (.inl h))
        · exact .inl (.inr (.inr h))
        · exact .inr h
      rcases hgc with hc | ⟨hc1, hc42, hc63, hc91⟩
      · have hbc : barred c = [91, c, 93] := by unfold barred; rw [if_pos (by simp; omega)]
        have htw : quietRun (Builtin.Re.reRunToEnd (Sre.forSearch twinCode #[c] 1 0 1 false)) = some none := by
          rcases hc with rfl | rfl | rfl
          · exact twin42
          · exact twin63
          · exact twin91
        have hn33 : c ≠ 33 := by omega
        have hn93 : c ≠ 93 := by omega
        have hn45 : c ≠ 45 := by omega
        have hn94 : c ≠ 94 := by omega
        have hdc : (patT p).drop i = 91 :: c :: 93 :: patT rest := by rw [hdr]; show barred c ++ _ = _; rw [hbc]; rfl
        have hd1 := drop_more hdc
        have hd2 := drop_more hd1
        have hl1 := drop_lt hd1
        have hl2 := drop_lt hd2
        have hP : PatAt g 49 := patOk_at S.X (show patOk (hd.heap_39 w.params) 49 48 = true by kernel_rfl)
        wtm_at "ms"
        with_reducible refine' q_item (c := 91) D ?hi (drop_ai hii hdc) hz ?_ ?hs ?ht; wtm_at "it"
        refine ite_t (d_t (by omega)) ?_
        wtm_at "ms"
        with_reducible refine' q_item (c := c) D ?hi (drop_ai (i := i + 1) (by omega) hd1) hz ?_ ?hs ?ht; wtm_at "it"
        refine ite_f (d_f (by simp [hn33])) ?_
        wtm_at "ms"
        refine ite_t (d_t (by omega)) ?_
        wtm_at "ms"
        with_reducible refine' q_item (c := c) D ?hi (drop_ai (i := i + 1) (by omega) hd1) hz ?_ ?hs ?ht; wtm_at "it"
        refine ite_f (d_f (by simp [hn93])) ?_
        wtm_at "ms"
        refine m_while (fun m s => ∃ (jn : Nat) (jj : Int) (tj ti tn : Tok) (vc vst : Option Value), (jn = i + 1 ∨ jn = i + 2) ∧ jj = jn ∧ m = i + 2 - jn ∧
          St B g env (tV (patT p) t0 st t1 R' ad (ii + 1) ti (patT p).length tn vc (some (.int jj tj)) vst) s [(ad, bnd R'), (R', Lo vs kk), (70, tabObj ps)]) 1 ?_ ?_
        · exact ⟨i + 1, _, _, _, _, _, _, .inl rfl, by omega, by omega, D⟩
        clear D
        rintro m s ⟨jn, jj, tj, ti, tn, vc, vst, hjn, hjj, rfl, D⟩
        wtm_at "ms"
        refine ite_t (d_t (by omega)) ?_
        wtm_at "ms"
        rcases hjn with rfl | rfl
        · with_reducible refine' q_item (c := c) D ?hi (drop_ai (i := i + 1) hjj hd1) hz ?_ ?hs ?ht; wtm_at "it"
          refine ite_t (nd_t (by simp [hn93])) ?_
          wtm_at "ms"
          exact ⟨_, by omega, i + 2, _, _, _, _, _, _, .inr rfl, by omega, rfl, D⟩
        · with_reducible refine' q_item (c := 93) D ?hi (drop_ai (i := i + 2) hjj hd2) hz ?_ ?hs ?ht; wtm_at "it"
          refine ite_f (d_f (by omega)) ?_
          wtm_at "ms"
          with_reducible refine' q_slice_ak D (i + 1) 1 hd1 ?hi ?hj ?hb hz ?_ ?hs ?ht; wtm_at "sl"
          refine ite_t (nd_t (by simp; omega)) ?_
          have htk : (c :: 93 :: patT rest).take 1 = [c] := rfl
          rw [htk] at D
          wtm_at "ms"
          have hsub : sub1 92 [92, 92] [c] = [c] := sub1_free (by simp; omega)
          rw [hsub] at D
          refine gm_sub (hP.keeps D.keep) ?_
          wtm_at "ms"
          refine r_lambda (f := fun ps' => [(ad, bnd R'), (R', Lo vs kk), (70, tabObj ps')]) S D H.glo hcd (show codeHdIn (hd.heap_39 w.params) 74 70 = true by kernel_rfl) hTab (fun ps' => .tail (.tail .head)) ?_ ?_ ?_
          · rfl
          · rfl
          wtm_at "nl"
          clear hTab
          intro x fo ps' s hTab hfo hxB D
          wtm_at "ms"
          refine sub_one (hP.keeps D.keep) (D.get List.mem_cons_self) hfo htw fun t s' hx => ?_
          replace D := (D.ext hx).drop (List.sublist_cons_self _ _)
          clear hx
          wtm_at "ms"
          have h1l : ([c] : List Nat).length ≤ 16777216 := by simp
          have h1i : ([c] : List Nat)[(0 : Int).toNat]? = some c := rfl
          refine ite_f (d_f (by simp [hn33])) ?_
          wtm_at "ms"
          with_reducible refine' q_item (c := c) D ?hi h1i h1l ?_ ?hs ?ht; wtm_at "it"
          refine ite_f (d_f (by simp [hn33])) ?_
          wtm_at "ms"
          with_reducible refine' q_item (c := c) D ?hi h1i h1l ?_ ?hs ?ht; wtm_at "it"
          have hbl : (patT p).drop (i + 3) = patT rest := drop_more hd2
          refine ite_b (fun h91 => ?_) (fun h91 => ?_)
          · have hc91 : c = 91 := by have := of_decide_eq_true h91; simp at this; omega
            wtm_at "ms"
            have hee : eS c = [] ++ [91] ++ ([92] ++ [c]) ++ [93] := by subst hc91; rfl
            refine ⟨_, ?_, i + 3, done ++ [some c], rest, _, _, _, _, _, ps', _, _, _, ?_, rfl, ?_, hpp', hbl, ?_, hTab, ?_, D⟩
            · omega
            · omega
            · omega
            · rw [partsOf_snoc, stepP, hee]; exact hvs.snocT
            · simp; omega
          · have hc91 : c ≠ 91 := by have := of_decide_eq_false h91; simp at this; omega
            wtm_at "ms"
            have hee : eS c = [] ++ [91] ++ [c] ++ [93] := by unfold eS; rw [if_neg hc91, if_pos (by omega)]; rfl
            refine ⟨_, ?_, i + 3, done ++ [some c], rest, _, _, _, _, _, ps', _, _, _, ?_, rfl, ?_, hpp', hbl, ?_, hTab, ?_, D⟩
            · omega
            · omega
            · omega
            · rw [partsOf_snoc, stepP, hee]; exact hvs.snocT
            · simp; omega
      · have hbc : barred c = [c] := by unfold barred; rw [if_neg (by simp; omega)]
        have hec : eS c = escS c := by unfold eS escS; rw [if_neg hc91, if_neg (by omega)]
        have hdc : (patT p).drop i = c :: patT rest := by rw [hdr]; show barred c ++ _ = _; rw [hbc]; rfl
        wtm_at "ms"
        with_reducible refine' q_item (c := c) D ?hi (drop_ai hii hdc) hz ?_ ?hs ?ht; wtm_at "it"
        refine ite_f (d_f (by simp [hc42])) ?_
        wtm_at "ms"
        refine ite_f (d_f (by simp [hc63])) ?_
        wtm_at "ms"
        refine ite_f (d_f (by simp [hc91])) ?_
        wtm_at "ms"
        refine use0 (tEscape w c hc1 _) S (hA'.less (by decide)) D fun v own' s0 hp D => ?_
        obtain ⟨tt, rfl, rfl⟩ := hp
        replace D := D.drop (List.Sublist.refl [(ad, bnd R'), (R', Lo vs kk), (70, tabObj ps)])
        wtm_at "ms"
        refine ⟨_, ?_, i + 1, done ++ [some c], rest, _, _, _, _, _, ps, _, _, _, ?_, rfl, hlt, hpp', drop_more hdc, ?_, hTab, ?_, D⟩
        · omega
        · omega
        · rw [partsOf_snoc, stepP, hec]; exact hvs.snocT
        · simp; omega
  · have hend : i = (patT p).length := by have := of_decide_eq_false h; omega
    have hre : rest = [] := by
      cases rest with
      | nil => rfl
      | cons a r =>
        exfalso
        have h0 := congrArg List.length hdr
        have : 1 ≤ (tokT a).length := by cases a with | none => simp [tokT] | some c => simp only [tokT, barred]; split <;> simp
        simp [patT] at h0
        simp [patT] at hend
        omega
    subst hre
    rw [List.append_nil] at hpp
    subst hpp
    wtm_at "ms"
    refine ite_t (by rw [hii, hend]; exact beq_self_eq_true _) ?_
    wtm_at "ms"
    refine D.leaveT (nw := [(R', Lo vs kk)]) (List.sublist_cons_self _ _) (fun x hx => ?_) hs0 hTab ⟨_, _, _, rfl, rfl, hvs⟩ k
    rw [List.mem_singleton.mp hx]; exact hRB

end
section
theorem tTranslate (w : World) (p : List (Option Nat)) (hgood : ∀ c, some c ∈ p → GoodC c) (hb : (patT p).length ≤ 3000) (t0 : Tok) (pf : List (List Nat)) (r : List (List (List Nat))) (hpf : partsOf p = pf.map some ++ tailParts r) (hmid : ∀ q ∈ r.dropLast, q ≠ []) (hlen : (pf.flatten ++ tT r).length ≤ 10000) (hpn : (partsOf p).length ≤ 10000) :
    FnT (hd.heap_39 w.params) PySem.Challenge.pw_kt0083_01 w 8 70 lamPos (.ref 56) [.str (T (patT p)) t0] []
      (fun v own => ∃ t, v = .str (T ([40, 63, 115, 58] ++ (pf.flatten ++ tT r) ++ [41, 92, 90])) t ∧ own = []) := by
  intro A s g R ps hTab S hA O hr k
  have hs0 : g.objs.size ≤ s.heap.objs.size := O.size
  refine' enter (binds := [(Str.ofString "pat", .str (T (patT p)) t0)]) (more := [Str.ofString "STAR", Str.ofString "parts"])
    (gl := [(Str.ofString "object", .type "object"), (Str.ofString "_translate", .ref 75), (Str.ofString "_join_translated_parts", .ref 82)]) S O hA ?h1 ?h2 ?h3 ?h4 ?h5 ?_
  case h1 => k_is
  case h2 => k_is
  case h3 => exact BindsTo.of_eq rfl
  case h4 => kernel_rfl
  case h5 => kernel_rfl
  intro env A' s1 hA' H D
  replace D : St s g env [(Str.ofString "pat", some (.str (T (patT p)) t0)), (Str.ofString "STAR", none), (Str.ofString "parts", none)] s1 [(70, tabObj ps)] := D
  generalize s = B at D k hs0 O
  clear O
  wtm_at "ms"
  refine callWith_type0 (call_object_0 ?_)
  have hSB : B.heap.objs.size ≤ s1.heap.objs.size := D.up.2
  replace D := D.made obObj
  generalize s1.heap.objs.size = st at D hSB ⊢
  wtm_at "ms"
  refine useT (news := [(st, obObj)]) (tTrans w st p hgood (by omega) _ _) hTab S (hA'.less (by decide)) D (fun p hp => nomatch hp) fun v own' ps2 s0 hp hTab2 hB D => ?_
  obtain ⟨a, vs, kk, rfl, rfl, hparts⟩ := hp
  replace D : St B g env [(Str.ofString "pat", some (.str (T (patT p)) t0)), (Str.ofString "STAR", some (.ref st)), (Str.ofString "parts", none)] s0 [(a, Lo vs kk), (st, obObj), (70, tabObj ps2)] := D
  rw [hpf] at hparts hpn
  wtm_at "ms"
  refine useR (tJoin w a st vs kk pf r hparts hmid hlen (by rw [hparts.len]; exact hpn)) S (hA'.less (by decide)) D (fun p hp => by rw [List.mem_singleton.mp hp]; exact D.get List.mem_cons_self) fun v own' s0 hp hB2 D => ?_
  obtain ⟨t, rfl, rfl⟩ := hp
  exact D.leaveT (nw := []) (by simp) (fun p hp => nomatch hp) hs0 hTab2 ⟨_, rfl, rfl⟩ k

end
section
/-! ## the pieces of a token list -/
/-- pieces, the last first: a star opens a new piece unless the last of several is empty -/
def stepQ (q : List (List Nat)) : Option Nat → List (List Nat)
  | none => match q with
    | [] :: p :: r => [] :: p :: r
    | q => [] :: q
  | some c => match q with
    | [] => [[c]]
    | p :: r => (p ++ [c]) :: r
def pcsR (p : List (Option Nat)) : List (List Nat) := p.foldl stepQ [[]]
def pcs (p : List (Option Nat)) : List (List Nat) := (pcsR p).reverse
theorem pcsR_snoc (d : List (Option Nat)) (t : Option Nat) : pcsR (d ++ [t]) = stepQ (pcsR d) t := by unfold pcsR; rw [List.foldl_append]; rfl
def sg (x : List Nat) : List (Option (List Nat)) := x.map fun c => some (eS c)
def frm : List (List Nat) → List (Option (List Nat))
  | [] => []
  | p :: r => (p.map eS).map some ++ tailParts (r.map (·.map eS))
theorem tailParts_snoc (r : List (List (List Nat))) (q : List (List Nat)) : tailParts (r ++ [q]) = tailParts r ++ none :: q.map some := by
  induction r with
  | nil => simp [tailParts]
  | cons a r ih => simp [tailParts, ih]
theorem frm_one (x : List Nat) : frm [x] = sg x := by simp [frm, tailParts, sg]
theorem frm_snoc {l : List (List Nat)} (hl : l ≠ []) (x : List Nat) : frm (l ++ [x]) = frm l ++ none :: sg x := by
  cases l with
  | nil => exact absurd rfl hl
  | cons a r => simp [frm, tailParts_snoc, sg]
theorem sg_snoc (x : List Nat) (c : Nat) : sg (x ++ [c]) = sg x ++ [some (eS c)] := by simp [sg]
structure Inv (acc : List (Option (List Nat))) (q : List (List Nat)) : Prop where
  ne : q ≠ []
  eq : acc = frm q.reverse
  mid : ∀ x ∈ q.tail.dropLast, x ≠ []
theorem sg_last {x : List Nat} : (sg x).getLast? ≠ some none := by
  intro h
  have := List.mem_of_getLast? h
  simp [sg] at this
theorem frm_cons {p : List Nat} {r : List (List Nat)} : frm (p :: r).reverse = if r = [] then sg p else frm r.reverse ++ none :: sg p := by
  rw [List.reverse_cons]
  by_cases h : r = []
  · subst h; simp [frm_one]
  · rw [if_neg h, frm_snoc (by simpa using h)]
theorem Inv.step {acc q} (h : Inv acc q) (t : Option Nat) : Inv (stepP acc t) (stepQ q t) := by
  obtain ⟨ne, rfl, mid⟩ := h
  cases q with
  | nil => exact absurd rfl ne
  | cons p r =>
  cases t with
  | some c =>
    refine ⟨List.cons_ne_nil _ _, ?_, mid⟩
    show frm (p :: r).reverse ++ [some (eS c)] = frm ((p ++ [c]) :: r).reverse
    rw [frm_cons, frm_cons]
    by_cases h : r = []
    · rw [if_pos h, if_pos h, sg_snoc]
    · rw [if_neg h, if_neg h, sg_snoc]; simp
  | none =>
    by_cases hp : p = [] ∧ r ≠ []
    · obtain ⟨rfl, hr⟩ := hp
      obtain ⟨a, b, rfl⟩ := List.exists_cons_of_ne_nil hr
      refine ⟨List.cons_ne_nil _ _, ?_, mid⟩
      show stepP (frm ([] :: a :: b).reverse) none = frm ([] :: a :: b).reverse
      rw [frm_cons, if_neg (by simp), stepP, if_pos (by simp [sg])]
    · have hq : stepQ (p :: r) none = [] :: p :: r := by
        unfold stepQ
        dsimp only
        split
        · rename_i a b e
          injection e with e1 e2
          exact absurd ⟨e1, by rw [e2]; simp⟩ hp
        · rfl
      rw [hq]
      refine ⟨List.cons_ne_nil _ _, ?_, ?_⟩
      · rw [frm_cons (p := []), if_neg (by simp), stepP, if_neg]
        · rfl
        · rw [frm_cons]
          by_cases h : r = []
          · rw [if_pos h]; exact sg_last
          · rw [if_neg h]
            have hp' : p ≠ [] := fun e => hp ⟨e, h⟩
            intro hl
            rw [List.getLast?_append] at hl
            have : (none :: sg p : List (Option (List Nat))).getLast? = (sg p).getLast? := by
              cases p with
              | nil => exact absurd rfl hp'
              | cons a b => simp [sg]
            rw [this] at hl
            cases hs : (sg p).getLast? with
            | none => rw [List.getLast?_eq_none_iff] at hs; simp [sg] at hs; exact hp' hs
            | some v => rw [hs] at hl; simp at hl; subst hl; exact sg_last hs
      · intro x hx
        show x ≠ []
        cases r with
        | nil => simp at hx
        | cons a b =>
          simp only [List.tail_cons] at hx mid
          rw [List.dropLast_cons_of_ne_nil (List.cons_ne_nil _ _)] at hx
          rcases List.mem_cons.mp hx with rfl | hx
          · exact fun e => hp ⟨e, by simp⟩
          · exact mid x hx
theorem Inv.fold : ∀ (p : List (Option Nat)) {acc q}, Inv acc q → Inv (p.foldl stepP acc) (p.foldl stepQ q)
  | [], _, _, h => h
  | t :: p, _, _, h => Inv.fold p (h.step t)
theorem inv_pcs (p : List (Option Nat)) : Inv (partsOf p) (pcsR p) := Inv.fold p ⟨List.cons_ne_nil _ _, by simp [frm_one, sg], by simp⟩
theorem eT_flat (x : List Nat) : (x.map eS).flatten = eT x := by unfold eT; rw [List.flatMap_def]
theorem tT_tail : ∀ r : List (List Nat), tT (r.map (·.map eS)) = trTail r
  | [] => rfl
  | [q] => by show [46, 42] ++ (q.map eS).flatten = _; rw [eT_flat]; rfl
  | m :: q :: r => by
    have ih := tT_tail (q :: r)
    show [40, 63, 62, 46, 42, 63] ++ ((m.map eS).flatten ++ ([41] ++ tT ((q :: r).map (·.map eS)))) = _
    rw [ih, eT_flat, trTail_two]

end
section
theorem tIndex (w : World) (i : Int) (hi : -1099511627776 ≤ i ∧ i ≤ 1099511627776) (x : List Nat) (t0 t1 : Tok) : Fn (hd.heap_39 w.params) PySem.Challenge.pw_kt0083_01 w 3 (.ref 128) [.int i t0, .str (T x) t1] [] (fun v own => ∃ t, v = .int i t ∧ own = []) := by
  intro A s g R S hA O k
  have hs0 : g.objs.size ≤ s.heap.objs.size := O.size
  refine' enter (binds := [(Str.ofString "n", .int i t0), (Str.ofString "what", .str (T x) t1)]) (more := []) (gl := [(Str.ofString "type", .type "type"), (Str.ofString "int", .type "int")]) S O hA ?h1 ?h2 ?h3 ?h4 ?h5 ?_
  case h1 => k_is
  case h2 => k_is
  case h3 => exact BindsTo.of_eq rfl
  case h4 => kernel_rfl
  case h5 => kernel_rfl
  intro env A' s1 hA' H D
  replace D : St s g env [(Str.ofString "n", some (.int i t0)), (Str.ofString "what", some (.str (T x) t1))] s1 [] := D
  generalize s = B at D k hs0 O
  clear O
  wtm_at "ms"
  refine ite_f (decide_eq_false (by omega)) ?_
  wtm_at "ms"
  refine ite_f (decide_eq_false (by omega)) ?_
  wtm_at "ms"
  exact D.leave (own := []) (fun _ hp => nomatch hp) hs0 ⟨_, rfl, rfl⟩ k
/-! ## the text stream -/
abbrev sioF (l : List Nat) (k : Nat) (t1 t2 t3 : Tok) : Vals := [(Str.ofString "_StringIO__newline", some (.str (T [10]) t1)), (Str.ofString "_StringIO__buf", some (.str (T l) t2)), (Str.ofString "_StringIO__pos", some (.int k t3))]
theorem tCheck (w : World) (x dx : Addr) (es : List DictEntry) (n : Nat) (l : List Nat) (k : Nat) (t1 t2 t3 : Tok) (hF : Has es (sioF l k t1 t2 t3)) :
    Fn (hd.heap_39 w.params) PySem.Challenge.pw_kt0083_01 w 3 (.ref 446) [.ref x] [Ob x 662 dx, Di dx es n] (fun v own => v = .none ∧ own = [Ob x 662 dx, Di dx es n]) := by
  intro A s g R S hA O k
  have hs0 : g.objs.size ≤ s.heap.objs.size := O.size
  refine' enter (binds := [(Str.ofString "self", .ref x)]) (more := []) (gl := []) S O hA ?h1 ?h2 ?h3 ?h4 ?h5 ?_
  case h1 => k_is
  case h2 => k_is
  case h3 => exact BindsTo.of_eq rfl
  case h4 => kernel_rfl
  case h5 => kernel_rfl
  intro env A' s1 hA' H D
  replace D : St s g env [(Str.ofString "self", some (.ref x))] s1 [Ob x 662 dx, Di dx es n] := D
  generalize s = B at D k hs0 O
  clear O
  wtm_at "ms"
  wtm_at "ms"
  exact D.leave (own := [Ob x 662 dx, Di dx es n]) (fun p hp => .inl (List.mem_map_of_mem hp)) hs0 ⟨rfl, rfl⟩ k
theorem tRead (w : World) (x dx : Addr) (es : List DictEntry) (n : Nat) (l : List Nat) (j : Nat) (hj : j ≤ l.length) (hl : l.length ≤ 100000) (t0 t1 t2 t3 : Tok) (hF : Has es (sioF l j t1 t2 t3)) :
    Fn (hd.heap_39 w.params) PySem.Challenge.pw_kt0083_01 w 5 (.ref 608) [.ref x, .int 1 t0] [Ob x 662 dx, Di dx es n]
      (fun v own => ∃ t es' n' t3', v = .str (T ((l.drop j).take 1)) t ∧ own = [Ob x 662 dx, Di dx es' n'] ∧ Has es' (sioF l (if j < l.length then j + 1 else j) t1 t2 t3')) := by
  intro A s g R S hA O k
  have hs0 : g.objs.size ≤ s.heap.objs.size := O.size
  refine' enter (binds := [(Str.ofString "self", .ref x), (Str.ofString "size", .int 1 t0)]) (more := [Str.ofString "start", Str.ofString "stop"]) (gl := [(Str.ofString "_index", .ref 128), (Str.ofString "len", .builtin "len")]) S O hA ?h1 ?h2 ?h3 ?h4 ?h5 ?_
  case h1 => k_is
  case h2 => k_is
  case h3 => exact binds_K (S.X.keeps O.keep) rfl (by k_is) rfl rfl rfl
  case h4 => kernel_rfl
  case h5 => kernel_rfl
  intro env A' s1 hA' H D
  replace D : St s g env [(Str.ofString "self", some (.ref x)), (Str.ofString "size", some (.int 1 t0)), (Str.ofString "start", none), (Str.ofString "stop", none)] s1 [Ob x 662 dx, Di dx es n] := D
  generalize s = B at D k hs0 O
  clear O
  wtm_at "ms"
  refine use0 (tIndex w 1 (by decide) _ _ _) S (hA'.less (by decide)) D fun v own' s hp D => ?_
  obtain ⟨tt, rfl, rfl⟩ := hp
  replace D : St B g env _ s [Ob x 662 dx, Di dx es n] := D
  wtm_at "ms"
  refine useO (pre := []) (post := []) (tCheck w x dx es n l j t1 t2 t3 hF) S (hA'.less (by decide)) D (fun v own' hp => by rw [hp.2]) fun v own' s hp D => ?_
  obtain ⟨rfl, rfl⟩ := hp
  replace D : St B g env _ s [Ob x 662 dx, Di dx es n] := D
  wtm_at "ms"
  refine ite_b (fun h => ?_) (fun h => ?_)
  · have hj2 : j = l.length := by have := of_decide_eq_true h; omega
    have e1 : (l.drop j).take 1 = [] := by rw [List.drop_eq_nil_of_le (by omega)]; rfl
    have e2 : (if j < l.length then j + 1 else j) = j := if_neg (by omega)
    simp only [e1, e2] at k
    wtm_at "ms"
    exact D.leave (own := [Ob x 662 dx, Di dx es n]) (fun p hp => .inl (List.mem_map_of_mem hp)) hs0 ⟨_, es, n, t3, rfl, rfl, hF⟩ k
  · have hj2 : j < l.length := by have := of_decide_eq_false h; omega
    have e2 : (if j < l.length then j + 1 else j) = j + 1 := if_pos hj2
    have e3 : (((l.drop j).take 1) ++ [32]).take ((((l.drop j).take 1) ++ [32]).length - 1) = (l.drop j).take 1 := by simp
    have e5 : ((l.drop j).take 1).length ≤ 1 := by simp; omega
    simp only [e2] at k
    wtm_at "ms"
    have hz : l.length ≤ 16777216 := by omega
    have e4 : (((l.drop j).take 1) ++ [32]).length ≤ 2 := by simp; omega
    have e6 : (((l.drop j).take 1) ++ [32]).length ≤ 16777216 := by omega
    have e7 : 1 ≤ (((l.drop j).take 1) ++ [32]).length := by simp
    refine ite_b (fun h2 => ?_) (fun h2 => ?_)
    · wtm_at "ms"
      refine q_slice_ak D j 1 rfl (by omega) (by omega) (by omega) hz ?_; wtm_at "nx"; wtm_at "ms"
      refine q_slice_butlast (k := 1) D (by decide) e7 e6 ?_; wtm_at "nx"; wtm_at "ms"
      rw [e3]
      exact D.leave (own := [Ob x 662 dx, Di dx _ _]) (fun p hp => .inl (List.mem_map_of_mem hp)) hs0 ⟨_, _, _, _, rfl, rfl, hF⟩ k
    · have hj3 : l.length = j + 1 := by have := of_decide_eq_false h2; omega
      wtm_at "ms"
      refine q_slice_ak D j 1 rfl (by omega) (by omega) (by omega) hz ?_; wtm_at "nx"; wtm_at "ms"
      refine q_slice_butlast (k := 1) D (by decide) e7 e6 ?_; wtm_at "nx"; wtm_at "ms"
      rw [e3]
      rw [hj3] at hF
      exact D.leave (own := [Ob x 662 dx, Di dx _ _]) (fun p hp => .inl (List.mem_map_of_mem hp)) hs0 ⟨_, _, _, _, rfl, rfl, hF⟩ k

end
section
/-! ## shlex.read_token -/
abbrev lexF (sio d1 d2 : Addr) (W : List Nat) (tk : Nat → Tok) (st : Value) (tok : List Nat) (tt : Tok) : Vals :=
  [(Str.ofString "instream", some (.ref sio)), (Str.ofString "infile", some .none), (Str.ofString "posix", some (.bool true)), (Str.ofString "eof", some .none), (Str.ofString "commenters", some (.str (T []) (tk 0))),
   (Str.ofString "wordchars", some (.str (T W) (tk 1))), (Str.ofString "whitespace", some (.str (T [32, 9, 13, 10]) (tk 2))), (Str.ofString "whitespace_split", some (.bool true)), (Str.ofString "quotes", some (.str (T [39, 34]) (tk 3))),
   (Str.ofString "escape", some (.str (T [92]) (tk 4))), (Str.ofString "escapedquotes", some (.str (T [34]) (tk 5))), (Str.ofString "state", some st), (Str.ofString "pushback", some (.ref d1)), (Str.ofString "lineno", some (.int 1 (tk 6))),
   (Str.ofString "debug", some (.int 0 (tk 7))), (Str.ofString "token", some (.str (T tok) tt)), (Str.ofString "filestack", some (.ref d2)), (Str.ofString "source", some .none), (Str.ofString "_punctuation_chars", some (.str (T []) (tk 8)))]
theorem tPunct (w : World) (x dx : Addr) (es : List DictEntry) (n : Nat) (sio d1 d2 : Addr) (W : List Nat) (tk : Nat → Tok) (st : Value) (tok : List Nat) (tt : Tok) (hF : Has es (lexF sio d1 d2 W tk st tok tt)) :
    FnR (hd.heap_39 w.params) PySem.Challenge.pw_kt0083_01 w 3 (.ref 728) [.ref x] [Ob x 797 dx, Di dx es n] (fun v own => v = .str (T []) (tk 8) ∧ own = []) := by
  intro A s g R S hA O hr k
  have hs0 : g.objs.size ≤ s.heap.objs.size := O.size
  have hx1 : g.get? x = some (instObj 797 dx) := hr (Ob x 797 dx) (by simp)
  have hx2 : g.get? dx = some (dictOf es n) := hr (Di dx es n) (by simp)
  refine' enter (binds := [(Str.ofString "self", .ref x)]) (more := []) (gl := []) S O hA ?h1 ?h2 ?h3 ?h4 ?h5 ?_
  case h1 => k_is
  case h2 => k_is
  case h3 => exact BindsTo.of_eq rfl
  case h4 => kernel_rfl
  case h5 => kernel_rfl
  intro env A' s1 hA' H D
  replace D : St s g env [(Str.ofString "self", some (.ref x))] s1 [] := D
  generalize s = B at D k hs0 O
  clear O
  wtm_at "ms"
  exact D.leave (own := []) (fun p hp => nomatch hp) hs0 ⟨rfl, rfl⟩ k
section
variable {B : Shared} {g : Heap} {env : Env} {vals vals' : Vals} {s : Shared} {news news' : News'} {A : Around} {E : Value → Shared → Prop} {w : World}
theorem r_punct {x dx : Addr} {es : List DictEntry} {n : Nat} {sio d1 d2 : Addr} {W : List Nat} {tk : Nat → Tok} {st : Value} {tok : List Nat} {tt : Tok} {expr : Bool} {Q : Value → Shared → Prop} (S : Sta (hd.heap_39 w.params) g) (D : St B g env vals s news) (hA : Room A 4)
    (hx : Ob x 797 dx ∈ news) (hd : Di dx es n ∈ news) (hF : Has es (lexF sio d1 d2 W tk st tok tt)) (k : ∀ s', St B g env vals s' news → Q (.str (T []) (tk 8)) s') :
    wpAny (model PySem.Challenge.pw_kt0083_01 w) A (getAttr (.ref x) (Str.ofString "punctuation_chars") expr) Q E s := by
  refine r_prop S D (D.get hx) (D.get hd) (po797 w) fun s' D' => useRc (tPunct w x dx es n sio d1 d2 W tk st tok tt hF) S hA.in1 D' (fun p hp => ?_) fun v own' s2 hp _ D2 => ?_
  · simp only [List.mem_cons, List.not_mem_nil, or_false] at hp
    rcases hp with rfl | rfl
    · exact D'.get hx
    · exact D'.get hd
  · obtain ⟨rfl, rfl⟩ := hp
    exact ⟨rfl, k s2 D2⟩
end
/-- the coding of a shell's word -/
def e0 (c : Nat) : List Nat := if c = 92 then [92, 92] else if c = 34 then [92, 34] else [c]
theorem e0_len (z : List Nat) : (z.flatMap e0).length ≤ 2 * z.length := by
  induction z with
  | nil => simp
  | cons c r ih =>
    have : (e0 c).length ≤ 2 := by unfold e0; split <;> (try split) <;> simp
    rw [List.flatMap_cons, List.length_append, List.length_cons]; omega
inductive RT (z : List Nat) : List Nat → List Nat → List Nat → Prop
  | start : RT z [32] [] (34 :: (z.flatMap e0 ++ [34]))
  | mid {d zs} : d ++ zs = z → RT z [34] d (zs.flatMap e0 ++ [34])
  | esc {d c zs} : d ++ c :: zs = z → (c = 34 ∨ c = 92) → RT z [92] d (c :: (zs.flatMap e0 ++ [34]))
  | fin : RT z [97] z []
abbrev rV (x : Addr) (qv : Bool) (es : List Nat) (t : Tok) (vn vr : Option Value) : Vals := [(Str.ofString "self", some (.ref x)), (Str.ofString "quoted", some (.bool qv)), (Str.ofString "escapedstate", some (.str (T es) t)), (Str.ofString "nextchar", vn), (Str.ofString "result", vr)]
theorem tTok1 (w : World) (x dx sio sd : Addr) (es es2 : List DictEntry) (n n2 : Nat) (d1 d2 : Addr) (W : List Nat) (tk : Nat → Tok) (ts tt t1 t2 t3 : Tok) (z : List Nat) (hz : z.length ≤ 10000) (hg : ∀ c ∈ z, c ≠ 10) (hW : 34 ∉ W) (hWl : W.length ≤ 10000)
    (hF : Has es (lexF sio d1 d2 W tk (.str (T [32]) ts) [] tt)) (hF2 : Has es2 (sioF (34 :: (z.flatMap e0 ++ [34])) 0 t1 t2 t3)) :
    Fn (hd.heap_39 w.params) PySem.Challenge.pw_kt0083_01 w 8 (.ref 765) [.ref x] [Ob sio 662 sd, Di sd es2 n2, Ob x 797 dx, Di dx es n]
      (fun v own => ∃ t tt' t3' es' n' es2' n2', v = .str (T z) t ∧ own = [Ob sio 662 sd, Di sd es2' n2', Ob x 797 dx, Di dx es' n'] ∧ Has es' (lexF sio d1 d2 W tk .none [] tt') ∧
        Has es2' (sioF (34 :: (z.flatMap e0 ++ [34])) (34 :: (z.flatMap e0 ++ [34])).length t1 t2 t3')) := by
  intro A s g R S hA O k
  have hs0 : g.objs.size ≤ s.heap.objs.size := O.size
  refine' enter (binds := [(Str.ofString "self", .ref x)]) (more := [Str.ofString "quoted", Str.ofString "escapedstate", Str.ofString "nextchar", Str.ofString "result"]) (gl := []) S O hA ?h1 ?h2 ?h3 ?h4 ?h5 ?_
  case h1 => k_is
  case h2 => k_is
  case h3 => exact BindsTo.of_eq rfl
  case h4 => kernel_rfl
  case h5 => kernel_rfl
  intro env A' s1 hA' H D
  replace D : St s g env [(Str.ofString "self", some (.ref x)), (Str.ofString "quoted", none), (Str.ofString "escapedstate", none), (Str.ofString "nextchar", none), (Str.ofString "result", none)] s1 [Ob sio 662 sd, Di sd es2 n2, Ob x 797 dx, Di dx es n] := D
  generalize s = B at D k hs0 O
  clear O
  wtm_at "ms"
  have hLl : (34 :: (z.flatMap e0 ++ [34])).length ≤ 2 * z.length + 2 := by have := e0_len z; simp only [List.length_cons, List.length_append, List.length_nil]; omega
  generalize hL : 34 :: (z.flatMap e0 ++ [34]) = L at k hF2 hLl
  refine m_while (fun m s => ∃ (j : Nat) (st d r : List Nat) (qv : Bool) (eS' : List Nat) (t ts tt t3 : Tok) (vn : Option Value) (es es2 : List DictEntry) (n n2 : Nat), m = L.length + 1 - j ∧ j ≤ L.length ∧ L.drop j = r ∧ RT z st d r ∧ (st = [92] → eS' = [34]) ∧ (st = [97] → qv = true) ∧ d.length ≤ z.length ∧
    Has es (lexF sio d1 d2 W tk (.str (T st) ts) d tt) ∧ Has es2 (sioF L j t1 t2 t3) ∧
    St B g env (rV x qv eS' t vn none) s [Ob sio 662 sd, Di sd es2 n2, Ob x 797 dx, Di dx es n]) (L.length + 1) ?_ ?_
  · exact ⟨0, [32], [], L, false, _, _, _, _, _, _, es, es2, n, n2, rfl, Nat.zero_le _, rfl, hL ▸ .start, (fun q => by cases q), (fun q => by cases q), Nat.zero_le _, hF, hF2, D⟩
  clear D hF hF2
  rintro m s ⟨j, st, d, r, qv, eS', t, ts, tt, t3, vn, es, es2, n, n2, rfl, hj, hr, hrt, heS, hqv, hdl, hF, hF2, D⟩
  wtm_at "ms"
  with_reducible refine' r_punct S D (hA'.less (by decide)) ?hx ?hd ?hf ?_; wtm_at "pu"
  refine useO (pre := []) (post := [Ob x 797 dx, Di dx es n]) (tRead w sio sd es2 n2 L j hj (by omega) _ t1 t2 t3 hF2) S (hA'.less (by decide)) D (fun v own' hp => by obtain ⟨_, _, _, _, _, e, _⟩ := hp; rw [e]; rfl) fun v own' s hp D => ?_
  obtain ⟨tn, es2, n2, t3, rfl, rfl, hF2⟩ := hp
  replace D : St B g env _ s [Ob sio 662 sd, Di sd es2 n2, Ob x 797 dx, Di dx es n] := D
  rw [hr]
  have hrl : j + r.length = L.length := by rw [← hr, List.length_drop]; omega
  have hnx : ∀ c r', r = c :: r' → (if j < L.length then j + 1 else j) = j + 1 ∧ j + 1 ≤ L.length ∧ L.drop (j + 1) = r' := fun c r' e => by
    rw [e, List.length_cons] at hrl
    exact ⟨if_pos (by omega), by omega, by rw [← List.drop_drop, hr, e]; rfl⟩
  cases hrt with
  | start =>
    obtain ⟨q1, q2, q3⟩ := hnx _ _ rfl
    rw [q1] at hF2
    have e1 : (34 :: (z.flatMap e0 ++ [34])).take 1 = [34] := rfl
    rw [e1]
    clear e1
    wtm_at "ms"
    refine ite_f (d_f hW) ?_
    wtm_at "ms"
    with_reducible refine' r_punct S D (hA'.less (by decide)) ?hx ?hd ?hf ?_; wtm_at "pu"
    exact ⟨L.length + 1 - (j + 1), by omega, j + 1, [34], [], _, _, _, _, _, _, _, _, _, _, _, _, rfl, q2, q3, .mid rfl, fun q => (by cases q), fun q => (by cases q), Nat.zero_le _, hF, hF2, D⟩
  | mid hd =>
    rename_i zs
    cases zs with
    | nil =>
      obtain ⟨q1, q2, q3⟩ := hnx _ _ rfl
      rw [q1] at hF2
      rw [List.append_nil] at hd
      subst hd
      wtm_at "ms"
      exact ⟨L.length + 1 - (j + 1), by omega, j + 1, [97], d, [], true, _, _, _, _, _, _, _, _, _, _, rfl, q2, q3, .fin, fun q => (by cases q), fun _ => rfl, hdl, hF, hF2, D⟩
    | cons c zs =>
      by_cases h92 : c = 92
      · subst h92
        obtain ⟨q1, q2, q3⟩ := hnx 92 (92 :: (zs.flatMap e0 ++ [34])) rfl
        rw [q1] at hF2
        have e1 : ((92 :: zs).flatMap e0 ++ [34]).take 1 = [92] := rfl
        rw [e1]
        clear e1
        wtm_at "ms"
        exact ⟨L.length + 1 - (j + 1), by omega, j + 1, [92], d, _, _, _, _, _, _, _, _, _, _, _, _, rfl, q2, q3, .esc hd (.inr rfl), fun _ => rfl, fun q => (by cases q), hdl, hF, hF2, D⟩
      · by_cases h34 : c = 34
        · subst h34
          obtain ⟨q1, q2, q3⟩ := hnx 92 (34 :: (zs.flatMap e0 ++ [34])) rfl
          rw [q1] at hF2
          have e1 : ((34 :: zs).flatMap e0 ++ [34]).take 1 = [92] := rfl
          rw [e1]
          clear e1
          wtm_at "ms"
          exact ⟨L.length + 1 - (j + 1), by omega, j + 1, [92], d, _, _, _, _, _, _, _, _, _, _, _, _, rfl, q2, q3, .esc hd (.inl rfl), fun _ => rfl, fun q => (by cases q), hdl, hF, hF2, D⟩
        · have hec : (c :: zs).flatMap e0 ++ [34] = c :: (zs.flatMap e0 ++ [34]) := by rw [List.flatMap_cons, e0, if_neg h92, if_neg h34]; rfl
          have hc10 : c ≠ 10 := hg c (by rw [← hd]; simp)
          obtain ⟨q1, q2, q3⟩ := hnx _ _ hec
          rw [q1] at hF2
          rw [hec]
          have e1 : (c :: (zs.flatMap e0 ++ [34])).take 1 = [c] := rfl
          rw [e1]
          clear e1
          wtm_at "ms"
          refine ite_f (d_f (by simpa using hc10)) ?_
          wtm_at "ms"
          refine ite_f (d_f (by simpa using h34)) ?_
          wtm_at "ms"
          refine ite_f (d_f (by simpa using h92)) ?_
          wtm_at "ms"
          exact ⟨L.length + 1 - (j + 1), by omega, j + 1, [34], d ++ [c], _, _, _, _, _, _, _, _, _, _, _, _, rfl, q2, q3, .mid (by simpa using hd), fun q => (by cases q), fun q => (by cases q), (by rw [← hd]; simp), hF, hF2, D⟩
  | esc hd hc =>
    rename_i c zs
    obtain ⟨q1, q2, q3⟩ := hnx _ _ rfl
    rw [q1] at hF2
    have e1 : (c :: (zs.flatMap e0 ++ [34])).take 1 = [c] := rfl
    rw [e1]
    clear e1
    have := heS rfl
    subst this
    rcases hc with rfl | rfl
    · wtm_at "ms"
      exact ⟨L.length + 1 - (j + 1), by omega, j + 1, [34], d ++ [34], _, _, _, _, _, _, _, _, _, _, _, _, rfl, q2, q3, .mid (by simpa using hd), fun q => (by cases q), fun q => (by cases q), (by rw [← hd]; simp), hF, hF2, D⟩
    · wtm_at "ms"
      exact ⟨L.length + 1 - (j + 1), by omega, j + 1, [34], d ++ [92], _, _, _, _, _, _, _, _, _, _, _, _, rfl, q2, q3, .mid (by simpa using hd), fun q => (by cases q), fun q => (by cases q), (by rw [← hd]; simp), hF, hF2, D⟩
  | fin =>
    have := hqv rfl
    subst this
    rw [List.length_nil, Nat.add_zero] at hrl
    have e2 : (if j < L.length then j + 1 else j) = L.length := by rw [if_neg (by omega)]; exact hrl
    rw [e2] at hF2
    wtm_at "ms"
    refine D.leave (own := [Ob sio 662 sd, Di sd _ _, Ob x 797 dx, Di dx _ _]) (fun p hp => .inl (List.mem_map_of_mem hp)) hs0 ⟨_, _, _, _, _, _, _, rfl, rfl, hF, hF2⟩ k

end
section
abbrev Lx (sio sd : Addr) (es2 : List DictEntry) (n2 : Nat) (x dx : Addr) (es : List DictEntry) (n : Nat) : News' := [Ob sio 662 sd, Di sd es2 n2, Ob x 797 dx, Di dx es n]
theorem tTok2 (w : World) (x dx sio sd : Addr) (es es2 : List DictEntry) (n n2 : Nat) (d1 d2 : Addr) (W : List Nat) (tk : Nat → Tok) (tt t1 t2 t3 : Tok) (L : List Nat) (hL : L.length ≤ 50000)
    (hF : Has es (lexF sio d1 d2 W tk .none [] tt)) (hF2 : Has es2 (sioF L L.length t1 t2 t3)) :
    Fn (hd.heap_39 w.params) PySem.Challenge.pw_kt0083_01 w 8 (.ref 765) [.ref x] (Lx sio sd es2 n2 x dx es n)
      (fun v own => ∃ tt' t3' es' n' es2' n2', v = .none ∧ own = Lx sio sd es2' n2' x dx es' n' ∧ Has es' (lexF sio d1 d2 W tk .none [] tt') ∧ Has es2' (sioF L L.length t1 t2 t3')) := by
  intro A s g R S hA O k
  have hs0 : g.objs.size ≤ s.heap.objs.size := O.size
  refine' enter (binds := [(Str.ofString "self", .ref x)]) (more := [Str.ofString "quoted", Str.ofString "escapedstate", Str.ofString "nextchar", Str.ofString "result"]) (gl := []) S O hA ?h1 ?h2 ?h3 ?h4 ?h5 ?_
  case h1 => k_is
  case h2 => k_is
  case h3 => exact BindsTo.of_eq rfl
  case h4 => kernel_rfl
  case h5 => kernel_rfl
  intro env A' s1 hA' H D
  replace D : St s g env [(Str.ofString "self", some (.ref x)), (Str.ofString "quoted", none), (Str.ofString "escapedstate", none), (Str.ofString "nextchar", none), (Str.ofString "result", none)] s1 [Ob sio 662 sd, Di sd es2 n2, Ob x 797 dx, Di dx es n] := D
  generalize s = B at D k hs0 O
  clear O
  wtm_at "ms"
  refine m_while (fun m s => ∃ (t : Tok), m = 0 ∧ St B g env (rV x false [32] t none none) s [Ob sio 662 sd, Di sd es2 n2, Ob x 797 dx, Di dx es n]) 0 ?_ ?_
  · exact ⟨_, rfl, D⟩
  clear D
  rintro m s ⟨t, rfl, D⟩
  wtm_at "ms"
  with_reducible refine' r_punct S D (hA'.less (by decide)) ?hx ?hd ?hf ?_; wtm_at "pu"
  refine useO (pre := []) (post := [Ob x 797 dx, Di dx es n]) (tRead w sio sd es2 n2 L L.length (Nat.le_refl _) (by omega) _ t1 t2 t3 hF2) S (hA'.less (by decide)) D (fun v own' hp => by obtain ⟨_, _, _, _, _, e, _⟩ := hp; rw [e]; rfl) fun v own' s hp D => ?_
  obtain ⟨tn, es2, n2, t3, rfl, rfl, hF2⟩ := hp
  replace D : St B g env _ s [Ob sio 662 sd, Di sd es2 n2, Ob x 797 dx, Di dx es n] := D
  rw [if_neg (Nat.lt_irrefl _)] at hF2
  have e1 : (L.drop L.length).take 1 = [] := by rw [List.drop_length]; rfl
  rw [e1]
  wtm_at "ms"

  exact D.leave (own := Lx sio sd _ _ x dx _ _) (fun p hp => .inl (List.mem_map_of_mem hp)) hs0 ⟨_, _, _, _, _, _, rfl, rfl, hF, hF2⟩ k

end
section
/-! ## shlex.get_token -/
abbrev Lg (d2 d1 sio sd : Addr) (es2 : List DictEntry) (n2 : Nat) (x dx : Addr) (es : List DictEntry) (n : Nat) : News' := [(d2, dqObj), (d1, dqObj), Ob sio 662 sd, Di sd es2 n2, Ob x 797 dx, Di dx es n]
theorem tGet1 (w : World) (x dx sio sd : Addr) (es es2 : List DictEntry) (n n2 : Nat) (d1 d2 : Addr) (W : List Nat) (tk : Nat → Tok) (ts tt t1 t2 t3 : Tok) (z : List Nat) (hz : z.length ≤ 10000) (hg : ∀ c ∈ z, c ≠ 10) (hW : 34 ∉ W) (hWl : W.length ≤ 10000)
    (hF : Has es (lexF sio d1 d2 W tk (.str (T [32]) ts) [] tt)) (hF2 : Has es2 (sioF (34 :: (z.flatMap e0 ++ [34])) 0 t1 t2 t3)) :
    Fn (hd.heap_39 w.params) PySem.Challenge.pw_kt0083_01 w 9 (.ref 758) [.ref x] (Lg d2 d1 sio sd es2 n2 x dx es n)
      (fun v own => ∃ t tt' t3' es' n' es2' n2', v = .str (T z) t ∧ own = Lg d2 d1 sio sd es2' n2' x dx es' n' ∧ Has es' (lexF sio d1 d2 W tk .none [] tt') ∧
        Has es2' (sioF (34 :: (z.flatMap e0 ++ [34])) (34 :: (z.flatMap e0 ++ [34])).length t1 t2 t3')) := by
  intro A s g R S hA O k
  have hs0 : g.objs.size ≤ s.heap.objs.size := O.size
  refine' enter (binds := [(Str.ofString "self", .ref x)]) (more := [Str.ofString "tok", Str.ofString "raw", Str.ofString "spec", Str.ofString "newfile", Str.ofString "newstream"]) (gl := []) S O hA ?h1 ?h2 ?h3 ?h4 ?h5 ?_
  case h1 => k_is
  case h2 => k_is
  case h3 => exact BindsTo.of_eq rfl
  case h4 => kernel_rfl
  case h5 => kernel_rfl
  intro env A' s1 hA' H D
  replace D : St s g env [(Str.ofString "self", some (.ref x)), (Str.ofString "tok", none), (Str.ofString "raw", none), (Str.ofString "spec", none), (Str.ofString "newfile", none), (Str.ofString "newstream", none)] s1 (Lg d2 d1 sio sd es2 n2 x dx es n) := D
  generalize s = B at D k hs0 O
  clear O
  wtm_at "ms"
  refine useO (pre := [(d2, dqObj), (d1, dqObj)]) (post := []) (tTok1 w x dx sio sd es es2 n n2 d1 d2 W tk ts tt t1 t2 t3 z hz hg hW hWl hF hF2) S (hA'.less (by decide)) D (fun v own' hp => by obtain ⟨_, _, _, _, _, _, _, _, e, _⟩ := hp; rw [e]; rfl) fun v own' s hp D => ?_
  obtain ⟨tr, tt, t3, es, n, es2, n2, rfl, rfl, hF, hF2⟩ := hp
  replace D : St B g env _ s (Lg d2 d1 sio sd es2 n2 x dx es n) := D
  wtm_at "ms"
  refine m_while (fun m s => m = 0 ∧ St B g env [(Str.ofString "self", some (.ref x)), (Str.ofString "tok", none), (Str.ofString "raw", some (.str (T z) tr)), (Str.ofString "spec", none), (Str.ofString "newfile", none), (Str.ofString "newstream", none)] s (Lg d2 d1 sio sd es2 n2 x dx es n)) 0 ?_ ?_
  · exact ⟨rfl, D⟩
  clear D
  rintro m s ⟨rfl, D⟩
  wtm_at "ms"
  exact D.leave (own := Lg d2 d1 sio sd _ _ x dx _ _) (fun p hp => .inl (List.mem_map_of_mem hp)) hs0 ⟨_, _, _, _, _, _, _, rfl, rfl, hF, hF2⟩ k
theorem tGet2 (w : World) (x dx sio sd : Addr) (es es2 : List DictEntry) (n n2 : Nat) (d1 d2 : Addr) (W : List Nat) (tk : Nat → Tok) (tt t1 t2 t3 : Tok) (L : List Nat) (hL : L.length ≤ 50000)
    (hF : Has es (lexF sio d1 d2 W tk .none [] tt)) (hF2 : Has es2 (sioF L L.length t1 t2 t3)) :
    Fn (hd.heap_39 w.params) PySem.Challenge.pw_kt0083_01 w 9 (.ref 758) [.ref x] (Lg d2 d1 sio sd es2 n2 x dx es n)
      (fun v own => ∃ tt' t3' es' n' es2' n2', v = .none ∧ own = Lg d2 d1 sio sd es2' n2' x dx es' n' ∧ Has es' (lexF sio d1 d2 W tk .none [] tt') ∧ Has es2' (sioF L L.length t1 t2 t3')) := by
  intro A s g R S hA O k
  have hs0 : g.objs.size ≤ s.heap.objs.size := O.size
  refine' enter (binds := [(Str.ofString "self", .ref x)]) (more := [Str.ofString "tok", Str.ofString "raw", Str.ofString "spec", Str.ofString "newfile", Str.ofString "newstream"]) (gl := []) S O hA ?h1 ?h2 ?h3 ?h4 ?h5 ?_
  case h1 => k_is
  case h2 => k_is
  case h3 => exact BindsTo.of_eq rfl
  case h4 => kernel_rfl
  case h5 => kernel_rfl
  intro env A' s1 hA' H D
  replace D : St s g env [(Str.ofString "self", some (.ref x)), (Str.ofString "tok", none), (Str.ofString "raw", none), (Str.ofString "spec", none), (Str.ofString "newfile", none), (Str.ofString "newstream", none)] s1 (Lg d2 d1 sio sd es2 n2 x dx es n) := D
  generalize s = B at D k hs0 O
  clear O
  wtm_at "ms"
  refine useO (pre := [(d2, dqObj), (d1, dqObj)]) (post := []) (tTok2 w x dx sio sd es es2 n n2 d1 d2 W tk tt t1 t2 t3 L hL hF hF2) S (hA'.less (by decide)) D (fun v own' hp => by obtain ⟨_, _, _, _, _, _, _, e, _⟩ := hp; rw [e]; rfl) fun v own' s hp D => ?_
  obtain ⟨tt, t3, es, n, es2, n2, rfl, rfl, hF, hF2⟩ := hp
  replace D : St B g env _ s (Lg d2 d1 sio sd es2 n2 x dx es n) := D
  wtm_at "ms"
  refine m_while (fun m s => m = 0 ∧ St B g env [(Str.ofString "self", some (.ref x)), (Str.ofString "tok", none), (Str.ofString "raw", some .none), (Str.ofString "spec", none), (Str.ofString "newfile", none), (Str.ofString "newstream", none)] s (Lg d2 d1 sio sd es2 n2 x dx es n)) 0 ?_ ?_
  · exact ⟨rfl, D⟩
  clear D
  rintro m s ⟨rfl, D⟩
  wtm_at "ms"
  exact D.leave (own := Lg d2 d1 sio sd _ _ x dx _ _) (fun p hp => .inl (List.mem_map_of_mem hp)) hs0 ⟨_, _, _, _, _, _, rfl, rfl, hF, hF2⟩ k

end
section
/-! ## shlex.__iter__, __next__ -/
theorem tIter (w : World) (x : Addr) : Fn (hd.heap_39 w.params) PySem.Challenge.pw_kt0083_01 w 3 (.ref 787) [.ref x] [] (fun v own => v = .ref x ∧ own = []) := by
  intro A s g R S hA O k
  have hs0 : g.objs.size ≤ s.heap.objs.size := O.size
  refine' enter (binds := [(Str.ofString "self", .ref x)]) (more := []) (gl := []) S O hA ?h1 ?h2 ?h3 ?h4 ?h5 ?_
  case h1 => k_is
  case h2 => k_is
  case h3 => exact BindsTo.of_eq rfl
  case h4 => kernel_rfl
  case h5 => kernel_rfl
  intro env A' s1 hA' H D
  replace D : St s g env [(Str.ofString "self", some (.ref x))] s1 [] := D
  generalize s = B at D k hs0 O
  clear O
  wtm_at "ms"
  exact D.leave (own := []) (fun p hp => nomatch hp) hs0 ⟨rfl, rfl⟩ k
theorem tNext1 (w : World) (x dx sio sd : Addr) (es es2 : List DictEntry) (n n2 : Nat) (d1 d2 : Addr) (W : List Nat) (tk : Nat → Tok) (ts tt t1 t2 t3 : Tok) (z : List Nat) (hz : z.length ≤ 10000) (hg : ∀ c ∈ z, c ≠ 10) (hW : 34 ∉ W) (hWl : W.length ≤ 10000)
    (hF : Has es (lexF sio d1 d2 W tk (.str (T [32]) ts) [] tt)) (hF2 : Has es2 (sioF (34 :: (z.flatMap e0 ++ [34])) 0 t1 t2 t3)) :
    FnE (hd.heap_39 w.params) PySem.Challenge.pw_kt0083_01 w 11 (.ref 794) [.ref x] (Lg d2 d1 sio sd es2 n2 x dx es n)
      (fun r own _ => ∃ t tt' t3' es' n' es2' n2', r = .ok (.ret (.str (T z) t)) ∧ own = Lg d2 d1 sio sd es2' n2' x dx es' n' ∧ Has es' (lexF sio d1 d2 W tk .none [] tt') ∧
        Has es2' (sioF (34 :: (z.flatMap e0 ++ [34])) (34 :: (z.flatMap e0 ++ [34])).length t1 t2 t3')) := by
  intro A s g0 fl R S0 hA hst hfr hord O0 hno k
  have S := O0.sta2 S0
  have O := O0.base2
  refine' enterF (binds := [(Str.ofString "self", .ref x)]) (more := [Str.ofString "token"]) (gl := [(Str.ofString "StopIteration", .type "StopIteration")]) S O hA ?h1 ?h2 ?h3 ?h4 ?h5 ?_
  case h1 => k_is
  case h2 => k_is
  case h3 => exact BindsTo.of_eq rfl
  case h4 => kernel_rfl
  case h5 => kernel_rfl
  intro env A' s1 hA' _ hfm hst' H D
  replace D : St s (base2 s (Lg d2 d1 sio sd es2 n2 x dx es n)) env [(Str.ofString "self", some (.ref x)), (Str.ofString "token", none)] s1 (Lg d2 d1 sio sd es2 n2 x dx es n) := D
  clear O
  generalize hown : Lg d2 d1 sio sd es2 n2 x dx es n = own0 at k O0 hno
  have hkeys : own0.map (·.1) = [d2, d1, sio, sd, x, dx] := by rw [← hown]; rfl
  rw [hown] at S
  replace D : St s (base2 s own0) env [(Str.ofString "self", some (.ref x)), (Str.ofString "token", none)] s1 (Lg d2 d1 sio sd es2 n2 x dx es n) := by rw [← hown]; exact D
  clear hown
  generalize s = B at D k O0 hfr S
  wtm_at "ms"
  refine useO (pre := []) (post := []) (tGet1 w x dx sio sd es es2 n n2 d1 d2 W tk ts tt t1 t2 t3 z hz hg hW hWl hF hF2) S (hA'.less (by decide)) D (fun v own' hp => by obtain ⟨_, _, _, _, _, _, _, _, e, _⟩ := hp; rw [e]; rfl) fun v own' s hp D => ?_
  obtain ⟨tr, tt, t3, es, n, es2, n2, rfl, rfl, hF, hF2⟩ := hp
  replace D : St B _ env _ s (Lg d2 d1 sio sd es2 n2 x dx es n) := D
  wtm_at "ms"
  exact D.leaveE O0 hno hkeys.symm ⟨_, _, _, _, _, _, _, rfl, rfl, hF, hF2⟩ k
theorem tNext2 (w : World) (x dx sio sd : Addr) (es es2 : List DictEntry) (n n2 : Nat) (d1 d2 : Addr) (W : List Nat) (tk : Nat → Tok) (tt t1 t2 t3 : Tok) (L : List Nat) (hL : L.length ≤ 50000)
    (hF : Has es (lexF sio d1 d2 W tk .none [] tt)) (hF2 : Has es2 (sioF L L.length t1 t2 t3)) :
    FnE (hd.heap_39 w.params) PySem.Challenge.pw_kt0083_01 w 11 (.ref 794) [.ref x] (Lg d2 d1 sio sd es2 n2 x dx es n)
      (fun r own s => ∃ e es' n' es2' n2', r = .error (.ref e) ∧ own = Lg d2 d1 sio sd es2' n2' x dx es' n' ∧ ∃ ob, s.heap.get? e = some ob ∧ ob.cls = .type "StopIteration") := by
  intro A s g0 fl R S0 hA hst hfr hord O0 hno k
  refine up_code ?_
  have S := O0.sta2 S0
  have O := O0.base2
  refine' enterF (binds := [(Str.ofString "self", .ref x)]) (more := [Str.ofString "token"]) (gl := [(Str.ofString "StopIteration", .type "StopIteration")]) S O hA ?h1 ?h2 ?h3 ?h4 ?h5 ?_
  case h1 => k_is
  case h2 => k_is
  case h3 => exact BindsTo.of_eq rfl
  case h4 => kernel_rfl
  case h5 => kernel_rfl
  intro env A' s1 hA' _ hfm hst' H D
  replace D : St s (base2 s (Lg d2 d1 sio sd es2 n2 x dx es n)) env [(Str.ofString "self", some (.ref x)), (Str.ofString "token", none)] s1 (Lg d2 d1 sio sd es2 n2 x dx es n) := D
  clear O
  generalize hown : Lg d2 d1 sio sd es2 n2 x dx es n = own0 at k O0 hno
  have hkeys : own0.map (·.1) = [d2, d1, sio, sd, x, dx] := by rw [← hown]; rfl
  rw [hown] at S
  replace D : St s (base2 s own0) env [(Str.ofString "self", some (.ref x)), (Str.ofString "token", none)] s1 (Lg d2 d1 sio sd es2 n2 x dx es n) := by rw [← hown]; exact D
  clear hown
  generalize s = B at D k O0 hfr S
  wtm_at "ms"
  refine useO (pre := []) (post := []) (tGet2 w x dx sio sd es es2 n n2 d1 d2 W tk tt t1 t2 t3 L hL hF hF2) S (hA'.less (by decide)) D (fun v own' hp => by obtain ⟨_, _, _, _, _, _, _, e, _⟩ := hp; rw [e]; rfl) fun v own' s hp D => ?_
  obtain ⟨tt, t3, es, n, es2, n2, rfl, rfl, hF, hF2⟩ := hp
  replace D : St B _ env _ s (Lg d2 d1 sio sd es2 n2 x dx es n) := D
  wtm_at "ms"
  refine owsi_raiseC hA'.hd (r_gl S H D (by simp) ⟨rfl, rfl⟩) fun h' e hx => ?_
  exact D.raiseE O0 hno hkeys.symm hfm (hst' _ hst) hfr hx (fun h hob => ⟨e, _, _, _, _, rfl, rfl, hob⟩) k

end
section
/-! ## list(lex) -/
theorem ls_noLen (w : World) : findIn (hd.heap_39 w.params) (.ref 797) (Str.ofString "__len__") = some none := by kernel_rfl
theorem ls_noHint (w : World) : findIn (hd.heap_39 w.params) (.ref 797) (Str.ofString "__length_hint__") = some none := by kernel_rfl
theorem ls_iter (w : World) : findIn (hd.heap_39 w.params) (.ref 797) (Str.ofString "__iter__") = some (some (.ref 787)) := by kernel_rfl
theorem ls_iterF (w : World) : isFn (hd.heap_39 w.params) (.ref 787) = true := by kernel_rfl
theorem ls_next (w : World) : findIn (hd.heap_39 w.params) (.ref 797) (Str.ofString "__next__") = some (some (.ref 794)) := by kernel_rfl
theorem ls_nextF (w : World) : isFn (hd.heap_39 w.params) (.ref 794) = true := by kernel_rfl
section
variable {B : Shared} {g : Heap} {env : Env} {vals : Vals} {s : Shared} {news fo : News'} {A : Around} {E : Value → Shared → Prop} {fl : List Env}
theorem r_list_lex (w : World) (x dx sio sd : Addr) (es es2 : List DictEntry) (n n2 : Nat) (d1 d2 : Addr) (W : List Nat) (tk : Nat → Tok) (ts tt t1 t2 t3 : Tok) (z : List Nat) (hz : z.length ≤ 10000) (hg : ∀ c ∈ z, c ≠ 10) (hW : 34 ∉ W) (hWl : W.length ≤ 10000)
    (hF : Has es (lexF sio d1 d2 W tk (.str (T [32]) ts) [] tt)) (hF2 : Has es2 (sioF (34 :: (z.flatMap e0 ++ [34])) 0 t1 t2 t3)) {Q : Value → Shared → Prop}
    (S : Sta (hd.heap_39 w.params) g) (hA : Room A 16) (hfm : env.frame = some env.locals) (hst : A.frames = some (env :: fl)) (F : FoAt B fl fo) (hlo : ∀ b ∈ frs fl, b < env.locals)
    (D : St B g env vals s (Lg d2 d1 sio sd es2 n2 x dx es n ++ fo))
    (k : ∀ l m t fo' s', B.heap.objs.size ≤ l → FoAt B fl fo' → St B g env vals s' ((l, Lo [.str (T z) t] m) :: fo') → Q (.ref l) s') :
    wpAny (model PySem.Challenge.pw_kt0083_01 w) A (call (.type "list") [.ref x]) Q E s := by
  have hB := D.up.2
  have D1 := D.made (Lo [] 0)
  refine callType_codes (Q₁ := fun obj s₁ => obj = .ref s.heap.objs.size ∧ s₁ = { s with heap := s.heap.push { cls := .type "list", data := .seq #[] } }) PySem.F.called_list (PySem.F.typeCall_list_1 _) PySem.F.entry_list_init
    (code_list_new _ ⟨rfl, rfl⟩) fun obj s₁ h₁ => ?_
  obtain ⟨rfl, rfl⟩ := h₁
  have hS : (s.heap.push { cls := .type "list", data := .seq #[] }).get? s.heap.objs.size = some { cls := .type "list", data := .seq #[] } := Heap.get?_push_size _ rfl
  refine ⟨⟨_, hS, rfl⟩, PySem.F.args_list_init_2 _ _, ?_⟩
  have hlx : s.heap.objs.size ≠ x := fun q => Nat.lt_irrefl _ (q ▸ Heap.lt_size (D.get (show Ob x 797 dx ∈ _ by simp)))
  generalize hl : s.heap.objs.size = l at *
  show wpAny _ A.in1.in1 (do let old ← Builtin.List.listItems (.ref l); Builtin.List.listUpdate (.ref l) (fun _ => #[]); letGo old.toList.reverse; Builtin.List.listExtendWith (.ref l) (.ref x) .none) _ _ _
  refine wpAny_bind ?_
  unfold Builtin.List.listItems
  refine wpAny_bind (wpAny_seqItems hS rfl (wpAny_pure ?_))
  show wpAny _ _ (updateSeq l (fun _ => #[]) >>= fun _ => letGo (#[] : Array Value).toList.reverse >>= fun _ => Builtin.List.listExtendWith (.ref l) (.ref x) .none) _ _ _
  refine wpAny_bind (wpAny_updateSeq hS rfl ?_)
  have hS₂ := Heap.get?_update_self (Obj.mapSeq (fun _ => (#[] : Array Value))) hS rfl
  obtain ⟨m1, hE⟩ : ∃ m, Obj.mapSeq (fun _ => (#[] : Array Value)) { cls := .type "list", data := .seq #[] } = Lo [] m := ⟨_, rfl⟩
  rw [hE] at hS₂
  replace D1 := D1.upd (UpdP.head (o' := Lo [] m1)) (Heap.SameBut.update ..) hS₂ (Nat.le_refl _)
  refine wpAny_bind (wpAny_letGo ?_)
  clear D hS hS₂
  revert D1
  generalize (⟨_, _, _, _, _⟩ : Shared) = s1
  intro D1
  have I1 : InstAt s1.heap x (instObj 797 dx) 797 (some (dictOf es n)) := inst_at (D1.get (show Ob x 797 dx ∈ _ by simp)) (D1.get (show Di dx es n ∈ _ by simp))
  have h1 : Builtin.List.listSameRef (.ref l) (.ref x) = false := by simp [Builtin.List.listSameRef, hlx]
  have h2 : (Value.ref 797 == Value.type "list") = false := by decide
  have h3 : (Value.ref 797 == Value.type "tuple") = false := by decide
  unfold Builtin.List.listExtendWith
  refine wpAny_bind (I1.type.here ?_)
  simp only [h1, h2, h3, Bool.or_false, Bool.false_eq_true, if_false]
  obtain ⟨m, L, _⟩ := id D1.led
  have hA2 : Room A.in1.in1 14 := hA.in1.in1
  refine wpAny_bind (owit_iter L.fr S.X I1 (ls_iter w) (ls_iterF w) (use0 (tIter w x) S (hA2.less (by decide)) D1 fun v own' s2 hp D2 => ?_))
  obtain ⟨rfl, rfl⟩ := hp
  replace D2 : St B g env vals s2 ((l, Lo [] m1) :: (Lg d2 d1 sio sd es2 n2 x dx es n ++ fo)) := D2
  clear L I1 D1
  have I1 : InstAt s2.heap x (instObj 797 dx) 797 (some (dictOf es n)) := inst_at (D2.get (show Ob x 797 dx ∈ _ by simp)) (D2.get (show Di dx es n ∈ _ by simp))
  obtain ⟨m, L, _⟩ := id D2.led
  refine owit_it L.fr S.X I1 (ls_next w) ?_
  refine wpAny_bind (wpAny_holding ?_)
  unfold Builtin.List.listLengthHint
  have X2 := S.X.keeps D2.keep
  refine wpAny_bind (wpAny_bind (I1.type.here ((looks_findIn X2 (ls_noLen w)).here ?_)))
  show wpAny _ _ (specialOf (.ref x) (Str.ofString "__length_hint__") >>= _) _ _ _
  refine wpAny_bind (wpAny_bind (I1.type.here ((looks_findIn X2 (ls_noHint w)).here ?_)))
  refine wpAny_pure ?_
  show wpAny _ _ (rule "list.extend.makes-room" >>= fun _ => Builtin.List.listTouch (.ref l) >>= fun _ => again (.builtin "list.extend.loop" ⟨[.ref l, .ref x, .none], []⟩)) _ _ _
  refine wpAny_bind (wpAny_rule ?_)
  refine wpAny_bind ?_
  show wpAny _ _ (updateSeq l (·.push .none) >>= fun _ => updateSeq l (·.pop)) _ _ _
  have hS := D2.get (List.mem_cons_self (a := (l, Lo [] m1)))
  refine wpAny_bind (wpAny_updateSeq hS rfl ?_)
  have hS₂ := Heap.get?_update_self (Obj.mapSeq (·.push Value.none)) hS rfl
  refine wpAny_updateSeq (hz := by seq_fits) hS₂ rfl ?_
  have hS₃ := Heap.get?_update_self (Obj.mapSeq (·.pop)) hS₂ rfl
  obtain ⟨m2, hE2⟩ : ∃ m, Obj.mapSeq (·.push Value.none) (Lo [] m1) = Lo [.none] m := ⟨_, rfl⟩
  obtain ⟨m3, hE3⟩ : ∃ m, Obj.mapSeq (·.pop) (Lo [.none] m2) = Lo [] m := ⟨_, rfl⟩
  rw [hE2] at hS₂ hS₃
  rw [hE3] at hS₃
  replace D2 := D2.upd (UpdP.head (o' := Lo [.none] m2)) (Heap.SameBut.update ..) hS₂ (Nat.le_refl _)
  replace D2 := D2.upd (UpdP.head (o' := Lo [] m3)) (Heap.SameBut.update ..) hS₃ (Nat.le_refl _)
  clear hS hS₂ hS₃ L I1 X2 hE2 hE3 hE
  revert D2
  dsimp only
  generalize (⟨_, _, _, _, _⟩ : Shared) = s3
  intro D2
  clear s2
  refine wpAny_pure ⟨plainId_quiet PySem.F.plain_extend_loop _, codeAny_builtin PySem.F.entry_extend_loop ?_⟩
  rw [Around.under_plainId PySem.F.plain_extend_loop _]
  show wpAny _ _ (pyNext (.ref x) >>= _) _ _ _
  have I1 : InstAt s3.heap x (instObj 797 dx) 797 (some (dictOf es n)) := inst_at (D2.get (show Ob x 797 dx ∈ _ by simp)) (D2.get (show Di dx es n ∈ _ by simp))
  obtain ⟨m, L, _⟩ := id D2.led
  refine wpAny_bind (owit_next L.fr S.X I1 (ls_next w) (ls_nextF w) (wpAny_call ?_))
  refine useEc (pre := [(l, Lo [] m3)]) (own := Lg d2 d1 sio sd es2 n2 x dx es n) (post := []) (tNext1 w x dx sio sd es es2 n n2 d1 d2 W tk ts tt t1 t2 t3 z hz hg hW hWl hF hF2) S ?_ hfm ?_ F hlo D2 (fun r own' s' hp => by obtain ⟨_, _, _, _, _, _, _, _, e, _⟩ := hp; rw [e]; rfl) fun r own' fo' s' hp F' D3 => ?_
  · exact hA2.less (by decide)
  · exact hst
  clear L I1 D2 hF hF2 F
  obtain ⟨tr, tt, t3, es, n, es2, n2, rfl, rfl, hF, hF2⟩ := hp
  replace D3 : St B g env vals s' ((l, Lo [] m3) :: (Lg d2 d1 sio sd es2 n2 x dx es n ++ fo')) := D3
  show wpAny _ _ (updateSeq l (·.push (.str (T z) tr)) >>= fun _ => again (.builtin "list.extend.loop" ⟨[.ref l, .ref x, .none], []⟩)) _ _ _
  have hS := D3.get (List.mem_cons_self (a := (l, Lo [] m3)))
  refine wpAny_bind (wpAny_updateSeq hS rfl ?_)
  have hS₂ := Heap.get?_update_self (Obj.mapSeq (·.push (Value.str (T z) tr))) hS rfl
  obtain ⟨m4, hE2⟩ : ∃ m, Obj.mapSeq (·.push (Value.str (T z) tr)) (Lo [] m3) = Lo [.str (T z) tr] m := ⟨_, rfl⟩
  rw [hE2] at hS₂
  replace D3 := D3.upd (UpdP.head (o' := Lo [.str (T z) tr] m4)) (Heap.SameBut.update ..) hS₂ (Nat.le_refl _)
  clear hS hS₂ hE2
  revert D3
  generalize (⟨_, _, _, _, _⟩ : Shared) = s5
  intro D3
  clear s3 s'
  refine wpAny_pure ⟨plainId_quiet PySem.F.plain_extend_loop _, codeAny_builtin PySem.F.entry_extend_loop ?_⟩
  rw [Around.under_plainId PySem.F.plain_extend_loop _]
  show wpAny _ _ (pyNext (.ref x) >>= _) _ _ _
  have I1 : InstAt s5.heap x (instObj 797 dx) 797 (some (dictOf es n)) := inst_at (D3.get (show Ob x 797 dx ∈ _ by simp)) (D3.get (show Di dx es n ∈ _ by simp))
  obtain ⟨m, L, _⟩ := id D3.led
  refine wpAny_bind (owit_next L.fr S.X I1 (ls_next w) (ls_nextF w) (wpAny_call ?_))
  refine useEc (pre := [(l, Lo [.str (T z) tr] m4)]) (own := Lg d2 d1 sio sd es2 n2 x dx es n) (post := []) (tNext2 w x dx sio sd es es2 n n2 d1 d2 W tk tt t1 t2 t3 (34 :: (z.flatMap e0 ++ [34])) ?_ hF hF2) S (hA2.less (by decide)) hfm hst F' hlo D3 (fun r own' s' hp => by obtain ⟨_, _, _, _, _, _, e, _⟩ := hp; rw [e]; rfl) fun r own' fo' s' hp F' D4 => ?_
  · have := e0_len z; simp only [List.length_cons, List.length_append, List.length_nil]; omega
  clear L I1 D3 hF hF2
  obtain ⟨e, es, n, es2, n2, rfl, rfl, ob, hob, hcls⟩ := hp
  replace D4 : St B g env vals s' ((l, Lo [.str (T z) tr] m4) :: (Lg d2 d1 sio sd es2 n2 x dx es n ++ fo')) := D4
  have hT : s'.TypeIs (.ref e) "StopIteration" := ⟨ob, hob, hcls⟩
  show OwitStop _ _ _ _ _ _
  unfold OwitStop
  refine wpAny_isInstance hT owsi_facts.sub ?_
  rw [if_pos rfl]
  refine wpAny_pure ⟨rfl, k l m4 tr fo' s' hB F' (D4.drop ?_)⟩
  exact List.Sublist.cons_cons _ (List.sublist_append_right _ _)
end

end
section
/-! ## StringIO: making -/
theorem sb662 (w : World) (S : Setting) : peek (hd.heap_39 w.params) S (Bind.staticBase (.ref 662)) = some (.type "object") := by kernel_rfl
theorem mb_obj (w : World) (S : Setting) : peek (hd.heap_39 w.params) S (Bind.madeBy (.type "object")) = some (some "object.__new__") := by kernel_rfl
theorem mb662 (w : World) (S : Setting) : peek (hd.heap_39 w.params) S (Bind.madeBy (.ref 662)) = some none := by kernel_rfl
theorem tNewIO (w : World) (v0 : Value) : FnK (hd.heap_39 w.params) PySem.Challenge.pw_kt0083_01 w 3 (.ref 155) ⟨[.ref 662, v0], []⟩ [] (fun v own => ∃ x dx, v = .ref x ∧ own = [Ob x 662 dx, Di dx [] 0]) := by
  intro A s g R S hA O k
  have hs0 : g.objs.size ≤ s.heap.objs.size := O.size
  let s₁ : Shared := { s with heap := (s.heap.push (tupObj [v0])).push emptyDict }
  have u₁ : Up s s₁ := ⟨Nat.le_refl _, by show s.heap.objs.size ≤ ((s.heap.push (tupObj [v0])).push emptyDict).objs.size; rw [Heap.size_push, Heap.size_push]; omega⟩
  have O₁ : Own g s₁ [] := ⟨fun b o q => Heap.get?_push_of_some _ (Heap.get?_push_of_some _ (O.keep b o q)), Nat.le_trans O.size u₁.2, .nil, fun p hp => (nomatch hp), O.tok⟩
  refine' enterB (s₁ := s₁) (binds := [(Str.ofString "cls", .ref 662), (Str.ofString "args", .ref s.heap.objs.size), (Str.ofString "kwargs", .ref (s.heap.push (tupObj [v0])).objs.size)]) (more := []) (gl := [(Str.ofString "BytesIO", .ref 415), (Str.ofString "StringIO", .ref 662), (Str.ofString "object", .type "object")]) S O O₁ u₁ ⟨rfl, rfl, rfl⟩ hA ?h1 ?h2 ?h3 ?h4 ?h5 ?_
  case h1 => k_is
  case h2 => k_is
  case h3 =>
    intro M A E Q q
    show wpAny M A (newTuple [v0] >>= fun t => alloc emptyDict >>= fun d => pure [(Str.ofString "cls", .ref 662), (Str.ofString "args", t), (Str.ofString "kwargs", .ref d)]) Q E s
    refine wpAny_bind (wpAny_newObj_type (wpAny_bind (wpAny_alloc (wpAny_pure q))) (by size_fits))
  case h4 => kernel_rfl
  case h5 => kernel_rfl
  intro env A' s1 hA' H D
  replace D : St s g env [(Str.ofString "cls", some (.ref 662)), (Str.ofString "args", some (.ref s.heap.objs.size)), (Str.ofString "kwargs", some (.ref (s.heap.push (tupObj [v0])).objs.size))] s1 [] := D
  clear_value s₁
  clear O₁ u₁ s₁
  generalize s.heap.objs.size = a1 at D
  generalize (s.heap.push (tupObj [v0])).objs.size = a2 at D
  generalize s = B at D k hs0 O
  clear O
  wtm_at "ms"
  have X := S.X.keeps D.keep
  refine wpAny_isNot_ref_other (by decide) (X _ _ (by k_is)) (X _ _ (by k_is)) (by decide) ?_
  wtm_at "ms"
  obtain ⟨m, L, _⟩ := id D.led
  with_reducible refine' method_type (v := .builtin "object.__new__") L.fr S.X meta_object ?h1 ?h2 ?h3 ?_
  case h1 => decide +kernel
  case h2 => kernel_rfl
  case h3 => rfl
  replace D := D.tk1 (n := 1)
  revert D
  generalize (⟨_, _, _, _, _⟩ : Shared) = s
  intro D
  clear X L
  wtm_at "ms"
  obtain ⟨hh, gg, d, t, os⟩ := s
  have hX := S.X.keeps D.keep
  with_reducible refine' wpAny_call (new_py hX ?h1 ?h2 ?h3 (Looks.of_peek hX (sb662 w _)) (Looks.of_peek hX (mb_obj w _)) ?h4 ?h5 ?_)
  case h1 => k_is
  case h2 => rfl
  case h3 => rfl
  case h4 => k_is
  case h5 => k_is
  have e2 : (hh.push emptyDict).objs.size = hh.objs.size + 1 := Heap.size_push ..
  have D2 := (D.made emptyDict).made (instObj 662 hh.objs.size)
  rw [show ({ heap := hh, gens := gg, drawn := d, toks := t, os := os } : Shared).heap.objs.size = hh.objs.size from rfl, show ({ heap := hh.push emptyDict, gens := gg, drawn := d, toks := t, os := os } : Shared).heap.objs.size = hh.objs.size + 1 from e2] at D2
  have hb : B.heap.objs.size ≤ hh.objs.size := D.up.2
  exact D2.leave (own := []) (fun p hp => .inr (by
    simp only [List.mem_cons, List.not_mem_nil, or_false] at hp
    rcases hp with rfl | rfl
    · exact Nat.le_succ_of_le hb
    · exact hb)) hs0 ⟨_, _, rfl, rfl⟩ k

end
section
theorem tTransl (w : World) (x dx : Addr) (es : List DictEntry) (n : Nat) (l : List Nat) (t t1 t2 t3 : Tok) (hF : Has es (sioF [] 0 t1 t2 t3)) :
    Fn (hd.heap_39 w.params) PySem.Challenge.pw_kt0083_01 w 3 (.ref 439) [.ref x, .str (T l) t] [Ob x 662 dx, Di dx es n] (fun v own => v = .str (T l) t ∧ own = [Ob x 662 dx, Di dx es n]) := by
  intro A s g R S hA O k
  have hs0 : g.objs.size ≤ s.heap.objs.size := O.size
  refine' enter (binds := [(Str.ofString "self", .ref x), (Str.ofString "s", .str (T l) t)]) (more := [Str.ofString "newline"]) (gl := []) S O hA ?h1 ?h2 ?h3 ?h4 ?h5 ?_
  case h1 => k_is
  case h2 => k_is
  case h3 => exact BindsTo.of_eq rfl
  case h4 => kernel_rfl
  case h5 => kernel_rfl
  intro env A' s1 hA' H D
  replace D : St s g env [(Str.ofString "self", some (.ref x)), (Str.ofString "s", some (.str (T l) t)), (Str.ofString "newline", none)] s1 [Ob x 662 dx, Di dx es n] := D
  generalize s = B at D k hs0 O
  clear O
  wtm_at "ms"
  exact D.leave (own := [Ob x 662 dx, Di dx es n]) (fun p hp => .inl (List.mem_map_of_mem hp)) hs0 ⟨rfl, rfl⟩ k
theorem tSioInit (w : World) (x dx : Addr) (l : List Nat) (hl : l.length ≤ 100000) (t0 : Tok) :
    FnK (hd.heap_39 w.params) PySem.Challenge.pw_kt0083_01 w 5 (.ref 432) ⟨[.ref x, .str (T l) t0], []⟩ [Ob x 662 dx, Di dx [] 0] (fun v own => ∃ es n t1 t3, v = .none ∧ own = [Ob x 662 dx, Di dx es n] ∧ Has es (sioF l 0 t1 t0 t3)) := by
  intro A s g R S hA O k
  have hs0 : g.objs.size ≤ s.heap.objs.size := O.size
  refine' enter (binds := [(Str.ofString "self", .ref x), (Str.ofString "initial_value", .str (T l) t0), (Str.ofString "newline", .str (Str.ofString "\n") 1003)]) (more := []) (gl := [(Str.ofString "type", .type "type"), (Str.ofString "str", .type "str")]) S O hA ?h1 ?h2 ?h3 ?h4 ?h5 ?_
  case h1 => k_is
  case h2 => k_is
  case h3 => exact kp_binds (S.X.keeps O.keep) (fun _ => by kernel_rfl)
  case h4 => kernel_rfl
  case h5 => kernel_rfl
  intro env A' s1 hA' H D
  replace D : St s g env [(Str.ofString "self", some (.ref x)), (Str.ofString "initial_value", some (.str (T l) t0)), (Str.ofString "newline", some (.str (Str.ofString "\n") 1003))] s1 [Ob x 662 dx, Di dx [] 0] := D
  rw [lit23] at D
  generalize s = B at D k hs0 O
  clear O
  have hF : Has [] [(Str.ofString "_StringIO__newline", none), (Str.ofString "_StringIO__buf", none), (Str.ofString "_StringIO__pos", none)] := Has.empty rfl (by decide)
  wtm_at "ms"
  replace hF : Has es (sioF [] 0 _ _ _) := hF
  refine useO (pre := []) (post := []) (tTransl w x dx es n l t0 _ _ _ hF) S (hA'.less (by decide)) D (fun v own' hp => by rw [hp.2]) fun v own' s hp D => ?_
  obtain ⟨rfl, rfl⟩ := hp
  replace D : St B g env _ s [Ob x 662 dx, Di dx es n] := D
  wtm_at "ms"
  exact D.leave (own := [Ob x 662 dx, Di dx _ _]) (fun p hp => .inl (List.mem_map_of_mem hp)) hs0 ⟨_, _, _, _, rfl, rfl, hF⟩ k
section
variable {B : Shared} {g : Heap} {env : Env} {vals : Vals} {s : Shared} {news : News'} {A : Around} {E : Value → Shared → Prop}
theorem r_make_sio {w : World} {l : List Nat} {t : Tok} {Q : Value → Shared → Prop} (S : Sta (hd.heap_39 w.params) g) (hA : Room A 8) (D : St B g env vals s news) (hl : Nat.ble l.length 100000 = true)
    (k : ∀ sio sd es n t1 t3 s', B.heap.objs.size ≤ sd → B.heap.objs.size ≤ sio → Has es (sioF l 0 t1 t t3) → St B g env vals s' (Ob sio 662 sd :: Di sd es n :: news) → Q (.ref sio) s') :
    wpAny (model PySem.Challenge.pw_kt0083_01 w) A (call (.ref 662) [.str (T l) t] []) Q E s := by
  with_reducible refine' r_makePy S D (n := 3) (mc := .type "type") (p := 159) (fN := 155) (fI := 432) (hA.less (by decide)) ?h1 ?h2 ?h3 ?h4 ?h5 ?h6 ?h7 ?h8 ?h9 ?h10 ?h11 ?h12 ?_
  case h1 => k_is
  case h2 => rfl
  case h3 => k_is
  case h4 => k_is
  case h5 => exact mb662 w
  case h6 => k_is
  case h7 => k_is
  case h8 => k_is
  case h9 => k_is
  case h10 => k_is
  case h11 => k_is
  case h12 => exact tNewIO w _
  intro x dx s' hd hx D
  refine useG (own := [Ob x 662 dx, Di dx [] 0]) (tSioInit w x dx l (Nat.le_of_ble_eq_true hl) t) S ((hA.make (n := 7) _ _ _).less (by decide)) D fun v own' s2 hp _ D2 => ?_
  obtain ⟨es, n, t1, t3, rfl, rfl, hF⟩ := hp
  exact ⟨rfl, k x dx es n t1 t3 s2 hd hx hF D2⟩
end

end
section
/-! ## shlex: making -/
abbrev lexI (sio d1 d2 : Addr) (W : List Nat) (tk : Nat → Tok) (cm : List Nat) (c0 : Tok) (wsp : Bool) (st : Value) (tok : List Nat) (tt : Tok) : Vals :=
  [(Str.ofString "instream", some (.ref sio)), (Str.ofString "infile", some .none), (Str.ofString "posix", some (.bool true)), (Str.ofString "eof", some .none), (Str.ofString "commenters", some (.str (T cm) c0)),
   (Str.ofString "wordchars", some (.str (T W) (tk 1))), (Str.ofString "whitespace", some (.str (T [32, 9, 13, 10]) (tk 2))), (Str.ofString "whitespace_split", some (.bool wsp)), (Str.ofString "quotes", some (.str (T [39, 34]) (tk 3))),
   (Str.ofString "escape", some (.str (T [92]) (tk 4))), (Str.ofString "escapedquotes", some (.str (T [34]) (tk 5))), (Str.ofString "state", some st), (Str.ofString "pushback", some (.ref d1)), (Str.ofString "lineno", some (.int 1 (tk 6))),
   (Str.ofString "debug", some (.int 0 (tk 7))), (Str.ofString "token", some (.str (T tok) tt)), (Str.ofString "filestack", some (.ref d2)), (Str.ofString "source", some .none), (Str.ofString "_punctuation_chars", some (.str (T []) (tk 8)))]
theorem lexI_of {es : List DictEntry} {sio d1 d2 : Addr} {W : List Nat} {a1 a2 a3 a4 a5 a6 a7 a8 c0 : Tok} {cm : List Nat} {wsp : Bool} {st : Value} {tok : List Nat} {tt : Tok}
    (h : Has es [(Str.ofString "instream", some (.ref sio)), (Str.ofString "infile", some .none), (Str.ofString "posix", some (.bool true)), (Str.ofString "eof", some .none), (Str.ofString "commenters", some (.str (T cm) c0)),
   (Str.ofString "wordchars", some (.str (T W) a1)), (Str.ofString "whitespace", some (.str (T [32, 9, 13, 10]) a2)), (Str.ofString "whitespace_split", some (.bool wsp)), (Str.ofString "quotes", some (.str (T [39, 34]) a3)),
   (Str.ofString "escape", some (.str (T [92]) a4)), (Str.ofString "escapedquotes", some (.str (T [34]) a5)), (Str.ofString "state", some st), (Str.ofString "pushback", some (.ref d1)), (Str.ofString "lineno", some (.int 1 a6)),
   (Str.ofString "debug", some (.int 0 a7)), (Str.ofString "token", some (.str (T tok) tt)), (Str.ofString "filestack", some (.ref d2)), (Str.ofString "source", some .none), (Str.ofString "_punctuation_chars", some (.str (T []) a8))]) :
    ∃ tk, Has es (lexI sio d1 d2 W tk cm c0 wsp st tok tt) := ⟨fun i => [0, a1, a2, a3, a4, a5, a6, a7, a8].getD i 0, h⟩
theorem lexF_of {es : List DictEntry} {sio d1 d2 : Addr} {W : List Nat} {tk : Nat → Tok} {c0 : Tok} {st : Value} {tok : List Nat} {tt : Tok} (h : Has es (lexI sio d1 d2 W tk [] c0 true st tok tt)) : ∃ tk', Has es (lexF sio d1 d2 W tk' st tok tt) :=
  ⟨fun i => [c0, tk 1, tk 2, tk 3, tk 4, tk 5, tk 6, tk 7, tk 8].getD i 0, h⟩
abbrev lexN : Vals := [(Str.ofString "instream", none), (Str.ofString "infile", none), (Str.ofString "posix", none), (Str.ofString "eof", none), (Str.ofString "commenters", none), (Str.ofString "wordchars", none), (Str.ofString "whitespace", none), (Str.ofString "whitespace_split", none), (Str.ofString "quotes", none),
   (Str.ofString "escape", none), (Str.ofString "escapedquotes", none), (Str.ofString "state", none), (Str.ofString "pushback", none), (Str.ofString "lineno", none), (Str.ofString "debug", none), (Str.ofString "token", none), (Str.ofString "filestack", none), (Str.ofString "source", none), (Str.ofString "_punctuation_chars", none)]
theorem lexN_has : Has [] lexN := Has.empty rfl (by decide +kernel)
theorem tLexInit (w : World) (x dx : Addr) (l : List Nat) (hl : l.length ≤ 100000) (t0 : Tok) :
    FnK (hd.heap_39 w.params) PySem.Challenge.pw_kt0083_01 w 10 (.ref 721) ⟨[.ref x, .str (T l) t0], [(Str.ofString "posix", .bool true)]⟩ [Ob x 797 dx, Di dx [] 0]
      (fun v own => ∃ d2 d1 sio sd es2 n2 es n tk c0 ts tt t1 t3, v = .none ∧ own = Lg d2 d1 sio sd es2 n2 x dx es n ∧ Has es (lexI sio d1 d2 (W31 ++ W34) tk [35] c0 false (.str (T [32]) ts) [] tt) ∧ Has es2 (sioF l 0 t1 t0 t3)) := by
  intro A s g R S hA O k
  have hs0 : g.objs.size ≤ s.heap.objs.size := O.size
  refine' enter (binds := [(Str.ofString "self", .ref x), (Str.ofString "instream", .str (T l) t0), (Str.ofString "infile", .none), (Str.ofString "posix", .bool true), (Str.ofString "punctuation_chars", .bool false)]) (more := [Str.ofString "t"])
    (gl := [(Str.ofString "isinstance", .builtin "isinstance"), (Str.ofString "str", .type "str"), (Str.ofString "StringIO", .ref 662), (Str.ofString "deque", .type "collections.deque")]) S O hA ?h1 ?h2 ?h3 ?h4 ?h5 ?_
  case h1 => k_is
  case h2 => k_is
  case h3 => exact kp_binds (S.X.keeps O.keep) (fun _ => by kernel_rfl)
  case h4 => kernel_rfl
  case h5 => kernel_rfl
  intro env A' s1 hA' H D
  replace D : St s g env [(Str.ofString "self", some (.ref x)), (Str.ofString "instream", some (.str (T l) t0)), (Str.ofString "infile", some .none), (Str.ofString "posix", some (.bool true)), (Str.ofString "punctuation_chars", some (.bool false)), (Str.ofString "t", none)] s1 [Ob x 797 dx, Di dx [] 0] := D
  generalize s = B at D k hs0 O
  clear O
  have hF := lexN_has
  unfold lexN at hF
  have hW1 := W31_len
  have hW2 := W34_len
  wtm_at "ms"
  refine r_make_sio S (hA'.less (by decide)) D (Nat.ble_eq_true_of_le hl) fun sio sd es2 n2 t1 t3 s hsd hsio hF2 D => ?_
  wtm_at "ms"
  refine callWith_type0 (r_deque D fun d1 s hd1 D => ?_)
  wtm_at "ms"
  refine callWith_type0 (r_deque D fun d2 s hd2 D => ?_)
  wtm_at "ms"
  obtain ⟨tk, hF⟩ := lexI_of hF
  refine D.leave (own := [Ob x 797 dx, Di dx _ _]) (fun p hp => ?_) hs0 ⟨_, _, _, _, _, _, _, _, tk, _, _, _, _, _, rfl, rfl, hF, hF2⟩ k
  simp only [List.mem_cons, List.not_mem_nil, or_false] at hp
  rcases hp with rfl | rfl | rfl | rfl | rfl | rfl
  · exact .inr hd2
  · exact .inr hd1
  · exact .inr hsio
  · exact .inr hsd
  · exact .inl (by simp)
  · exact .inl (by simp)

end
section
/-! ## shlex.split -/
section
variable {M : Model} {A : Around} {E : Value → Shared → Prop} {s : Shared} {env : Env}
theorem r_callkw {func : Expr} {args : List Expr} {kws : List Keyword} {pos : Pos} {Q : Value → Shared → Prop}
    (h : wpAny M A (eval func env) (fun f s₁ => wpAny M A (callWith pos f [] (backTo pos (starEach args env)) (backToKw pos (keywordEach kws env))) Q E s₁) E s)
    (he : eval (.Call func args kws pos) env = (do callWith pos (← eval func env) [] (backTo pos (starEach args env)) (backToKw pos (keywordEach kws env))) := by rfl) :
    wpAny M A (eval (.Call func args kws pos) env) Q E s := by
  rw [he]; exact wpAny_bind h
end
theorem tSplit (w : World) (z : List Nat) (hz : z.length ≤ 10000) (hg : ∀ c ∈ z, c ≠ 10) (t0 : Tok) :
    FnE (hd.heap_39 w.params) PySem.Challenge.pw_kt0083_01 w 18 (.ref 809) [.str (T (34 :: (z.flatMap e0 ++ [34]))) t0] []
      (fun r own _ => ∃ l m t, r = .ok (.ret (.ref l)) ∧ own = [(l, Lo [.str (T z) t] m)]) := by
  intro A s g fl R S hA hst hfr hord O hno k
  have hs0 : g.objs.size ≤ s.heap.objs.size := O.size
  obtain ⟨fo, F, G⟩ := fo_at hfr
  have hlt : ∀ b ∈ frs fl, b < s.heap.objs.size := fun b hb => by
    rw [← F.keys] at hb
    obtain ⟨p, hp, rfl⟩ := List.mem_map.mp hb
    exact Heap.lt_size (G p hp).1
  have hLl : (34 :: (z.flatMap e0 ++ [34])).length ≤ 2 * z.length + 2 := by have := e0_len z; simp only [List.length_cons, List.length_append, List.length_nil]; omega
  generalize hL : 34 :: (z.flatMap e0 ++ [34]) = L at hLl
  refine' enterF (binds := [(Str.ofString "s", .str (T L) t0), (Str.ofString "comments", .bool false), (Str.ofString "posix", .bool true)]) (more := [Str.ofString "lex"])
    (gl := [(Str.ofString "shlex", .ref 797), (Str.ofString "list", .type "list")]) S (O.withFo F G hord) hA ?h1 ?h2 ?h3 ?h4 ?h5 ?_
  case h1 => k_is
  case h2 => k_is
  case h3 => exact kp_binds (S.X.keeps O.keep) (fun _ => by kernel_rfl)
  case h4 => kernel_rfl
  case h5 => kernel_rfl
  intro env A' s1 hA' hloc hfm hst' H D
  replace D : St s g env [(Str.ofString "s", some (.str (T L) t0)), (Str.ofString "comments", some (.bool false)), (Str.ofString "posix", some (.bool true)), (Str.ofString "lex", none)] s1 fo := D
  have hlo : ∀ b ∈ frs fl, b < env.locals := fun b hb => hloc ▸ hlt b hb
  clear hlt hloc G hno hfr
  generalize s = B at D k hs0 O F
  clear O
  wtm_at "ms"
  refine r_callkw ?_
  wtm_at "ms"
  refine callWith_KW (S.X.keeps D.keep) (by k_is) rfl ?_
  wtm_at "ms"
  refine wpAny_evalAll_cons (wpAny_bind ?_)
  wtm_at "ms"
  refine wpAny_bind (wpAny_standAt (wpAny_pure (wpAny_evalAll_nil ?_)))
  refine r_inK S D ?_
  show wpAny _ _ (call (.ref 797) [.str (T L) t0] [(Str.ofString "posix", .bool true)]) _ _ _
  with_reducible refine' r_makeK S D ?h1 (fI := 721) ?h2 ?h3 ?_
  case h1 => k_is
  case h2 => k_is
  case h3 => k_is
  intro x dx s hd hx D
  refine useG (own := [Ob x 797 dx, Di dx [] 0]) (tLexInit w x dx L (by omega) t0) S ((hA'.make (n := 16) _ _ _).less (by decide)) D fun v own' s hp _ D => ?_
  obtain ⟨d2, d1, sio, sd, es2, n2, es, n, tk, c0, ts, tt, t1, t3, rfl, rfl, hF, hF2⟩ := hp
  refine ⟨rfl, ?_⟩
  replace D : St B g env _ s (Lg d2 d1 sio sd es2 n2 x dx es n ++ fo) := D
  replace D : St B g env _ s ((d2, dqObj) :: (d1, dqObj) :: Ob sio 662 sd :: Di sd es2 n2 :: Ob x 797 dx :: Di dx es n :: fo) := D
  wtm_at "ms"
  obtain ⟨tk, hF⟩ := lexF_of hF
  rw [← hL] at hF2
  refine r_list_lex w x dx sio sd es es2 n n2 d1 d2 (W31 ++ W34) tk _ _ _ _ _ z hz hg W_34 (Nat.le_trans W_len (by decide)) hF hF2 S (hA'.less (by decide)) hfm (hst' _ hst) F hlo D fun l m t fo' s hl F D => ?_
  wtm_at "ms"
  exact St.leaveF (news := [(l, Lo [.str (T z) t] m)]) D F (List.Sublist.refl _) (fun p hp => by rw [List.mem_singleton.mp hp]; exact hl) hs0 ⟨l, m, t, rfl, rfl⟩ k

end
section
/-! ## _law_undressed -/
theorem tUndressed (w : World) (way : Int) (l z : List Nat) (hz : z.length ≤ 10000) (hg : ∀ c ∈ z, c ≠ 10) (hl : (way = 1 ∧ ∃ r, l = [50, 53, 55, 32, 34] ++ r ∧ un257 r = z ∧ r.length ≤ 1000000) ∨ (way ≠ 1 ∧ l = 34 :: (z.flatMap e0 ++ [34]))) (t0 t1 : Tok) :
    FnE (hd.heap_39 w.params) PySem.Challenge.pw_kt0083_01 w 20 (.ref 863) [.int way t0, .str (T l) t1] []
      (fun r own _ => ∃ l m t, r = .ok (.ret (.ref l)) ∧ own = [(l, Lo [.str (T z) t] m)]) := by
  intro A s g fl R S hA hst hfr hord O hno k
  have hs0 : g.objs.size ≤ s.heap.objs.size := O.size
  obtain ⟨fo, F, G⟩ := fo_at hfr
  have hlt : ∀ b ∈ frs fl, b < s.heap.objs.size := fun b hb => by
    rw [← F.keys] at hb
    obtain ⟨p, hp, rfl⟩ := List.mem_map.mp hb
    exact Heap.lt_size (G p hp).1
  refine' enterF (binds := [(Str.ofString "way", .int way t0), (Str.ofString "text", .str (T l) t1)]) (more := [])
    (gl := [(Str.ofString "parse257", .ref 114), (Str.ofString "split", .ref 809)]) S (O.withFo F G hord) hA ?h1 ?h2 ?h3 ?h4 ?h5 ?_
  case h1 => k_is
  case h2 => k_is
  case h3 => exact BindsTo.of_eq rfl
  case h4 => kernel_rfl
  case h5 => kernel_rfl
  intro env A' s1 hA' hloc hfm hst' H D
  replace D : St s g env [(Str.ofString "way", some (.int way t0)), (Str.ofString "text", some (.str (T l) t1))] s1 fo := D
  have hlo : ∀ b ∈ frs fl, b < env.locals := fun b hb => hloc ▸ hlt b hb
  clear hlt hloc G hno hfr
  generalize s = B at D k hs0 O F
  clear O
  wtm_at "ms"
  rcases hl with ⟨rfl, r, rfl, hr, hrl⟩ | ⟨hw, rfl⟩
  · refine ite_t rfl ?_
    wtm_at "ms"
    refine use0 (t257 w r hrl t1) S (hA'.less (by decide)) D fun v own' s hp D => ?_
    obtain ⟨t, rfl, rfl⟩ := hp
    rw [hr] at *
    replace D : St B g env _ s fo := D
    wtm_at "ms"
    refine r_newlist D (by simp) ?_; wtm_at "nl"; intro b s hbB D; wtm_at "ms"
    exact St.leaveF (news := [(b, Lo [.str (T z) t] 0)]) D F (List.Sublist.refl _) (fun p hp => by rw [List.mem_singleton.mp hp]; exact hbB) hs0 ⟨b, 0, t, rfl, rfl⟩ k
  · refine ite_f (by rw [beq_eq_false_iff_ne]; exact hw) ?_
    wtm_at "ms"
    refine wpAny_call (useEn (news := []) (tSplit w z hz hg t1) S (hA'.less (by decide)) hfm (hst' _ hst) F hlo D fun r own' fo' s' hp hB F D => ?_)
    obtain ⟨l, m, t, rfl, rfl⟩ := hp
    have hb := hB (l, Lo [.str (T z) t] m) (by simp)
    replace D : St B g env _ s' ((l, Lo [.str (T z) t] m) :: fo') := D
    wtm_at "ms"
    exact St.leaveF (news := [(l, Lo [.str (T z) t] m)]) D F (List.Sublist.refl _) (fun p hp => by rw [List.mem_singleton.mp hp]; exact hb) hs0 ⟨l, m, t, rfl, rfl⟩ k

end
section
/-! ## a pattern's items over all places -/
def Mat : List (Option Nat) → List Nat → Prop
  | [], n => n = []
  | none :: p, n => ∃ a b, n = a ++ b ∧ Mat p b
  | some c :: p, n => ∃ r, n = c :: r ∧ Mat p r
theorem mat_star {p : List (Option Nat)} {n : List Nat} (a : List Nat) (h : Mat (none :: p) n) : Mat (none :: p) (a ++ n) := by
  obtain ⟨x, y, e, h⟩ := h
  exact ⟨a ++ x, y, by rw [e, List.append_assoc], h⟩
theorem mat_some : ∀ (x : List Nat) {p : List (Option Nat)} {n : List Nat}, Mat (x.map some ++ p) n ↔ ∃ r, n = x ++ r ∧ Mat p r
  | [], p, n => ⟨fun h => ⟨n, rfl, h⟩, fun ⟨_, e, h⟩ => e ▸ h⟩
  | c :: x, p, n => by
    constructor
    · rintro ⟨r, rfl, h⟩
      obtain ⟨r', rfl, h'⟩ := (mat_some x).mp h
      exact ⟨r', rfl, h'⟩
    · rintro ⟨r, rfl, h⟩
      exact ⟨x ++ r, rfl, (mat_some x).mpr ⟨r, rfl, h⟩⟩
theorem mat_two : ∀ (X : List (Option Nat)) {Y : List (Option Nat)} {n : List Nat}, Mat (X ++ none :: none :: Y) n ↔ Mat (X ++ none :: Y) n
  | [], Y, n => by
    constructor
    · rintro ⟨a, b, rfl, c, d, rfl, h⟩
      exact ⟨a ++ c, d, by rw [List.append_assoc], h⟩
    · rintro ⟨a, b, rfl, h⟩
      exact ⟨a, b, rfl, [], b, rfl, h⟩
  | none :: X, Y, n => by
    constructor
    · rintro ⟨a, b, rfl, h⟩; exact ⟨a, b, rfl, (mat_two X).mp h⟩
    · rintro ⟨a, b, rfl, h⟩; exact ⟨a, b, rfl, (mat_two X).mpr h⟩
  | some c :: X, Y, n => by
    constructor
    · rintro ⟨a, rfl, h⟩; exact ⟨a, rfl, (mat_two X).mp h⟩
    · rintro ⟨a, rfl, h⟩; exact ⟨a, rfl, (mat_two X).mpr h⟩
def toks : List (List Nat) → List (Option Nat)
  | [] => []
  | [x] => x.map some
  | x :: y :: r => x.map some ++ none :: toks (y :: r)
theorem toks_snoc : ∀ (l : List (List Nat)), l ≠ [] → ∀ x, toks (l ++ [x]) = toks l ++ none :: x.map some
  | [], h, _ => absurd rfl h
  | [y], _, x => rfl
  | y :: z :: r, _, x => by
    have ih := toks_snoc (z :: r) (List.cons_ne_nil _ _) x
    show y.map some ++ none :: toks (z :: (r ++ [x])) = (y.map some ++ none :: toks (z :: r)) ++ none :: x.map some
    rw [show z :: (r ++ [x]) = (z :: r) ++ [x] from rfl, ih, List.append_assoc]; rfl
theorem mat_end (x : List Nat) {n : List Nat} : Mat (x.map some) n ↔ n = x := by
  have := mat_some x (p := []) (n := n)
  rw [List.append_nil] at this
  rw [this]
  constructor
  · rintro ⟨r, rfl, h⟩; rw [show r = [] from h, List.append_nil]
  · rintro rfl; exact ⟨[], by simp, rfl⟩
theorem run_toks : ∀ {ps : List (List Nat)} {n : List Nat}, ps ≠ [] → (Run ps n ↔ Mat (none :: toks ps) n)
  | [], _, h => absurd rfl h
  | [q], n, _ => by
    constructor
    · rintro ⟨a, rfl⟩; exact ⟨a, q, rfl, (mat_end q).mpr rfl⟩
    · rintro ⟨a, b, rfl, h⟩; exact ⟨a, by rw [(mat_end q).mp h]⟩
  | p :: q :: r, n, _ => by
    have ih := fun n => run_toks (ps := q :: r) (n := n) (List.cons_ne_nil _ _)
    constructor
    · rintro ⟨a, b, rfl, h⟩
      exact ⟨a, p ++ b, rfl, (mat_some p).mpr ⟨b, rfl, (ih b).mp h⟩⟩
    · rintro ⟨a, b, rfl, h⟩
      obtain ⟨c, e, h'⟩ := (mat_some p).mp h
      subst e
      exact ⟨a, c, rfl, (ih c).mpr h'⟩
theorem fit_toks : ∀ {ps : List (List Nat)} {n : List Nat}, ps ≠ [] → (Fit ps n ↔ Mat (toks ps) n)
  | [], _, h => absurd rfl h
  | [q], n, _ => (mat_end q).symm
  | p :: q :: r, n, _ => by
    have ih := fun n => run_toks (ps := q :: r) (n := n) (List.cons_ne_nil _ _)
    constructor
    · rintro ⟨b, rfl, h⟩
      exact (mat_some p).mpr ⟨b, rfl, (ih b).mp h⟩
    · intro h
      obtain ⟨c, e, h'⟩ := (mat_some p).mp h
      subst e
      exact ⟨c, rfl, (ih c).mpr h'⟩
theorem step_ne {q : List (List Nat)} (h : q ≠ []) (t : Option Nat) : stepQ q t ≠ [] := by
  cases q with
  | nil => exact absurd rfl h
  | cons p r =>
    cases t with
    | some c => exact List.cons_ne_nil _ _
    | none => unfold stepQ; dsimp only; split <;> exact List.cons_ne_nil _ _
theorem step_toks {q : List (List Nat)} (h : q ≠ []) (t : Option Nat) (p : List (Option Nat)) (n : List Nat) : Mat (toks q.reverse ++ t :: p) n ↔ Mat (toks (stepQ q t).reverse ++ p) n := by
  cases q with
  | nil => exact absurd rfl h
  | cons x r =>
    have snoc : ∀ y, toks (y :: r).reverse = if r = [] then y.map some else toks r.reverse ++ none :: y.map some := fun y => by
      rw [List.reverse_cons]
      by_cases hr : r = []
      · subst hr; rfl
      · rw [if_neg hr, toks_snoc _ (by simpa using hr)]
    cases t with
    | some c =>
      have : stepQ (x :: r) (some c) = (x ++ [c]) :: r := rfl
      rw [this, snoc, snoc]
      by_cases hr : r = []
      · rw [if_pos hr, if_pos hr]; simp
      · rw [if_neg hr, if_neg hr]; simp
    | none =>
      by_cases hx : x = [] ∧ r ≠ []
      · obtain ⟨rfl, hr⟩ := hx
        obtain ⟨a, b, rfl⟩ := List.exists_cons_of_ne_nil hr
        have : stepQ ([] :: a :: b) none = [] :: a :: b := rfl
        rw [this, snoc, if_neg (List.cons_ne_nil _ _), List.map_nil, List.append_assoc, List.append_assoc]
        exact mat_two _
      · have : stepQ (x :: r) none = [] :: x :: r := by
          unfold stepQ
          dsimp only
          split
          · rename_i a b e
            injection e with e1 e2
            exact absurd ⟨e1, by rw [e2]; simp⟩ hx
          · rfl
        have e2 : ([] :: x :: r).reverse = (x :: r).reverse ++ [[]] := List.reverse_cons
        have hn : (x :: r).reverse ≠ [] := fun e => by have := congrArg List.length e; simp at this
        rw [this, e2, toks_snoc _ hn [], List.map_nil, List.append_assoc]; rfl
theorem fold_toks : ∀ (p : List (Option Nat)) {q : List (List Nat)} (n : List Nat), q ≠ [] → (Mat (toks q.reverse ++ p) n ↔ Mat (toks (p.foldl stepQ q).reverse) n)
  | [], q, n, _ => by rw [List.append_nil]; rfl
  | t :: p, q, n, h => (step_toks h t p n).trans (fold_toks p n (step_ne h t))
theorem pcsR_ne (p : List (Option Nat)) : pcsR p ≠ [] := (inv_pcs p).ne
theorem fit_pcs (p : List (Option Nat)) (n : List Nat) : Fit (pcs p) n ↔ Mat p n := by
  have h := fold_toks p (q := [[]]) n (List.cons_ne_nil _ _)
  have e : toks ([[]] : List (List Nat)).reverse ++ p = p := rfl
  rw [e] at h
  rw [h]
  exact fit_toks (fun e => pcsR_ne p (List.reverse_eq_nil_iff.mp e))
/-! ## the places that a pattern reaches -/
def plStep (name : List Nat) (pl : List Nat) : Option Nat → List Nat
  | none => match pl with
    | [] => []
    | k :: _ => (List.range (name.length + 1 - k)).map (k + ·)
  | some c => (pl.filter fun k => decide (name[k]? = some c)).map (· + 1)
structure PlOk (name : List Nat) (pl : List Nat) : Prop where
  le : ∀ k ∈ pl, k ≤ name.length
  ord : pl.Pairwise (· < ·)
theorem PlOk.start (name : List Nat) : PlOk name [0] := ⟨fun k hk => by rw [List.mem_singleton.mp hk]; exact Nat.zero_le _, by simp⟩
theorem PlOk.step {name pl : List Nat} (h : PlOk name pl) (t : Option Nat) : PlOk name (plStep name pl t) := by
  cases t with
  | none =>
    cases pl with
    | nil => exact h
    | cons k r =>
      refine ⟨fun j hj => ?_, ?_⟩
      · obtain ⟨i, hi, rfl⟩ := List.mem_map.mp hj
        have := List.mem_range.mp hi
        have := h.le k List.mem_cons_self
        omega
      · show ((List.range (name.length + 1 - k)).map (k + ·)).Pairwise (· < ·)
        rw [List.pairwise_map]
        exact List.Pairwise.imp (fun h => by omega) List.pairwise_lt_range
  | some c =>
    refine ⟨fun j hj => ?_, ?_⟩
    · obtain ⟨i, hi, rfl⟩ := List.mem_map.mp hj
      obtain ⟨_, h2⟩ := List.mem_filter.mp hi
      have := (List.getElem?_eq_some_iff.mp (of_decide_eq_true h2)).1
      omega
    · show ((pl.filter fun k => decide (name[k]? = some c)).map (· + 1)).Pairwise (· < ·)
      rw [List.pairwise_map]
      exact (List.Pairwise.filter _ h.ord).imp fun h => by omega
theorem PlOk.fold {name : List Nat} : ∀ (p : List (Option Nat)) {pl : List Nat}, PlOk name pl → PlOk name (p.foldl (plStep name) pl)
  | [], _, h => h
  | t :: p, _, h => PlOk.fold p (h.step t)
theorem asc_len : ∀ (l : List Nat) (a N : Nat), l.Pairwise (· < ·) → (∀ k ∈ l, a ≤ k ∧ k ≤ N) → l.length ≤ N + 1 - a
  | [], _, _, _, _ => Nat.zero_le _
  | k :: r, a, N, h, hb => by
    rw [List.pairwise_cons] at h
    have ih := asc_len r (k + 1) N h.2 fun j hj => ⟨h.1 j hj, (hb j (List.mem_cons_of_mem _ hj)).2⟩
    have := hb k List.mem_cons_self
    rw [List.length_cons]; omega
theorem PlOk.len {name pl : List Nat} (h : PlOk name pl) : pl.length ≤ name.length + 1 := asc_len pl 0 name.length h.ord fun k hk => ⟨Nat.zero_le _, h.le k hk⟩
theorem mat_drop {name : List Nat} {k : Nat} (c : Nat) (p : List (Option Nat)) : Mat (some c :: p) (name.drop k) ↔ name[k]? = some c ∧ Mat p (name.drop (k + 1)) := by
  constructor
  · rintro ⟨r, e, h⟩
    refine ⟨drop_at e, ?_⟩
    rw [drop_more e]; exact h
  · rintro ⟨e, h⟩
    obtain ⟨hlt, e⟩ := List.getElem?_eq_some_iff.mp e
    exact ⟨name.drop (k + 1), by rw [List.drop_eq_getElem_cons hlt, e], h⟩
theorem mat_star_drop {name : List Nat} {k : Nat} (hk : k ≤ name.length) (p : List (Option Nat)) : Mat (none :: p) (name.drop k) ↔ ∃ j, k ≤ j ∧ j ≤ name.length ∧ Mat p (name.drop j) := by
  constructor
  · rintro ⟨a, b, e, h⟩
    have hl : (name.drop k).length = a.length + b.length := by rw [e, List.length_append]
    rw [List.length_drop] at hl
    refine ⟨k + a.length, by omega, by omega, ?_⟩
    rw [← List.drop_drop, e, List.drop_left]; exact h
  · rintro ⟨j, h1, h2, h⟩
    refine ⟨(name.drop k).take (j - k), name.drop j, ?_, h⟩
    have := (List.take_append_drop (j - k) (name.drop k)).symm
    rw [List.drop_drop, show k + (j - k) = j by omega] at this
    exact this
theorem fold_places (name : List Nat) : ∀ (p : List (Option Nat)) {pl : List Nat}, PlOk name pl → (name.length ∈ p.foldl (plStep name) pl ↔ ∃ k ∈ pl, Mat p (name.drop k))
  | [], pl, h => by
    constructor
    · intro hm; exact ⟨_, hm, List.drop_length⟩
    · rintro ⟨k, hk, e⟩
      have := h.le k hk
      have e2 : name.length - k = 0 := by have := congrArg List.length (show name.drop k = [] from e); simpa using this
      have : k = name.length := by omega
      exact this ▸ hk
  | none :: p, pl, h => by
    show name.length ∈ p.foldl (plStep name) (plStep name pl none) ↔ _
    rw [fold_places name p (h.step none)]
    cases pl with
    | nil => constructor <;> (rintro ⟨k, hk, _⟩; cases hk)
    | cons k0 r =>
      have h0 := h.le k0 List.mem_cons_self
      constructor
      · rintro ⟨j, hj, hm⟩
        obtain ⟨i, hi, rfl⟩ := List.mem_map.mp hj
        have := List.mem_range.mp hi
        exact ⟨k0, List.mem_cons_self, (mat_star_drop h0 p).mpr ⟨k0 + i, by omega, by omega, hm⟩⟩
      · rintro ⟨k, hk, hm⟩
        obtain ⟨j, h1, h2, hm⟩ := (mat_star_drop (h.le k hk) p).mp hm
        have hk0 : k0 ≤ k := by
          rcases List.mem_cons.mp hk with rfl | hk
          · exact Nat.le_refl _
          · exact Nat.le_of_lt ((List.pairwise_cons.mp h.ord).1 k hk)
        refine ⟨j, List.mem_map.mpr ⟨j - k0, List.mem_range.mpr (by omega), by omega⟩, hm⟩
  | some c :: p, pl, h => by
    show name.length ∈ p.foldl (plStep name) (plStep name pl (some c)) ↔ _
    rw [fold_places name p (h.step (some c))]
    constructor
    · rintro ⟨j, hj, hm⟩
      obtain ⟨i, hi, rfl⟩ := List.mem_map.mp hj
      obtain ⟨h1, h2⟩ := List.mem_filter.mp hi
      exact ⟨i, h1, (mat_drop c p).mpr ⟨of_decide_eq_true h2, hm⟩⟩
    · rintro ⟨k, hk, hm⟩
      obtain ⟨h1, h2⟩ := (mat_drop c p).mp hm
      exact ⟨k + 1, List.mem_map.mpr ⟨k, List.mem_filter.mpr ⟨hk, decide_eq_true h1⟩, rfl⟩, h2⟩
theorem places_mat (name : List Nat) (p : List (Option Nat)) : name.length ∈ p.foldl (plStep name) [0] ↔ Mat p name := by
  rw [fold_places name p (PlOk.start name)]
  constructor
  · rintro ⟨k, hk, h⟩; rw [List.mem_singleton.mp hk] at h; exact h
  · intro h; exact ⟨0, List.mem_singleton.mpr rfl, h⟩

end
section
/-! ## dressing: a coded pattern means for the coded name what the bare one means for the bare name -/
def e1 (c : Nat) : List Nat := if c = 34 then [34, 34] else [c]
theorem e1_34 : e1 34 = [34, 34] := rfl
theorem e1_ne {c : Nat} (h : c ≠ 34) : e1 c = [c] := if_neg h
theorem e0_92 : e0 92 = [92, 92] := rfl
theorem e0_34 : e0 34 = [92, 34] := rfl
theorem e0_ne {c : Nat} (h1 : c ≠ 92) (h2 : c ≠ 34) : e0 c = [c] := by unfold e0; rw [if_neg h1, if_neg h2]
def tokE (e : Nat → List Nat) : Option Nat → List (Option Nat)
  | none => [none]
  | some c => (e c).map some
def pE (e : Nat → List Nat) (p : List (Option Nat)) : List (Option Nat) := p.flatMap (tokE e)
theorem pE_none (e : Nat → List Nat) (p : List (Option Nat)) : pE e (none :: p) = none :: pE e p := rfl
theorem pE_some (e : Nat → List Nat) (c : Nat) (p : List (Option Nat)) : pE e (some c :: p) = (e c).map some ++ pE e p := rfl
theorem dress_fwd (e : Nat → List Nat) {t : List (Option Nat)} {s : List Nat} (ht : Mat t s) : ∀ {p : List (Option Nat)} {n : List Nat}, Mat p n → Mat (pE e p ++ t) (n.flatMap e ++ s)
  | [], n, h => by rw [show n = [] from h]; exact ht
  | none :: p, n, ⟨a, b, hn, h⟩ => by
    subst hn
    rw [pE_none, List.flatMap_append, List.append_assoc]
    exact ⟨_, _, rfl, dress_fwd e ht h⟩
  | some c :: p, n, ⟨r, hn, h⟩ => by
    subst hn
    rw [pE_some, List.append_assoc, List.flatMap_cons, List.append_assoc]
    exact (mat_some _).mpr ⟨_, rfl, dress_fwd e ht h⟩
theorem noNil (c : Nat) : ∀ (X : List (Option Nat)), ¬ Mat (X ++ [some c]) []
  | [], h => by obtain ⟨r, h, _⟩ := h; cases h
  | none :: X, h => by
    obtain ⟨a, b, h, h'⟩ := h
    obtain ⟨_, rfl⟩ := List.append_eq_nil_iff.mp h.symm
    exact noNil c X h'
  | some _ :: X, h => by obtain ⟨r, h, _⟩ := h; cases h
theorem suf1 : ∀ (n : List Nat) {a b : List Nat}, n.flatMap e1 ++ [34] = a ++ b → (∃ n1 m, n = n1 ++ m ∧ b = m.flatMap e1 ++ [34]) ∨ (∃ n1 m, n = n1 ++ 34 :: m ∧ b = 34 :: (m.flatMap e1 ++ [34])) ∨ b = []
  | n, [], b, h => .inl ⟨[], n, rfl, h.symm⟩
  | [], x :: a, b, h => by
    have : [] = a ++ b := (List.cons.inj h).2
    exact .inr (.inr (List.append_eq_nil_iff.mp this.symm).2)
  | c :: n, x :: a, b, h => by
    by_cases hc : c = 34
    · subst hc
      rw [List.flatMap_cons, e1_34] at h
      have h2 : 34 :: (n.flatMap e1 ++ [34]) = a ++ b := (List.cons.inj h).2
      cases a with
      | nil => exact .inr (.inl ⟨[], n, rfl, h2.symm⟩)
      | cons y a =>
        rcases suf1 n (List.cons.inj h2).2 with ⟨n1, m, e, e'⟩ | ⟨n1, m, e, e'⟩ | e
        · exact .inl ⟨34 :: n1, m, by rw [e]; rfl, e'⟩
        · exact .inr (.inl ⟨34 :: n1, m, by rw [e]; rfl, e'⟩)
        · exact .inr (.inr e)
    · rw [List.flatMap_cons, e1_ne hc] at h
      rcases suf1 n (List.cons.inj h).2 with ⟨n1, m, e, e'⟩ | ⟨n1, m, e, e'⟩ | e
      · exact .inl ⟨c :: n1, m, by rw [e]; rfl, e'⟩
      · exact .inr (.inl ⟨c :: n1, m, by rw [e]; rfl, e'⟩)
      · exact .inr (.inr e)
theorem dA1 : ∀ (p : List (Option Nat)), (∀ n, Mat (pE e1 p ++ [some 34]) (n.flatMap e1 ++ [34]) → Mat p n) ∧ (∀ m, Mat (pE e1 p ++ [some 34]) (34 :: (m.flatMap e1 ++ [34])) → Mat p m)
  | [] => by
    refine ⟨fun n h => ?_, fun m h => ?_⟩
    · obtain ⟨r, h, hr⟩ := h
      rw [show r = [] from hr] at h
      cases n with
      | nil => rfl
      | cons d n =>
        rw [List.flatMap_cons] at h
        have := congrArg List.length h
        have : 1 ≤ (e1 d).length := by unfold e1; split <;> simp
        simp at *; omega
    · obtain ⟨r, h, hr⟩ := h
      rw [show r = [] from hr] at h
      simp at h
  | none :: p => by
    obtain ⟨A, B⟩ := dA1 p
    have st : ∀ n a b, n.flatMap e1 ++ [34] = a ++ b → Mat (pE e1 p ++ [some 34]) b → Mat (none :: p) n := fun n a b h hb => by
      rcases suf1 n h with ⟨n1, m, rfl, rfl⟩ | ⟨n1, m, rfl, rfl⟩ | rfl
      · exact ⟨n1, m, rfl, A m hb⟩
      · exact ⟨n1 ++ [34], m, by simp, B m hb⟩
      · exact absurd hb (noNil _ _)
    refine ⟨fun n h => ?_, fun m h => ?_⟩
    · obtain ⟨a, b, h, hb⟩ := h
      exact st n a b h hb
    · obtain ⟨a, b, h, hb⟩ := h
      cases a with
      | nil => exact ⟨[], m, rfl, B m (h ▸ hb)⟩
      | cons x a => exact st m a b (List.cons.inj h).2 hb
  | some c :: p => by
    obtain ⟨A, B⟩ := dA1 p
    by_cases hc : c = 34
    · subst hc
      refine ⟨fun n h => ?_, fun m h => ?_⟩
      · rw [pE_some, e1_34] at h
        obtain ⟨r, h, r', rfl, hr⟩ := h
        cases n with
        | nil => simp at h
        | cons d n =>
          by_cases hd : d = 34
          · subst hd
            rw [List.flatMap_cons, e1_34] at h
            exact ⟨n, rfl, A n (by have := (List.cons.inj (List.cons.inj h).2).2; rw [← this] at hr; exact hr)⟩
          · rw [List.flatMap_cons, e1_ne hd] at h
            exact absurd (List.cons.inj h).1 hd
      · rw [pE_some, e1_34] at h
        obtain ⟨r, h, r', rfl, hr⟩ := h
        have h := (List.cons.inj h).2
        cases m with
        | nil =>
          have : r' = [] := (List.cons.inj h).2.symm
          subst this
          exact absurd hr (noNil _ _)
        | cons d m =>
          by_cases hd : d = 34
          · subst hd
            rw [List.flatMap_cons, e1_34] at h
            have := (List.cons.inj h).2
            rw [← this] at hr
            exact ⟨m, rfl, B m hr⟩
          · rw [List.flatMap_cons, e1_ne hd] at h
            exact absurd (List.cons.inj h).1 hd
    · refine ⟨fun n h => ?_, fun m h => ?_⟩
      · rw [pE_some, e1_ne hc] at h
        obtain ⟨r, h, hr⟩ := h
        cases n with
        | nil => exact absurd (List.cons.inj h).1.symm hc
        | cons d n =>
          by_cases hd : d = 34
          · subst hd
            rw [List.flatMap_cons, e1_34] at h
            exact absurd (List.cons.inj h).1.symm hc
          · rw [List.flatMap_cons, e1_ne hd] at h
            obtain ⟨h1, h2⟩ := List.cons.inj h
            have h3 : n.flatMap e1 ++ [34] = r := h2
            exact ⟨n, by rw [h1], A n (by rw [h3]; exact hr)⟩
      · rw [pE_some, e1_ne hc] at h
        obtain ⟨r, h, hr⟩ := h
        exact absurd (List.cons.inj h).1.symm hc
theorem suf0 : ∀ (n : List Nat) {a b : List Nat}, n.flatMap e0 ++ [34] = a ++ b → (∃ n1 m, n = n1 ++ m ∧ b = m.flatMap e0 ++ [34]) ∨ (∃ n1 m, n = n1 ++ 92 :: m ∧ b = 92 :: (m.flatMap e0 ++ [34])) ∨ (∃ n1 m, n = n1 ++ 34 :: m ∧ b = 34 :: (m.flatMap e0 ++ [34])) ∨ b = []
  | n, [], b, h => .inl ⟨[], n, rfl, h.symm⟩
  | [], x :: a, b, h => by
    have : [] = a ++ b := (List.cons.inj h).2
    exact .inr (.inr (.inr (List.append_eq_nil_iff.mp this.symm).2))
  | c :: n, x :: a, b, h => by
    have more : ∀ {a b}, n.flatMap e0 ++ [34] = a ++ b → (∃ n1 m, c :: n = n1 ++ m ∧ b = m.flatMap e0 ++ [34]) ∨ (∃ n1 m, c :: n = n1 ++ 92 :: m ∧ b = 92 :: (m.flatMap e0 ++ [34])) ∨ (∃ n1 m, c :: n = n1 ++ 34 :: m ∧ b = 34 :: (m.flatMap e0 ++ [34])) ∨ b = [] := fun h => by
      rcases suf0 n h with ⟨n1, m, e, e'⟩ | ⟨n1, m, e, e'⟩ | ⟨n1, m, e, e'⟩ | e
      · exact .inl ⟨c :: n1, m, by rw [e]; rfl, e'⟩
      · exact .inr (.inl ⟨c :: n1, m, by rw [e]; rfl, e'⟩)
      · exact .inr (.inr (.inl ⟨c :: n1, m, by rw [e]; rfl, e'⟩))
      · exact .inr (.inr (.inr e))
    by_cases h92 : c = 92
    · subst h92
      rw [List.flatMap_cons, e0_92] at h
      have h2 : 92 :: (n.flatMap e0 ++ [34]) = a ++ b := (List.cons.inj h).2
      cases a with
      | nil => exact .inr (.inl ⟨[], n, rfl, h2.symm⟩)
      | cons y a => exact more (List.cons.inj h2).2
    · by_cases h34 : c = 34
      · subst h34
        rw [List.flatMap_cons, e0_34] at h
        have h2 : 34 :: (n.flatMap e0 ++ [34]) = a ++ b := (List.cons.inj h).2
        cases a with
        | nil => exact .inr (.inr (.inl ⟨[], n, rfl, h2.symm⟩))
        | cons y a => exact more (List.cons.inj h2).2
      · rw [List.flatMap_cons, e0_ne h92 h34] at h
        exact more (List.cons.inj h).2
/-- how a coded text begins -/
theorem beg0 (m : List Nat) : (m = [] ∧ m.flatMap e0 ++ [34] = [34]) ∨ (∃ m', m = 92 :: m' ∧ m.flatMap e0 ++ [34] = 92 :: 92 :: (m'.flatMap e0 ++ [34])) ∨ (∃ m', m = 34 :: m' ∧ m.flatMap e0 ++ [34] = 92 :: 34 :: (m'.flatMap e0 ++ [34])) ∨
    ∃ d m', d ≠ 92 ∧ d ≠ 34 ∧ m = d :: m' ∧ m.flatMap e0 ++ [34] = d :: (m'.flatMap e0 ++ [34]) := by
  cases m with
  | nil => exact .inl ⟨rfl, rfl⟩
  | cons d m =>
    by_cases h92 : d = 92
    · subst h92; exact .inr (.inl ⟨m, rfl, rfl⟩)
    · by_cases h34 : d = 34
      · subst h34; exact .inr (.inr (.inl ⟨m, rfl, rfl⟩))
      · exact .inr (.inr (.inr ⟨d, m, h92, h34, rfl, by rw [List.flatMap_cons, e0_ne h92 h34]; rfl⟩))
theorem dA0 : ∀ (p : List (Option Nat)), (∀ n, Mat (pE e0 p ++ [some 34]) (n.flatMap e0 ++ [34]) → Mat p n) ∧ (∀ m, Mat (pE e0 p ++ [some 34]) (92 :: (m.flatMap e0 ++ [34])) → Mat p m ∨ Mat p (92 :: m)) ∧
    (∀ m, Mat (pE e0 p ++ [some 34]) (34 :: (m.flatMap e0 ++ [34])) → (∃ q, p = none :: q) ∧ Mat p m)
  | [] => by
    refine ⟨fun n h => ?_, fun m h => ?_, fun m h => ?_⟩
    · obtain ⟨r, h, hr⟩ := h
      rw [show r = [] from hr] at h
      rcases beg0 n with ⟨rfl, e⟩ | ⟨m', rfl, e⟩ | ⟨m', rfl, e⟩ | ⟨d, m', h1, h2, rfl, e⟩
      · rfl
      · rw [e] at h; cases h
      · rw [e] at h; cases h
      · rw [e] at h; exact absurd (List.cons.inj h).1 h2
    · obtain ⟨r, h, hr⟩ := h
      cases h
    · obtain ⟨r, h, hr⟩ := h
      rw [show r = [] from hr] at h
      simp at h
  | none :: p => by
    obtain ⟨A, B, C⟩ := dA0 p
    have st : ∀ n a b, n.flatMap e0 ++ [34] = a ++ b → Mat (pE e0 p ++ [some 34]) b → Mat (none :: p) n := fun n a b h hb => by
      rcases suf0 n h with ⟨n1, m, rfl, rfl⟩ | ⟨n1, m, rfl, rfl⟩ | ⟨n1, m, rfl, rfl⟩ | rfl
      · exact ⟨n1, m, rfl, A m hb⟩
      · rcases B m hb with z | z
        · exact ⟨n1 ++ [92], m, by simp, z⟩
        · exact ⟨n1, 92 :: m, rfl, z⟩
      · exact ⟨n1 ++ [34], m, by simp, (C m hb).2⟩
      · exact absurd hb (noNil _ _)
    refine ⟨fun n h => ?_, fun m h => ?_, fun m h => ?_⟩
    · obtain ⟨a, b, h, hb⟩ := h
      exact st n a b h hb
    · obtain ⟨a, b, h, hb⟩ := h
      cases a with
      | nil =>
        rcases B m (h ▸ hb) with z | z
        · exact .inl ⟨[], m, rfl, z⟩
        · exact .inr ⟨[], 92 :: m, rfl, z⟩
      | cons x a => exact .inl (st m a b (List.cons.inj h).2 hb)
    · refine ⟨⟨p, rfl⟩, ?_⟩
      obtain ⟨a, b, h, hb⟩ := h
      cases a with
      | nil => exact ⟨[], m, rfl, (C m (h ▸ hb)).2⟩
      | cons x a => exact st m a b (List.cons.inj h).2 hb
  | some c :: p => by
    obtain ⟨A, B, C⟩ := dA0 p
    by_cases h92 : c = 92
    · subst h92
      rw [pE_some, e0_92]
      refine ⟨fun n h => ?_, fun m h => ?_, fun m h => ?_⟩
      · obtain ⟨r, h, r', rfl, hr⟩ := h
        rcases beg0 n with ⟨rfl, e⟩ | ⟨m', rfl, e⟩ | ⟨m', rfl, e⟩ | ⟨d, m', h1, h2, rfl, e⟩
        · rw [e] at h; cases h
        · rw [e] at h
          have := (List.cons.inj (List.cons.inj h).2).2
          rw [← this] at hr
          exact ⟨m', rfl, A m' hr⟩
        · rw [e] at h
          have := (List.cons.inj (List.cons.inj h).2).1
          cases this
        · rw [e] at h; exact absurd (List.cons.inj h).1 h1
      · obtain ⟨r, h, r', rfl, hr⟩ := h
        have h := (List.cons.inj h).2
        rcases beg0 m with ⟨rfl, e⟩ | ⟨m', rfl, e⟩ | ⟨m', rfl, e⟩ | ⟨d, m', h1, h2, rfl, e⟩
        · rw [e] at h; cases h
        · rw [e] at h
          have := (List.cons.inj h).2
          rw [← this] at hr
          rcases B m' hr with z | z
          · exact .inl ⟨m', rfl, z⟩
          · exact .inr ⟨92 :: m', rfl, z⟩
        · rw [e] at h
          have := (List.cons.inj h).2
          rw [← this] at hr
          obtain ⟨⟨q, rfl⟩, z⟩ := C m' hr
          exact .inr ⟨34 :: m', rfl, mat_star [34] z⟩
        · rw [e] at h; exact absurd (List.cons.inj h).1 h1
      · obtain ⟨r, h, _⟩ := h
        cases h
    · by_cases h34 : c = 34
      · subst h34
        rw [pE_some, e0_34]
        refine ⟨fun n h => ?_, fun m h => ?_, fun m h => ?_⟩
        · obtain ⟨r, h, r', rfl, hr⟩ := h
          rcases beg0 n with ⟨rfl, e⟩ | ⟨m', rfl, e⟩ | ⟨m', rfl, e⟩ | ⟨d, m', h1, h2, rfl, e⟩
          · rw [e] at h; cases h
          · rw [e] at h
            have := (List.cons.inj (List.cons.inj h).2).1
            cases this
          · rw [e] at h
            have := (List.cons.inj (List.cons.inj h).2).2
            rw [← this] at hr
            exact ⟨m', rfl, A m' hr⟩
          · rw [e] at h; exact absurd (List.cons.inj h).1 h1
        · obtain ⟨r, h, r', rfl, hr⟩ := h
          have h := (List.cons.inj h).2
          rcases beg0 m with ⟨rfl, e⟩ | ⟨m', rfl, e⟩ | ⟨m', rfl, e⟩ | ⟨d, m', h1, h2, rfl, e⟩
          · rw [e] at h
            have : r' = [] := (List.cons.inj h).2.symm
            subst this
            exact absurd hr (noNil _ _)
          · rw [e] at h; cases (List.cons.inj h).1
          · rw [e] at h; cases (List.cons.inj h).1
          · rw [e] at h; exact absurd (List.cons.inj h).1 h2
        · obtain ⟨r, h, _⟩ := h
          cases h
      · rw [pE_some, e0_ne h92 h34]
        refine ⟨fun n h => ?_, fun m h => ?_, fun m h => ?_⟩
        · obtain ⟨r, h, hr⟩ := h
          rcases beg0 n with ⟨rfl, e⟩ | ⟨m', rfl, e⟩ | ⟨m', rfl, e⟩ | ⟨d, m', h1, h2, rfl, e⟩
          · rw [e] at h; exact absurd (List.cons.inj h).1.symm h34
          · rw [e] at h; exact absurd (List.cons.inj h).1.symm h92
          · rw [e] at h; exact absurd (List.cons.inj h).1.symm h92
          · rw [e] at h
            obtain ⟨h3, h4⟩ := List.cons.inj h
            rw [← h4] at hr
            exact ⟨m', by rw [h3], A m' hr⟩
        · obtain ⟨r, h, _⟩ := h
          exact absurd (List.cons.inj h).1.symm h92
        · obtain ⟨r, h, _⟩ := h
          exact absurd (List.cons.inj h).1.symm h34
/-- the dressing of items and of a name -/
def preW (way : Int) : List Nat := if way = 1 then [50, 53, 55, 32, 34] else [34]
def ew (way : Int) : Nat → List Nat := if way = 1 then e1 else e0
def dT (way : Int) (p : List (Option Nat)) : List (Option Nat) := (preW way).map some ++ (pE (ew way) p ++ [some 34])
def dN (way : Int) (n : List Nat) : List Nat := preW way ++ (n.flatMap (ew way) ++ [34])
theorem dress_mat (way : Int) (p : List (Option Nat)) (n : List Nat) : Mat (dT way p) (dN way n) ↔ Mat p n := by
  have h34 : Mat [some 34] [34] := ⟨[], rfl, rfl⟩
  unfold dT dN
  rw [mat_some]
  constructor
  · rintro ⟨r, e, h⟩
    rw [← List.append_cancel_left e] at h
    unfold ew at h
    split at h
    · exact (dA1 p).1 n h
    · exact (dA0 p).1 n h
  · intro h
    exact ⟨_, rfl, dress_fwd _ h34 h⟩
theorem sub_e1 (l : List Nat) : sub1 34 [34, 34] l = l.flatMap e1 := rfl
theorem sub_e0 (l : List Nat) : sub1 34 [92, 34] (sub1 92 [92, 92] l) = l.flatMap e0 := by
  unfold sub1
  rw [List.flatMap_assoc]
  congr 1
  funext k
  unfold e0
  by_cases h : k = 92
  · subst h; rfl
  · rw [if_neg h, if_neg h]; simp
theorem dressW_dN (way : Int) (l : List Nat) : dressW way l = dN way l := by
  unfold dressW dN preW ew
  split
  · rw [sub_e1, List.append_assoc]
  · rw [sub_e0, List.append_assoc]
theorem patT_app (a b : List (Option Nat)) : patT (a ++ b) = patT a ++ patT b := List.flatMap_append
theorem patT_plain : ∀ (x : List Nat), (∀ c ∈ x, c ∉ [42, 63, 91]) → patT (x.map some) = x
  | [], _ => rfl
  | c :: x, h => by
    show barred c ++ patT (x.map some) = _
    rw [patT_plain x fun d hd => h d (List.mem_cons_of_mem _ hd), barred, if_neg (h c List.mem_cons_self)]; rfl
theorem tok_dress (way : Int) (t : Option Nat) : (tokT t).flatMap (ew way) = patT (tokE (ew way) t) := by
  have pl : ∀ c, c ≠ 34 → c ≠ 92 → ew way c = [c] := fun c h1 h2 => by
    unfold ew; split
    · exact e1_ne h1
    · exact e0_ne h2 h1
  cases t with
  | none => show [42].flatMap (ew way) = _; rw [List.flatMap_cons, pl 42 (by decide) (by decide)]; rfl
  | some c =>
    show (barred c).flatMap (ew way) = patT ((ew way c).map some)
    by_cases hb : c ∈ [42, 63, 91]
    · have hc : c ≠ 34 ∧ c ≠ 92 := by simp at hb; omega
      rw [barred, if_pos hb, pl c hc.1 hc.2, List.flatMap_cons, List.flatMap_cons, List.flatMap_cons, pl 91 (by decide) (by decide), pl c hc.1 hc.2, pl 93 (by decide) (by decide)]
      show [91, c, 93] = barred c ++ []
      rw [barred, if_pos hb]; rfl
    · rw [barred, if_neg hb, List.flatMap_cons, List.flatMap_nil, List.append_nil]
      refine (patT_plain _ fun d hd => ?_).symm
      unfold ew at hd
      split at hd
      · unfold e1 at hd; split at hd
        · simp at hd; subst hd; decide
        · simp at hd; subst hd; exact hb
      · unfold e0 at hd; split at hd
        · simp at hd; subst hd; decide
        · split at hd
          · simp at hd; rcases hd with rfl | rfl <;> decide
          · simp at hd; subst hd; exact hb
theorem patT_dress (way : Int) : ∀ p : List (Option Nat), (patT p).flatMap (ew way) = patT (pE (ew way) p)
  | [] => rfl
  | t :: p => by
    show (tokT t ++ patT p).flatMap (ew way) = patT (tokE (ew way) t ++ pE (ew way) p)
    rw [List.flatMap_append, patT_app, tok_dress, patT_dress way p]
theorem dressW_patT (way : Int) (p : List (Option Nat)) : dressW way (patT p) = patT (dT way p) := by
  rw [dressW_dN]
  unfold dN dT
  rw [patT_app, patT_app, patT_dress]
  congr 1
  exact (patT_plain _ fun c hc => by
    unfold preW at hc
    split at hc
    · simp only [List.mem_cons, List.not_mem_nil, or_false] at hc
      rcases hc with rfl | rfl | rfl | rfl | rfl <;> decide
    · rw [List.mem_singleton.mp hc]; decide).symm
/-- the signs that occur -/
def Sg (c : Nat) : Prop := c = 34 ∨ c = 92 ∨ c = 42 ∨ c = 63 ∨ c = 91 ∨ c = 32 ∨ c = 50 ∨ c = 53 ∨ c = 55 ∨ 200 ≤ c
theorem Sg.good {c : Nat} (h : Sg c) : GoodC c := by
  unfold Sg at h
  unfold GoodC
  rcases h with rfl | rfl | rfl | rfl | rfl | rfl | rfl | rfl | rfl | h
  · exact .inr (.inr (.inr ⟨by decide, by decide⟩))
  · exact .inr (.inr (.inr ⟨by decide, by decide⟩))
  · exact .inl rfl
  · exact .inr (.inl rfl)
  · exact .inr (.inr (.inl rfl))
  · exact .inr (.inr (.inr ⟨by decide, by decide⟩))
  · exact .inr (.inr (.inr ⟨by decide, by decide⟩))
  · exact .inr (.inr (.inr ⟨by decide, by decide⟩))
  · exact .inr (.inr (.inr ⟨by decide, by decide⟩))
  · refine .inr (.inr (.inr ⟨.inr (.inr fun q => ?_), by omega, by omega, by omega⟩))
    unfold special at q
    simp at q; omega
theorem Sg.ne10 {c : Nat} (h : Sg c) : c ≠ 10 := by unfold Sg at h; omega
theorem Sg.piece {c : Nat} (h : Sg c) : c ≠ 40 ∧ c ≠ 41 ∧ c ≠ 46 := by unfold Sg at h; omega
theorem Sg.pre (way : Int) : ∀ c ∈ preW way, Sg c := fun c hc => by
  unfold preW at hc
  split at hc
  · simp only [List.mem_cons, List.not_mem_nil, or_false] at hc
    unfold Sg; rcases hc with rfl | rfl | rfl | rfl | rfl <;> simp
  · rw [List.mem_singleton.mp hc]; exact .inl rfl
theorem Sg.ew (way : Int) {c d : Nat} (h : Sg c) (hd : d ∈ Mine.ew way c) : Sg d := by
  unfold Mine.ew at hd
  split at hd
  · unfold e1 at hd; split at hd
    · simp at hd; subst hd; exact .inl rfl
    · simp at hd; subst hd; exact h
  · unfold e0 at hd; split at hd
    · simp at hd; subst hd; exact .inr (.inl rfl)
    · split at hd
      · simp at hd; rcases hd with rfl | rfl
        · exact .inr (.inl rfl)
        · exact .inl rfl
      · simp at hd; subst hd; exact h
theorem Sg.dN (way : Int) {n : List Nat} (h : ∀ c ∈ n, Sg c) : ∀ c ∈ Mine.dN way n, Sg c := fun c hc => by
  unfold Mine.dN at hc
  rcases List.mem_append.mp hc with hc | hc
  · exact Sg.pre way c hc
  · rcases List.mem_append.mp hc with hc | hc
    · obtain ⟨d, hd, hc⟩ := List.mem_flatMap.mp hc
      exact (h d hd).ew way hc
    · rw [List.mem_singleton.mp hc]; exact .inl rfl
theorem Sg.dT (way : Int) {p : List (Option Nat)} (h : ∀ c, some c ∈ p → Sg c) : ∀ c, some c ∈ Mine.dT way p → Sg c := fun c hc => by
  unfold Mine.dT at hc
  rcases List.mem_append.mp hc with hc | hc
  · obtain ⟨d, hd, e⟩ := List.mem_map.mp hc
    cases e; exact Sg.pre way c hd
  · rcases List.mem_append.mp hc with hc | hc
    · obtain ⟨t, ht, hc⟩ := List.mem_flatMap.mp hc
      cases t with
      | none => simp [tokE] at hc
      | some d =>
        obtain ⟨x, hx, e⟩ := List.mem_map.mp hc
        cases e
        exact (h d ht).ew way hx
    · rw [Option.some.inj (List.mem_singleton.mp hc)]; exact .inl rfl
/-- undressing -/
theorem un257_dress : ∀ n : List Nat, un257 (n.flatMap e1 ++ [34]) = n
  | [] => by rw [List.flatMap_nil, List.nil_append, un257.eq_def]; rfl
  | c :: n => by
    by_cases h : c = 34
    · subst h
      rw [List.flatMap_cons, e1_34]
      show un257 (34 :: 34 :: (n.flatMap e1 ++ [34])) = _
      rw [un257_two, un257_dress n]
    · rw [List.flatMap_cons, e1_ne h]
      show un257 (c :: (n.flatMap e1 ++ [34])) = _
      rw [un257_ne h, un257_dress n]
theorem ew_len (way : Int) (c : Nat) : (ew way c).length ≤ 2 := by
  unfold ew
  split
  · unfold e1; split <;> simp
  · unfold e0; split
    · simp
    · split <;> simp
theorem dN_len (way : Int) (n : List Nat) : (dN way n).length ≤ 2 * n.length + 6 := by
  have h : (n.flatMap (ew way)).length ≤ 2 * n.length := by
    induction n with
    | nil => simp
    | cons c n ih => rw [List.flatMap_cons, List.length_append, List.length_cons]; have := ew_len way c; omega
  have hp : (preW way).length ≤ 5 := by unfold preW; split <;> simp
  unfold dN
  simp only [List.length_append, List.length_cons, List.length_nil]; omega

end
section
/-! ## _law_fits -/
def itemT : Option Nat → List Nat
  | none => []
  | some c => [c]
theorem take_one {name : List Nat} {k c : Nat} : (name.drop k).take 1 = [c] ↔ name[k]? = some c := by
  rw [← List.head?_drop]
  cases name.drop k with
  | nil => simp
  | cons a r => simp
abbrev fV (l : Addr) (vp : Option Value) : Vals := [(Str.ofString "items", some (.ref l)), (Str.ofString "places", vp)]
theorem tFits (w : World) (l : Addr) (vs : List Value) (n : Nat) (p : List (Option Nat)) (name : List Nat) (hxs : Txts vs (p.map itemT)) (hp : p.length ≤ 1000) (hn : name.length ≤ 1000) (t0 : Tok) :
    FnR (hd.heap_39 w.params) PySem.Challenge.pw_kt0083_01 w 12 (.ref 849) [.ref l, .str (T name) t0] [(l, Lo vs n)]
      (fun v own => v = .bool (decide (name.length ∈ p.foldl (plStep name) [0])) ∧ own = []) := by
  intro A s g R S hA O hr k
  have hs0 : g.objs.size ≤ s.heap.objs.size := O.size
  have hlst : g.get? l = some (Lo vs n) := hr _ (List.mem_singleton.mpr rfl)
  have hvl : vs.length ≤ 16777216 := by have := hxs.len; rw [List.length_map] at this; omega
  refine' enterC2 (x1 := Str.ofString "name") (x2 := Str.ofString "item") (binds := [(Str.ofString "items", .ref l), (Str.ofString "name", .str (T name) t0)])
    (gl := [(Str.ofString "list", .type "list"), (Str.ofString "range", .type "range"), (Str.ofString "len", .builtin "len")]) (vals := fV l none) S O hA ?h1 ?h2 ?h3 ?h4 ?h5 ?h6 ?h7 ?h8 ?h9 ?h10 ?h11 ?_
  case h1 => k_is
  case h2 => k_is
  case h3 => rfl
  case h4 => intro m; rfl
  case h5 => decide
  case h6 => kernel_rfl
  case h7 => kernel_rfl
  case h8 => kernel_rfl
  case h9 => kernel_rfl
  case h10 => exact (by decide : ([Str.ofString "items", Str.ofString "places"] : List Str).Nodup)
  case h11 => intro p hp; simp only [List.mem_cons, List.not_mem_nil, or_false] at hp; rcases hp with rfl | rfl <;> rfl
  intro env A' s1 cN cI oN oI hA' H hsc hcells hoN hoI hcN hlt D
  have hkN : env.kindOf (Str.ofString "name") = some .cell := by show env.scope.names.lookup _ = _; rw [hsc]; rfl
  have hkI : env.kindOf (Str.ofString "item") = some .cell := by show env.scope.names.lookup _ = _; rw [hsc]; rfl
  have hlN : env.cells.lookup (Str.ofString "name") = some cN := by rw [hcells]; rfl
  have hlI : env.cells.lookup (Str.ofString "item") = some cI := by rw [hcells]; rfl
  have hkf : env.scope.kind = .function := D.kind
  replace hoN : oN.data = .cell (some (.str (T name) t0)) := hoN
  have hkP : env.kindOf (Str.ofString "places") = some .local := by show env.scope.names.lookup _ = _; rw [hsc]; rfl
  have hbk : env.blockKind = .function := by unfold Env.blockKind; rw [hsc]; rfl
  have hd1 : ((Str.ofString "name" : Str) == ("__debug__" : Str)) = false := by decide
  have hd2 : ((Str.ofString "item" : Str) == ("__debug__" : Str)) = false := by decide
  generalize s = B at D k hs0 O hcN
  clear O hr
  wtm_at "ms"
  refine r_newlist D (by simp) ?_; wtm_at "nl"; intro P s hPB D; wtm_at "ms"
  refine r_for hA'.hd ?_
  wtm_at "ms"
  refine ⟨_, _, _, _, l, vs, n, fun I o i s => ∃ (P : Addr) (pl : List Nat) (ws : List Value) (kk : Nat) (oI : Obj) (vI : Option Value), pl = (p.take i).foldl (plStep name) [0] ∧ Nums ws (pl.map Nat.cast) ∧ oI.data = .cell vI ∧
    (St B g env (fV l (some (.ref P))) s [(I, o), (P, Lo ws kk), (cI, oI), (cN, oN)] ∨ St B g env (fV l (some (.ref P))) s [(P, Lo ws kk), (I, o), (cI, oI), (cN, oN)]),
    rfl, D, by wtm_at "has", fun I o s' D' => ⟨P, [0], _, _, oI, _, rfl, .cons .nil, hoI, .inl D'⟩, ?_⟩
  clear D
  rintro I o i s hi ⟨P, pl, ws, kk, oI, vI, hpl, hws, hoI, hD⟩
  have hpk : PlOk name pl := hpl ▸ (PlOk.start name).fold _
  have hwl := hws.len
  rw [List.length_map] at hwl
  have hwl2 := hpk.len
  rcases hD with D | D
  all_goals (
    refine ⟨_, _, _, n, _, _, D, by wtm_at "has", fun o' => ⟨_, by wtm_at "turn", fun v s hv D => ?_⟩, fun hi s D => ?_⟩
    · obtain ⟨li, ti, hli, rfl⟩ := hxs.got hv
      rw [List.getElem?_map] at hli
      cases hpi : p[i]? with
      | none => rw [hpi] at hli; cases hli
      | some tok =>
      rw [hpi] at hli
      cases hli
      have hti : (p.take (i + 1)).foldl (plStep name) [0] = plStep name pl tok := by rw [List.take_add_one, hpi, List.foldl_append, ← hpl]; rfl
      refine wpAny_assign_Name (r_stcell D hkI hlI (by wtm_at "hole") hoI fun oI s hoI D => ?_)
      refine wpAny_execs_cons (wpAny_If ?_)
      wtm_at "ms"
      refine r_ldcell hkf hkI hd2 hlI (by wtm_at "has") hoI ?_
      wtm_at "ms"
      cases tok with
      | none =>
        refine ite_f rfl ?_
        wtm_at "ms"
        refine r_newlist D (by simp) ?_; wtm_at "nl"; intro e0 s he0 D
        have hu : A'.units + 64 < cLine := by have := hA'.un; omega
        refine ne_intsK (D.lst (by wtm_at "has")) hws.are (D.lst (by wtm_at "has")) .nil hu ?_
        cases pl with
        | nil =>
          wtm_at "ms"
          first
          | exact ⟨P, [], ws, kk, oI, _, hti.symm, hws, hoI, .inl (D.drop (by wtm_at "sub"))⟩
          | exact ⟨P, [], ws, kk, oI, _, hti.symm, hws, hoI, .inr (D.drop (by wtm_at "sub"))⟩
        | cons k0 pl =>
          obtain ⟨ws', tk0, rfl, hws'⟩ : ∃ ws' t, ws = .int (k0 : Int) t :: ws' ∧ Nums ws' (pl.map Nat.cast) := by
            cases hws with
            | cons h => exact ⟨_, _, rfl, h⟩
          have hk0 := hpk.le k0 List.mem_cons_self
          wtm_at "ms"
          refine r_ldcell hkf hkN hd1 hlN (by wtm_at "has") hoN ?_
          wtm_at "ms"
          refine r_range2 D fun r v s D => ?_
          wtm_at "ms"
          refine r_list_range hA'.hd D (k := k0) (n := name.length + 1) List.mem_cons_self (by omega) (by omega) fun l2 ws2 m s hl2 hws2 D => ?_
          wtm_at "ms"
          exact ⟨l2, _, ws2, m, oI, _, hti.symm, hws2, hoI, .inr (D.drop (by wtm_at "sub"))⟩
      | some c =>
        refine ite_t rfl ?_
        refine wpAny_execs_cons ?_
        refine' r_listcomp_assign (K := hd.heap_39 w.params) (cl := [(Str.ofString "name", cN), (Str.ofString "item", cI)]) ?hsw hA'.hd ?hclos ?hcell ?hkind ?hnames ?hx ?hd ?_
        case hsw => unfold swapsWith; dsimp only; rw [hbk, hkP]; rfl
        case hclos => show closureFor _ _ = _; unfold closureFor cellOf; simp [hlN, hlI]
        case hcell => decide
        case hkind => rfl
        case hnames => decide
        case hx => rfl
        case hd => decide
        wtm_at "ms"
        refine ⟨_, _, _, _, P, ws, kk, fun j ys => Nums ys ((plStep name (pl.take j) (some c)).map Nat.cast), rfl, D, S, by wtm_at "has", .nil, ?hlen, ?step, fun acc => fV l (some (.ref acc)), fun acc => .tail .head, ?fin⟩
        case hlen =>
          intro j ys hR
          have h1 := hR.len
          have h2 : ((plStep name (pl.take j) (some c)).map Nat.cast : List Int).length ≤ pl.length := by
            rw [List.length_map]
            show ((List.filter _ (pl.take j)).map _).length ≤ _
            rw [List.length_map]
            exact Nat.le_trans (List.length_filter_le _ _) (List.length_take_le' _ _)
          omega
        case step =>
          intro C B' g' s2 j v ys m acc I2 o2 hold hI2 S' hv2 hR D2
          obtain ⟨x, tx, hx, rfl⟩ := hws.got hv2
          rw [List.getElem?_map] at hx
          cases hpj : pl[j]? with
          | none => rw [hpj] at hx; cases hx
          | some kj =>
          rw [hpj] at hx
          cases hx
          have hkj := hpk.le kj (List.mem_of_getElem? hpj)
          have htk : pl.take (j + 1) = pl.take j ++ [kj] := by rw [List.take_add_one, hpj]; rfl
          have hRn : plStep name (pl.take (j + 1)) (some c) = plStep name (pl.take j) (some c) ++ (if name[kj]? = some c then [kj + 1] else []) := by
            show (List.filter _ (pl.take (j + 1))).map _ = (List.filter _ (pl.take j)).map _ ++ _
            rw [htk, List.filter_append, List.map_append]
            congr 1
            by_cases h : name[kj]? = some c
            · rw [if_pos h]; simp [h]
            · rw [if_neg h]; simp [h]
          have hgN : g'.get? cN = some oN := hold _ _ (D.get (by simp))
          have hgI : g'.get? cI = some oI := hold _ _ (D.get (by simp))
          replace S := S'
          clear D S'
          have D : St B' g' (compEnvC _ _ C env) _ s2 _ := D2
          clear D2
          rw [List.forIn_cons]
          refine wpAny_bind ?_
          rw [if_pos rfl]
          refine wpAny_bind ?_
          wtm_at "ms"
          refine r_ldcell D.kind ?hl hd1 rfl (D.keep _ _ hgN) hoN ?_
          case hl => unfold compEnvC relabel Env.kindOf; dsimp only; rw [hsc]; rfl
          wtm_at "ms"
          refine q_slice_ak D kj 1 rfl rfl rfl hkj (by omega) ?_; wtm_at "nx"; wtm_at "ms"
          refine r_ldcell D.kind ?hl hd2 rfl (D.keep _ _ hgI) hoI ?_
          case hl => unfold compEnvC relabel Env.kindOf; dsimp only; rw [hsc]; rfl
          wtm_at "ms"
          refine wpAny_pure (wpAny_pure ?_)
          refine ite_b (fun h => ?_) (fun h => ?_)
          · have hc := take_one.mp (of_decide_eq_true h)
            rw [hRn, if_pos hc, List.map_append]
            wtm_at "ms"
            exact ⟨hR.snoc, _, D⟩
          · have hc : ¬ name[kj]? = some c := fun q => of_decide_eq_false h (take_one.mpr q)
            rw [hRn, if_neg hc, List.append_nil]
            exact ⟨hR, _, D⟩
        case fin =>
          intro ys m acc s hR hb D
          rw [hwl, List.take_length] at hR
          wtm_at "ms"
          exact ⟨acc, _, ys, m, oI, _, hti.symm, hR, hoI, .inr (D.drop (by wtm_at "sub"))⟩
    · wtm_at "ms"
      refine r_ldcell hkf hkN hd1 hlN (by wtm_at "has") hoN ?_
      wtm_at "ms"
      refine in_list_ints (D.lst (by wtm_at "has")) hws.are ?_
      wtm_at "ms"
      have hpe : p.take i = p := List.take_of_length_le (by have := hxs.len; rw [List.length_map] at this; omega)
      rw [hpe] at hpl
      have e : ((pl.map Nat.cast : List Int).any (· == (name.length : Int))) = decide (name.length ∈ p.foldl (plStep name) [0]) := by
        rw [any_mem, ← hpl]
        congr 1
        rw [List.mem_map]
        have key : (∃ a ∈ pl, (Nat.cast a : Int) = (name.length : Int)) → name.length ∈ pl := fun ⟨a, ha, e⟩ => by
          have : a = name.length := by omega
          exact this ▸ ha
        exact propext ⟨fun h => key h, fun h => ⟨_, h, rfl⟩⟩
      rw [e]
      exact D.leaveN (news' := []) (List.nil_sublist _) (fun p hp => nomatch hp) hs0 ⟨rfl, rfl⟩ k)

end
section
/-! ## the bridge: what translate gives for good items -/
theorem eS_len (c : Nat) : (eS c).length ≤ 4 := by
  unfold eS
  split
  · simp
  · split
    · simp
    · split <;> simp
theorem eT_len (x : List Nat) : (eT x).length ≤ 4 * x.length := by
  induction x with
  | nil => simp [eT]
  | cons c x ih => rw [eT_cons, List.length_append, List.length_cons]; have := eS_len c; omega
theorem trTail_len : ∀ r : List (List Nat), (trTail r).length ≤ 7 * r.length + 4 * r.flatten.length
  | [] => by simp [trTail]
  | [q] => by
    have := eT_len q
    show ([46, 42] ++ eT q).length ≤ _
    simp only [List.length_append, List.length_cons, List.length_nil, List.flatten_cons, List.flatten_nil]
    omega
  | m :: q :: r => by
    have h1 := eT_len m
    have h2 := trTail_len (q :: r)
    rw [trTail_two, List.flatten_cons (l := m)]
    simp only [List.length_append, List.length_cons, List.length_nil] at *
    omega
theorem trText_len : ∀ ps : List (List Nat), (trText ps).length ≤ 7 + 7 * ps.length + 4 * ps.flatten.length
  | [] => by simp [trText]
  | p :: r => by
    have h1 := eT_len p
    have h2 := trTail_len r
    show ([40, 63, 115, 58] ++ (eT p ++ trTail r) ++ [41, 92, 90]).length ≤ _
    rw [List.flatten_cons]
    simp only [List.length_append, List.length_cons, List.length_nil] at *
    omega
def qSize (q : List (List Nat)) : Nat := q.length + q.flatten.length
theorem qSize_step (q : List (List Nat)) (t : Option Nat) : qSize (stepQ q t) ≤ qSize q + 2 := by
  unfold stepQ qSize
  cases t with
  | none =>
    dsimp only
    split
    · simp
    · simp; omega
  | some c =>
    cases q with
    | nil => simp
    | cons p r => simp; omega
theorem qSize_fold : ∀ (p : List (Option Nat)) (q : List (List Nat)), qSize (p.foldl stepQ q) ≤ qSize q + 2 * p.length
  | [], q => Nat.le_refl _
  | t :: p, q => by
    have h1 := qSize_fold p (stepQ q t)
    have h2 := qSize_step q t
    rw [List.foldl_cons, List.length_cons]
    omega
theorem pcs_size (p : List (Option Nat)) : (pcs p).length + (pcs p).flatten.length ≤ 1 + 2 * p.length := by
  have h := qSize_fold p [[]]
  unfold qSize at h
  unfold pcs
  have e : ((p.foldl stepQ [[]]).reverse).flatten.length = (p.foldl stepQ [[]]).flatten.length := by
    rw [List.length_flatten, List.length_flatten, List.map_reverse, List.sum_reverse]
  show ((p.foldl stepQ [[]]).reverse).length + ((p.foldl stepQ [[]]).reverse).flatten.length ≤ _
  rw [e, List.length_reverse]
  simpa using h
theorem stepQ_mem {P : Nat → Prop} {q : List (List Nat)} {t : Option Nat} (hq : ∀ x ∈ q, ∀ c ∈ x, P c) (ht : ∀ c, t = some c → P c) : ∀ x ∈ stepQ q t, ∀ c ∈ x, P c := by
  unfold stepQ
  cases t with
  | none =>
    dsimp only
    split
    · exact hq
    · intro x hx
      rcases List.mem_cons.mp hx with rfl | hx
      · intro c hc; cases hc
      · exact hq x hx
  | some d =>
    cases q with
    | nil =>
      intro x hx c hc
      rw [List.mem_singleton.mp hx, List.mem_singleton] at hc
      exact hc ▸ ht d rfl
    | cons p r =>
      intro x hx c hc
      rcases List.mem_cons.mp hx with rfl | hx
      · rcases List.mem_append.mp hc with hc | hc
        · exact hq p List.mem_cons_self c hc
        · rw [List.mem_singleton.mp hc]; exact ht d rfl
      · exact hq x (List.mem_cons_of_mem _ hx) c hc
theorem foldQ_mem {P : Nat → Prop} : ∀ (p : List (Option Nat)) {q : List (List Nat)}, (∀ x ∈ q, ∀ c ∈ x, P c) → (∀ c, some c ∈ p → P c) → ∀ x ∈ p.foldl stepQ q, ∀ c ∈ x, P c
  | [], _, hq, _ => hq
  | t :: p, q, hq, hp => foldQ_mem p (stepQ_mem hq fun c e => hp c (e ▸ List.mem_cons_self)) fun c hc => hp c (List.mem_cons_of_mem _ hc)
theorem pcs_mem {P : Nat → Prop} {p : List (Option Nat)} (hp : ∀ c, some c ∈ p → P c) : ∀ x ∈ pcs p, ∀ c ∈ x, P c := fun x hx =>
  foldQ_mem p (q := [[]]) (fun x hx c hc => by rw [List.mem_singleton.mp hx] at hc; cases hc) hp x (List.mem_reverse.mp hx)
theorem stepP_len (acc : List (Option (List Nat))) (t : Option Nat) : (stepP acc t).length ≤ acc.length + 1 := by
  unfold stepP
  cases t with
  | none => dsimp only; split <;> simp
  | some c => simp
theorem partsOf_len (p : List (Option Nat)) : (partsOf p).length ≤ p.length := by
  have : ∀ (p : List (Option Nat)) acc, (p.foldl stepP acc).length ≤ acc.length + p.length := fun p => by
    induction p with
    | nil => intro acc; simp
    | cons t p ih => intro acc; have h1 := ih (stepP acc t); have h2 := stepP_len acc t; rw [List.foldl_cons, List.length_cons]; omega
  have := this p []
  rw [List.length_nil, Nat.zero_add] at this
  exact this
theorem tokT_len (t : Option Nat) : 1 ≤ (tokT t).length ∧ (tokT t).length ≤ 3 := by
  cases t with
  | none => simp [tokT]
  | some c =>
    show 1 ≤ (barred c).length ∧ (barred c).length ≤ 3
    rw [barred]
    by_cases h : c ∈ [42, 63, 91]
    · rw [if_pos h]; exact ⟨by simp, by simp⟩
    · rw [if_neg h]; exact ⟨by simp, by simp⟩
theorem patT_len (p : List (Option Nat)) : p.length ≤ (patT p).length ∧ (patT p).length ≤ 3 * p.length := by
  induction p with
  | nil => simp [patT]
  | cons t p ih =>
    have h := tokT_len t
    have e : (patT (t :: p)).length = (tokT t).length + (patT p).length := by show (tokT t ++ patT p).length = _; rw [List.length_append]
    rw [e, List.length_cons]; omega
structure Bridge (p : List (Option Nat)) (pf : List (List Nat)) (r : List (List (List Nat))) : Prop where
  good : ∀ c, some c ∈ p → GoodC c
  hb : (patT p).length ≤ 3000
  hpf : partsOf p = pf.map some ++ tailParts r
  mid : ∀ q ∈ r.dropLast, q ≠ []
  len : (pf.flatten ++ tT r).length ≤ 10000
  pn : (partsOf p).length ≤ 10000
  txt : [40, 63, 115, 58] ++ (pf.flatten ++ tT r) ++ [41, 92, 90] = trText (pcs p)
  ne : pcs p ≠ []
  piece : ∀ x ∈ pcs p, ∀ c ∈ x, c ≠ 40 ∧ c ≠ 41 ∧ c ≠ 46
  tl : (trText (pcs p)).length ≤ 1000000
  pl : ∀ x ∈ pcs p, x.length ≤ 1000000
  pcl : (pcs p).length ≤ 1000000
theorem bridge (p : List (Option Nat)) (hs : ∀ c, some c ∈ p → Sg c) (hl : (patT p).length ≤ 500) : ∃ pf r, Bridge p pf r := by
  have hp1 := (patT_len p).1
  have hsz := pcs_size p
  have htl := trText_len (pcs p)
  obtain ⟨ine, ieq, imid⟩ := inv_pcs p
  have hne : pcs p ≠ [] := fun e => ine (List.reverse_eq_nil_iff.mp e)
  have hmid : ∀ x ∈ ((pcs p).tail).dropLast, x ≠ [] := by
    intro x hx
    refine imid x ?_
    unfold pcs at hx
    rw [List.tail_reverse, List.dropLast_reverse, List.mem_reverse] at hx
    rw [← List.tail_dropLast]
    exact hx
  have ieq : partsOf p = frm (pcs p) := ieq
  cases hpc : pcs p with
  | nil => exact absurd hpc hne
  | cons p0 r0 =>
  rw [hpc] at ieq hmid hsz htl
  have htxt : [40, 63, 115, 58] ++ ((p0.map eS).flatten ++ tT (r0.map (·.map eS))) ++ [41, 92, 90] = trText (p0 :: r0) := by
    rw [eT_flat, tT_tail]; rfl
  have hlen := congrArg List.length htxt
  simp only [List.length_append, List.length_cons, List.length_nil] at hlen
  refine ⟨p0.map eS, r0.map (·.map eS), fun c hc => (hs c hc).good, by omega, by rw [ieq]; rfl, ?_, ?_, ?_, ?_, hne, fun x hx c hc => (pcs_mem hs x hx c hc).piece, ?_, ?_, ?_⟩
  · intro q hq
    rw [← List.map_dropLast] at hq
    obtain ⟨x, hx, rfl⟩ := List.mem_map.mp hq
    intro e
    exact hmid x hx (List.map_eq_nil_iff.mp e)
  · rw [List.length_append]
    simp only [List.length_cons] at *
    omega
  · have := partsOf_len p; omega
  · rw [hpc]; exact htxt
  · rw [hpc]; simp only [List.length_cons] at *; omega
  · intro x hx
    rw [hpc] at hx
    have h1 : x.length ≤ (p0 :: r0).flatten.length := by
      exact (List.sublist_flatten_of_mem hx).length_le
    omega
  · rw [hpc]; omega
/-! ## the drawn items -/
def tokOf (x : Nat) : List (Option Nat) := if x % 8 < 2 then [none] else if x % 8 > 2 then [some (signOf x)] else []
theorem item_tok (x : Nat) : itemOf x = (tokOf x).map itemT := by
  unfold itemOf tokOf
  split
  · rfl
  · split <;> rfl
theorem items_tok (xs : List Nat) : xs.flatMap itemOf = (xs.flatMap tokOf).map itemT := by
  rw [List.map_flatMap]
  congr 1
  funext x
  exact item_tok x
theorem Sg.sign (x : Nat) : Sg (signOf x) := by
  unfold signOf
  split
  · unfold Sg; omega
  · have h : x / 8 % 8 < 8 := Nat.mod_lt _ (by decide)
    generalize x / 8 % 8 = k at *
    have : k = 0 ∨ k = 1 ∨ k = 2 ∨ k = 3 ∨ k = 4 ∨ k = 5 ∨ k = 6 := by omega
    unfold Sg
    rcases this with rfl | rfl | rfl | rfl | rfl | rfl | rfl <;> simp
theorem Sg.toks (xs : List Nat) : ∀ c, some c ∈ xs.flatMap tokOf → Sg c := fun c hc => by
  obtain ⟨x, _, hc⟩ := List.mem_flatMap.mp hc
  unfold tokOf at hc
  split at hc
  · simp at hc
  · split at hc
    · simp at hc; rw [hc]; exact Sg.sign x
    · cases hc
theorem Sg.name (xs : List Nat) : ∀ c ∈ xs.flatMap nameOf, Sg c := fun c hc => by
  obtain ⟨x, _, hc⟩ := List.mem_flatMap.mp hc
  unfold nameOf at hc
  split at hc
  · cases hc
  · rw [List.mem_singleton.mp hc]; exact Sg.sign x
theorem toks_len (xs : List Nat) : (xs.flatMap tokOf).length ≤ xs.length := by
  have := itemLen xs
  rw [items_tok, List.length_map] at this
  exact this
/-- the lengths of what is dressed -/
def bd : Nat → Nat
  | 0 => 30
  | i + 1 => 2 * bd i + 6
theorem bd_le {i : Nat} (h : i ≤ 3) : bd i ≤ 282 := by
  have : i = 0 ∨ i = 1 ∨ i = 2 ∨ i = 3 := by omega
  rcases this with rfl | rfl | rfl | rfl <;> decide
/-- what the loop keeps -/
structure Kept (i : Nat) (due : Bool) (p : List (Option Nat)) (name : List Nat) : Prop where
  sp : ∀ c, some c ∈ p → Sg c
  sn : ∀ c ∈ name, Sg c
  lp : (patT p).length ≤ bd i
  ln : name.length ≤ bd i
  mat : due = true ↔ Mat p name
theorem Kept.dress {i : Nat} {due : Bool} {p : List (Option Nat)} {name : List Nat} (k : Kept i due p name) (way : Int) : Kept (i + 1) due (dT way p) (dN way name) where
  sp := Sg.dT way k.sp
  sn := Sg.dN way k.sn
  lp := by
    rw [← dressW_patT, dressW_dN]
    have := dN_len way (patT p)
    have := k.lp
    show _ ≤ 2 * bd i + 6
    omega
  ln := by
    have := dN_len way name
    have := k.ln
    show _ ≤ 2 * bd i + 6
    omega
  mat := k.mat.trans (dress_mat way p name).symm
theorem patT_ne10 {p : List (Option Nat)} (h : ∀ c, some c ∈ p → Sg c) : ∀ c ∈ patT p, c ≠ 10 := fun c hc => by
  obtain ⟨t, ht, hc⟩ := List.mem_flatMap.mp hc
  cases t with
  | none => rw [List.mem_singleton.mp hc]; decide
  | some d =>
    have hd := (h d ht).ne10
    have hc : c ∈ barred d := hc
    unfold barred at hc
    split at hc
    · simp only [List.mem_cons, List.not_mem_nil, or_false] at hc
      rcases hc with rfl | rfl | rfl
      · decide
      · exact hd
      · decide
    · rw [List.mem_singleton.mp hc]; exact hd
theorem dN_patT (way : Int) (p : List (Option Nat)) : dN way (patT p) = patT (dT way p) := by rw [← dressW_dN, dressW_patT]
theorem undress_ok (way : Int) (z : List Nat) (hz : z.length ≤ 10000) : (way = 1 ∧ ∃ r, dN way z = [50, 53, 55, 32, 34] ++ r ∧ un257 r = z ∧ r.length ≤ 1000000) ∨ (way ≠ 1 ∧ dN way z = 34 :: (z.flatMap e0 ++ [34])) := by
  by_cases h : way = 1
  · refine .inl ⟨h, z.flatMap e1 ++ [34], ?_, un257_dress z, ?_⟩
    · unfold dN preW ew; rw [if_pos h, if_pos h]
    · have := dN_len way z
      unfold dN ew at this
      rw [if_pos h] at this
      simp only [List.length_append] at *
      omega
  · refine .inr ⟨h, ?_⟩
    unfold dN preW ew; rw [if_neg h, if_neg h]; rfl
theorem fo_nil {B : Shared} : FoAt B [] [] := ⟨rfl, (fun _ h => nomatch h), (fun _ h => nomatch h)⟩
theorem FoAt.none {B : Shared} {fo : News'} (F : FoAt B [] fo) : fo = [] := by
  have := F.keys
  exact List.map_eq_nil_iff.mp this

end
section
/-! ## the law -/
theorem start_glo {K : Frag} {name : Str} {scope : Scope} {L a : Addr} {cd : Value} {gl : List (Str × Value)} (hgl : gloOk K scope gl = true) : Glo K (envOf name scope L a cd) gl := by
  refine ⟨rfl, rfl, fun p hp => ?_⟩
  unfold gloOk at hgl
  have := List.all_eq_true.mp hgl p hp
  simp only [Bool.and_eq_true, beq_iff_eq, Bool.not_eq_true'] at this
  obtain ⟨⟨a, b⟩, c⟩ := this
  refine ⟨a, b, ?_⟩
  split at c
  · rename_i v e; exact .inl (by rw [e, of_decide_eq_true c])
  · rename_i e
    simp only [Bool.and_eq_true, decide_eq_true_eq, Bool.not_eq_true', beq_eq_false_iff_ne] at c
    exact .inr ⟨e, c.1, c.2⟩
  · cases c
theorem start_st {name : Str} {scope : Scope} {L a : Addr} {cd : Value} {g : Heap} {s : Shared} {m : Str → Option Value} {binds : List (Str × Value)} {more : List Str} {P : Addr} {o : Obj}
    (F : Fr g L s.heap m) (N : News g L s.heap [(P, o)]) (hm : ∀ x, m x = List.lookup x binds.reverse) (ht : 1 ≤ s.toks) (hok : bodyOk scope (binds.map (·.1)) more = true) :
    St s g (envOf name scope L a cd) (startVals binds more) s [(P, o)] := by
  unfold bodyOk at hok
  simp only [Bool.and_eq_true, List.all_eq_true, beq_iff_eq, Bool.not_eq_true', decide_eq_true_eq, bne_iff_ne, ne_eq] at hok
  obtain ⟨⟨⟨⟨⟨h1, h2⟩, h3⟩, h4⟩, h5⟩, h6⟩ := hok
  refine ⟨⟨m, ⟨F, N, by simp⟩, ?_⟩, ?_, ?_, h6, ht, Rest.rfl, Up.rfl⟩
  · intro p hp
    have nd' : (binds.map (·.1)).Nodup := (List.nodup_append.mp h2).1
    rw [hm]
    rcases List.mem_append.mp hp with hp | hp
    · obtain ⟨q, hq, rfl⟩ := List.mem_map.mp hp
      exact lookup_rev nd' hq
    · obtain ⟨q, hq, rfl⟩ := List.mem_map.mp hp
      exact lookup_rev_none fun z => (List.nodup_append.mp h2).2.2 _ z _ hq rfl
  · intro p hp
    refine h1 p.1 ?_
    rcases List.mem_append.mp hp with hp | hp
    · obtain ⟨q, hq, rfl⟩ := List.mem_map.mp hp
      exact List.mem_append_left _ (List.mem_map_of_mem hq)
    · obtain ⟨q, hq, rfl⟩ := List.mem_map.mp hp
      exact List.mem_append_right _ hq
  · have : (startVals binds more).map (·.1) = binds.map (·.1) ++ more := by
      unfold startVals; rw [List.map_append, List.map_map, List.map_map]; congr 1; exact List.map_id _
    rw [this]; exact h2
theorem room0 (env : Env) : Room (callerA.deeper env) 30 := ⟨rfl, by show 1 + claimMargin + 1 + 30 < recursionLimit; decide +kernel, by show callerA.units + _ + 10 * 30 < cLine; decide +kernel⟩
theorem law_go {K : Frag} {prog : Program} {w : World} {name : Str} {scope : Scope} {L a : Addr} {cd : Value} {g : Heap} {s : Shared} {m : Str → Option Value} {binds : List (Str × Value)} {more : List Str} {P : Addr} {o : Obj} {gl : List (Str × Value)}
    {body : List Stmt} {Q : Flow → Shared → Prop} {E : Value → Shared → Prop} (F : Fr g L s.heap m) (N : News g L s.heap [(P, o)]) (hm : ∀ x, m x = List.lookup x binds.reverse) (ht : 1 ≤ s.toks) (hok : bodyOk scope (binds.map (·.1)) more = true)
    (hgl : gloOk K scope gl = true)
    (k : ∀ env A, env.locals = L → Room A 30 → env.frame = some env.locals → A.frames = some (env :: []) → Glo K env gl → St s g env (startVals binds more) s [(P, o)] →
      wpAny (model prog w) A (execs body env) Q (fun _ _ => False) s) :
    wpAny (model prog w) (callerA.deeper (envOf name scope L a cd)) (execs body (envOf name scope L a cd)) Q E s :=
  wpAny_mono (k (envOf name scope L a cd) _ rfl (room0 _) rfl rfl (start_glo hgl) (start_st F N hm ht hok)) (fun _ _ h => h) fun _ _ h => h.elim
theorem comp_glo {K : Frag} {B : Shared} {g : Heap} {vals : Vals} {s : Shared} {news : News'} {scope : Scope} {cl : List (Str × Addr)} {C : Addr} {env : Env} {gl0 : List (Str × Value)} {x : Str} {v : Value} (D : St B g (compEnvC scope cl C env) vals s news) (H : Glo K env gl0)
    (hk : (compEnvC scope cl C env).kindOf x = some .globalImplicit) (hd : (x == ("__debug__" : Str)) = false) (hn : nsIn K mainGlobals x = some (some v)) : Glo K (compEnvC scope cl C env) [(x, v)] :=
  ⟨H.glo, H.bui, fun p hp => by rw [List.mem_singleton.mp hp]; exact ⟨hk, hd, .inl hn⟩⟩
abbrev lV (l : Addr) (v1 v2 v3 v4 v5 v6 v7 v8 v9 : Option Value) : Vals := [(Str.ofString "script", some (.ref l)), (Str.ofString "numbers", v1), (Str.ofString "items", v2), (Str.ofString "name", v3), (Str.ofString "due", v4), (Str.ofString "pattern", v5), (Str.ofString "total", v6), (Str.ofString "way", v7), (Str.ofString "outer", v8), (Str.ofString "worn", v9)]
theorem last : PySem.Challenge.rw_kt0083_01.Holds := hd (by
  w_on
  k_go0
  rename Frag.In _ _ => X0
  rename Top _ _ _ _ _ _ => T0
  rename Fr _ _ _ _ => F0
  rename News _ _ _ _ => N0
  rename IntsAre _ _ => hI
  rename Shared.gens _ = #[] => hgens
  rename ¬ _ < _ => hlen
  rename World => w
  rename Addr => l0
  have S : Sta (hd.heap_39 w.params) _ := ⟨X0, ⟨_, _, T0.g, T0.b, T0.builtins⟩, T0.nolimit, let ⟨bm, ob, h1, h2, h3, h4, h5, h6⟩ := T0.bmain; ⟨_, bm, ob, T0.g, h1, h2, h3, h4, h5, h6⟩⟩
  have hT0 : Tab lamPos #[] := .inl rfl
  clear X0 T0
  refine law_go (K := hd.heap_39 w.params) (binds := [(Str.ofString "script", .ref _)]) (more := [Str.ofString "numbers", Str.ofString "items", Str.ofString "name", Str.ofString "due", Str.ofString "pattern", Str.ofString "total", Str.ofString "way", Str.ofString "outer", Str.ofString "worn"])
    (gl := [(Str.ofString "_law_drawn", .ref 844), (Str.ofString "_law_fits", .ref 849), (Str.ofString "_law_takes", .ref 830), (Str.ofString "_law_pieces", .ref 823), (Str.ofString "translate", .ref 56),
      (Str.ofString "_law_dressed", .ref 856), (Str.ofString "_law_undressed", .ref 863), (Str.ofString "len", .builtin "len"), (Str.ofString "sum", .builtin "sum")]) F0 N0 (fun x => rfl) ?ht ?hok ?hgl ?_
  case ht => exact Nat.le_add_left _ _
  case hok => kernel_rfl
  case hgl => kernel_rfl
  clear F0 N0
  generalize hg0 : ghostOf _ [(74, 70)] = g at S lifted ⊢
  intro env A hL hA' hfm hfr H D
  dsimp only
  generalize hB : (Shared.mk _ _ _ _ _ : Shared) = B at D ⊢
  replace D : St B _ env (lV l0 none none none none none none none none none) B [(70, tabObj #[])] := D
  have hbk : env.blockKind = .function := by unfold Env.blockKind; rw [D.kind]; rfl
  have hkN : env.kindOf (Str.ofString "numbers") = some .local := (D.loc (Str.ofString "numbers", none) (by simp)).1
  refine wpAny_execs_cons ?_
  refine' r_listcomp_assign (K := hd.heap_39 w.params) (cl := []) ?hsw hA'.hd ?hclos ?hcell ?hkind ?hnames ?hx ?hd ?_
  case hsw => unfold swapsWith; dsimp only; rw [hbk, hkN]; rfl
  case hclos => rfl
  case hcell => decide
  case hkind => rfl
  case hnames => decide
  case hx => rfl
  case hd => decide
  wtm_at "ms"
  have hvl := hI.length
  refine r_slice_ints D (let ⟨o, ho, r⟩ := lifted; ⟨o, D.keep _ _ ho, r⟩) .none (.int _ _) (kmk_upto hI (by decide)) (by omega) (fun l1 vs1 s hvs1 hl1 D => ?_) (by with_unfolding_all rfl) (by intro _; with_unfolding_all rfl)
  obtain ⟨ms, hvs1, hms7⟩ : ∃ ms : List Int, Nums vs1 ms ∧ ms.length ≤ 7 := ⟨_, hvs1, List.length_take_le _ _⟩
  refine ⟨_, _, _, _, l1, vs1, 0, fun j ys => Nums ys (((ms.take j).map fun x => (x % 1000000).toNat).map Nat.cast), rfl, D, S, by wtm_at "has", .nil, ?hlen, ?step, fun acc => lV l0 (some (.ref acc)) none none none none none none none none, fun acc => .tail .head, ?fin⟩
  case hlen =>
    intro j ys hR
    have h1 := hR.len
    rw [List.length_map, List.length_map] at h1
    have := List.length_take_le' j ms
    omega
  case step =>
    intro C B' g' s2 j v ys m acc I2 o2 hold hI2 S' hv2 hR D2
    obtain ⟨x, tx, hx, rfl⟩ := hvs1.got hv2
    have htk : ms.take (j + 1) = ms.take j ++ [x] := by rw [List.take_add_one, hx]; rfl
    replace S := S'
    clear D S'
    have D : St B' g' (compEnvC _ _ C env) _ s2 _ := D2
    clear D2
    rw [List.forIn_nil]
    refine wpAny_pure ?_
    rw [if_pos rfl]
    wtm_at "ms"
    have e : ((x % 1000000).toNat : Int) = x % 1000000 := by omega
    refine ⟨?_, _, D⟩
    rw [htk, List.map_append, List.map_append]
    show Nums _ (_ ++ [((x % 1000000).toNat : Int)])
    rw [e]
    exact hR.snoc
  case fin =>
    intro ys m acc s hR hb D
    rw [hvs1.len, List.take_length] at hR
    replace D := D.drop (news' := [(acc, Lo ys m), (70, tabObj #[])]) (by wtm_at "sub")
    obtain ⟨xs, hR, hx6, hx7⟩ : ∃ xs : List Nat, Nums ys (xs.map Nat.cast) ∧ (∀ x ∈ xs, x < 1000000) ∧ xs.length ≤ 7 := ⟨_, hR, fun x hx => by obtain ⟨y, _, rfl⟩ := List.mem_map.mp hx; omega, by rw [List.length_map]; exact hms7⟩
    clear hvs1 hms7
    replace D : St B _ env (lV l0 (some (.ref acc)) none none none none none none none none) s [(acc, Lo ys m), (70, tabObj #[])] := D
    have hyl := hR.len
    rw [List.length_map] at hyl
    wtm_at "ms"
    refine r_newlist D (by simp) ?_; wtm_at "nl"; intro l2 s hl2 D; wtm_at "ms"
    refine kba_turn (value' := PySem.Expr.Name (PySem.Str.ofString "_") ⟨0, 0, 0, 0⟩) (fun _ => rfl) ?_
    refine r_slice_ints (ms := ([4, 0, 21] : List Int).drop ys.length) D (D.lst (vs := [.int 4 _, .int 0 _, .int 21 _]) (by wtm_at "has")) (.int _ _) .none (kmk_from (.cons _ _ (.cons _ _ (.cons _ _ .nil))) (Int.natCast_nonneg _)) (by simp) (fun l3 ws s hws hl3 D => ?_) (by with_unfolding_all rfl) (by intro _; with_unfolding_all rfl)
    have hwl := hws.len
    rw [List.length_drop] at hwl
    wtm_at "ms"
    refine r_add_lists D (by wtm_at "has") (by wtm_at "has") (by simp at hwl; omega) fun l4 s hl4 D => ?_
    have hN : Nums (ys ++ ws) ((xs ++ ([4, 0, 21] : List Nat).drop xs.length).map Nat.cast) := by
      rw [List.map_append, List.map_drop, ← hyl]
      exact hR.append hws
    obtain ⟨ns, hN, hn6, hn7⟩ : ∃ ns : List Nat, Nums (ys ++ ws) (ns.map Nat.cast) ∧ (∀ x ∈ ns, x < 1000000) ∧ ns.length ≤ 10 := ⟨_, hN, fun x hx => by
      rcases List.mem_append.mp hx with hx | hx
      · exact hx6 x hx
      · have := List.mem_of_mem_drop hx
        simp at this; omega, by rw [List.length_append, List.length_drop]; simp; omega⟩
    generalize ys ++ ws = vs2 at hN D ⊢
    clear hws hR hwl hyl hx6 hx7
    wtm_at "ms"
    refine useR (tDrawn w l4 vs2 _ ns hN hn6 (by omega)) S (hA'.less (by decide)) D (fun p hp => by rw [List.mem_singleton.mp hp]; wtm_at "has") fun v own' s hp hB2 D => ?_
    obtain ⟨a, b, is, k, t, rfl, rfl, his⟩ := hp
    dsimp only [List.cons_append, List.nil_append] at D
    replace D : St B _ env (lV l0 (some (.ref l4)) none none none none none none none none) s [(a, tupObj [.ref b, .str (T (ns.flatMap nameOf)) t]), (b, Lo is k), (l4, Lo vs2 0), (70, tabObj #[])] := D.drop (by wtm_at "sub")
    wtm_at "ms"
    clear hB2
    rw [items_tok] at his
    have hp10 := toks_len ns
    have hn10 := nameLen ns
    have hk0 := Sg.toks ns
    have hk1 := Sg.name ns
    generalize ns.flatMap tokOf = p at his hp10 hk0
    generalize ns.flatMap nameOf = name at D hn10 hk1 ⊢
    refine useR (tFits w b is k p name his (by omega) (by omega) t) S (hA'.less (by decide)) D (fun p hp => by rw [List.mem_singleton.mp hp]; wtm_at "has") fun v own' s hp hB2 D => ?_
    obtain ⟨rfl, rfl⟩ := hp
    have hlp := (patT_len p).2
    have hK : Kept 0 (decide (name.length ∈ p.foldl (plStep name) [0])) p name := ⟨hk0, hk1, by show _ ≤ 30; omega, by show _ ≤ 30; omega, by rw [decide_eq_true_iff]; exact places_mat name p⟩
    generalize decide (name.length ∈ p.foldl (plStep name) [0]) = due at hK D ⊢
    clear hB2 hk0 hk1
    dsimp only [List.cons_append, List.nil_append] at D
    wtm_at "ms"
    refine' r_listcomp (K := hd.heap_39 w.params) (cl := []) hA'.hd ?hclos ?hcell ?hkind ?hnames ?hx ?hd ?_
    case hclos => rfl
    case hcell => decide
    case hkind => rfl
    case hnames => decide
    case hx => rfl
    case hd => decide
    wtm_at "ms"
    have hisl := his.len
    rw [List.length_map] at hisl
    refine ⟨_, _, _, _, b, is, k, fun j ys => Txts ys ((p.take j).map tokT), rfl, D, S, by wtm_at "has", .nil, ?hlen, ?step, ?fin⟩
    case hlen =>
      intro j ys hR
      have h1 := hR.len
      rw [List.length_map] at h1
      have := List.length_take_le' j p
      omega
    case step =>
      intro C B' g' s2 j v ys m acc I2 o2 hold hI2 S' hv2 hR D2
      obtain ⟨li, ti, hli, rfl⟩ := his.got hv2
      rw [List.getElem?_map] at hli
      cases hpj : p[j]? with
      | none => rw [hpj] at hli; cases hli
      | some tok =>
      rw [hpj] at hli
      cases hli
      have htk : p.take (j + 1) = p.take j ++ [tok] := by rw [List.take_add_one, hpj]; rfl
      replace S := S'
      clear D S'
      have D : St B' g' (compEnvC _ _ C env) _ s2 _ := D2
      clear D2
      have H := comp_glo (x := Str.ofString "_law_barred") (v := .ref 816) D H (by rfl) (by decide) (by kernel_rfl)
      rw [List.forIn_nil]
      refine wpAny_pure ?_
      rw [if_pos rfl]
      cases tok with
      | none =>
        wtm_at "ms"
        refine ⟨?_, _, D⟩
        show Txts _ ((p.take (j + 1)).map tokT)
        rw [htk, List.map_append]
        exact hR.snoc
      | some c =>
        wtm_at "ms"
        refine use0 (tBarred w c _) S (hA'.less (by decide)) D fun v own' s hp D => ?_
        obtain ⟨t, rfl, rfl⟩ := hp
        refine ⟨?_, _, D⟩
        show Txts _ ((p.take (j + 1)).map tokT)
        rw [htk, List.map_append]
        exact hR.snoc
    case fin =>
      intro ys m acc s hR hb D
      rw [hisl, List.take_length] at hR
      have hjl : (p.map tokT).flatten.length ≤ 1000000 := by
        rw [← List.flatMap_def]
        show (patT p).length ≤ _
        omega
      wtm_at "ms"
      refine r_sum hA'.hd D (by wtm_at "has") hN fun tt s D => ?_
      generalize (ns.map Nat.cast : List Int).sum = tot at D ⊢
      replace D := D.drop (news' := [(l4, Lo vs2 0), (70, tabObj #[])]) (by wtm_at "sub")
      rw [← List.flatMap_def] at D
      wtm_at "ms"
      replace D := D.drop (news' := ([] : News') ++ [(70, tabObj #[])]) (List.sublist_cons_self _ _)
      obtain ⟨pf, r, Bd⟩ := bridge p hK.sp (Nat.le_trans hK.lp (by decide))
      refine useT (news := []) (tTranslate w p Bd.good Bd.hb _ pf r Bd.hpf Bd.mid Bd.len Bd.pn) hT0 S (hA'.less (by decide)) D (fun p hp => nomatch hp) fun v own' ps2 s hp hTab2 hB2 D => ?_
      obtain ⟨t2, rfl, rfl⟩ := hp
      dsimp only [List.nil_append] at D
      rw [Bd.txt]
      wtm_at "ms"
      refine use0 (tPieces w (pcs p) Bd.ne Bd.piece Bd.tl _) S (hA'.less (by decide)) D fun v own' s hp D => ?_
      obtain ⟨l5, vs5, n5, rfl, rfl, hx5⟩ := hp
      wtm_at "ms"
      refine useR (tTakes w l5 vs5 n5 (pcs p) name hx5 Bd.ne Bd.pl Bd.pcl (by omega) _) S (hA'.less (by decide)) D (fun p hp => by rw [List.mem_singleton.mp hp]; exact D.get List.mem_cons_self) fun v own' s hp hB2 D => ?_
      obtain ⟨b5, rfl, hb5, rfl⟩ := hp
      obtain rfl : b5 = due := by rw [Bool.eq_iff_iff]; exact (hb5.trans (fit_pcs p name)).trans hK.mat.symm
      wtm_at "ms"
      refine ne_bools ?_
      rw [beq_self_eq_true, show (!true) = false from rfl]
      wtm_at "ms"
      refine r_for hA'.hd ?_
      wtm_at "ms"
      dsimp only [List.cons_append, List.nil_append] at D
      replace D := D.drop (news' := [(70, tabObj ps2)]) (by wtm_at "sub")
      refine r_newlist_n (.cons (.cons (.cons .nil))) D (by simp) fun W vw s hW hWl D => ?_
      have hWl : vw.length = 3 := hWl
      refine ⟨_, _, _, _, W, vw, 0, fun I o i s => ∃ (p : List (Option Nat)) (name : List Nat) (tp tn : Tok) (ps : Array Value) (vwy vo vr : Option Value), Kept i b5 p name ∧ Tab lamPos ps ∧
        St B g env (lV l0 (some (.ref l4)) (some (.ref b)) (some (.str (T name) tn)) (some (.bool b5)) (some (.str (T (patT p)) tp)) (some (.int tot tt)) vwy vo vr) s [(I, o), (W, Lo vw 0), (70, tabObj ps)],
        rfl, D, by wtm_at "has", fun I o s' D' => ⟨p, name, _, _, ps2, _, _, _, hK, hTab2, D'⟩, ?_⟩
      clear D hK hTab2 Bd hb5 hx5
      rintro I o i s hi ⟨p, name, tp, tn, ps, vwy, vo, vr, hK, hTab, D⟩
      refine ⟨_, _, _, 0, _, _, D, by wtm_at "has", fun o' => ⟨_, by wtm_at "turn", fun v s hv D => ?_⟩, fun hi s D => ?_⟩
      · obtain ⟨wy, tw, _, rfl⟩ := hW.got hv
        have hi3 : i < 3 := by
          obtain ⟨h, _⟩ := List.getElem?_eq_some_iff.mp hv
          omega
        have hbd := bd_le (Nat.le_of_lt hi3)
        have hKd := hK.dress wy
        have hbd2 : bd (i + 1) ≤ 282 := bd_le hi3
        have h1 := hK.lp
        have h2 := hK.ln
        have h3 := hKd.lp
        have h4 := hKd.ln
        wtm_at "ms"
        refine use0 (tDressed w wy (patT p) (by omega) _ _) S (hA'.less (by decide)) D fun v own' s hp D => ?_
        obtain ⟨to, rfl, rfl⟩ := hp
        rw [dressW_dN]
        dsimp only [List.nil_append] at D
        wtm_at "ms"
        refine use0 (tDressed w wy name (by omega) _ _) S (hA'.less (by decide)) D fun v own' s hp D => ?_
        obtain ⟨tr, rfl, rfl⟩ := hp
        rw [dressW_dN]
        dsimp only [List.nil_append] at D
        wtm_at "ms"
        have hu : A.units < cLine := by have := hA'.un; omega
        refine wpAny_call (useEn (news := [(I, o'), (W, Lo vw 0), (70, tabObj ps)]) (fo := []) (tUndressed w wy (dN wy (patT p)) (patT p) (by omega) (patT_ne10 hK.sp) (undress_ok wy _ (by omega)) _ _) S (hA'.less (by decide)) hfm hfr fo_nil (fun b hb => nomatch hb) D fun r own' fo' s hp hB F D => ?_)
        obtain ⟨lu, mu, tu, rfl, rfl⟩ := hp
        obtain rfl := F.none
        dsimp only [List.nil_append, List.cons_append, List.append_nil] at D
        wtm_at "ms"
        refine r_newlist D (by simp) ?_; wtm_at "nl"; intro q1 s hq1 D
        refine ne_txt (by wtm_at "has") (by wtm_at "has") hu ?_
        wtm_at "ms"
        replace D := D.drop (news' := [(I, o'), (W, Lo vw 0), (70, tabObj ps)]) (by wtm_at "sub")
        refine wpAny_call (useEn (news := [(I, o'), (W, Lo vw 0), (70, tabObj ps)]) (fo := []) (tUndressed w wy (dN wy name) name (by omega) (fun c hc => (hK.sn c hc).ne10) (undress_ok wy _ (by omega)) _ _) S (hA'.less (by decide)) hfm hfr fo_nil (fun b hb => nomatch hb) D fun r own' fo' s hp hB F D => ?_)
        obtain ⟨lu2, mu2, tu2, rfl, rfl⟩ := hp
        obtain rfl := F.none
        dsimp only [List.nil_append, List.cons_append, List.append_nil] at D
        wtm_at "ms"
        refine r_newlist D (by simp) ?_; wtm_at "nl"; intro q2 s hq2 D
        refine ne_txt (by wtm_at "has") (by wtm_at "has") hu ?_
        wtm_at "ms"
        replace D := D.drop (news' := [(I, o'), (W, Lo vw 0), (70, tabObj ps)]) (by wtm_at "sub")
        rw [dN_patT] at D
        rw [dN_patT]
        obtain ⟨pf, r, Bd⟩ := bridge (dT wy p) hKd.sp (by omega)
        refine useT (news := [(I, o'), (W, Lo vw 0)]) (tTranslate w (dT wy p) Bd.good Bd.hb _ pf r Bd.hpf Bd.mid Bd.len Bd.pn) hTab S (hA'.less (by decide)) D (fun p hp => nomatch hp) fun v own' ps2 s hp hTab2 hB2 D => ?_
        obtain ⟨t2, rfl, rfl⟩ := hp
        dsimp only [List.nil_append, List.cons_append] at D
        rw [Bd.txt]
        wtm_at "ms"
        refine use0 (tPieces w (pcs (dT wy p)) Bd.ne Bd.piece Bd.tl _) S (hA'.less (by decide)) D fun v own' s hp D => ?_
        obtain ⟨l5, vs5, n5, rfl, rfl, hx5⟩ := hp
        dsimp only [List.nil_append, List.cons_append] at D
        wtm_at "ms"
        refine useR (tTakes w l5 vs5 n5 (pcs (dT wy p)) (dN wy name) hx5 Bd.ne Bd.pl Bd.pcl (by omega) _) S (hA'.less (by decide)) D (fun p hp => by rw [List.mem_singleton.mp hp]; exact D.get List.mem_cons_self) fun v own' s hp hB2 D => ?_
        obtain ⟨b6, rfl, hb6, rfl⟩ := hp
        obtain rfl : b6 = b5 := by rw [Bool.eq_iff_iff]; exact (hb6.trans (fit_pcs _ _)).trans hKd.mat.symm
        dsimp only [List.nil_append, List.cons_append] at D
        wtm_at "ms"
        refine ne_bools ?_
        rw [beq_self_eq_true, show (!true) = false from rfl]
        wtm_at "ms"
        exact ⟨dT wy p, dN wy name, _, _, ps2, _, _, _, hKd, hTab2, D.drop (by wtm_at "sub")⟩
      · wtm_at "ms"
        obtain ⟨mF, LF, _⟩ := id D.led
        obtain ⟨r1, r2, r3⟩ := D.rest
        show GoodW _ _ _ _ _ (.ok (.ret (.bool true))) _ ∧ _
        refine ⟨goodW_bool LF.fr (r1.trans (by rw [← hB]; exact hgens)) (raisesW_false ?hn) ?hp (r3.trans (by rw [← hB])), ⟨ps, D.get (by simp)⟩, trivial⟩
        case hn => wrow_none_raised
        case hp => wrow_post)

end
end Mine
set_option maxRecDepth 100000 in
set_option maxHeartbeats 8000000 in
theorem PySem.Challenge.cw_kt0083_01_holds : PySem.Challenge.rw_kt0083_01.Holds := by
  exact Mine.last
