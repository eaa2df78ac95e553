import PyProof.Rows.All
import Wide.All
import OpenK.AllK
import Wide.FinOn
import PySem.Challenge.RW_yd0003_04
set_option compiler.extract_closed false
section
open PySem PySem.W PySem.W.X PyProof.Rows
set_option Elab.async false
set_option maxRecDepth 100000
namespace Mine
/-- the top, run over a tree of objects -/
noncomputable def goT (thr ok : Thread → Bool) (st : SharedT → Thread → Option (SharedT × Thread)) : Nat → SharedT → Thread → Option SharedT
  | 0, _, _ => none
  | n + 1, s, t => match thr t with
    | true => some s
    | false => match ok t with
      | false => none
      | true => match st s t with
        | some (s', t') => goT thr ok st n s' t'
        | none => none
theorem goT_of {tb : String → Option Builtin} {p : Program} {w : World} {n₀ : Nat} {ann : Option Value} : ∀ {n : Nat} {s s' : SharedT} {t : Thread}, goT through (stepOk n₀ ann) (stepT (denote tb) p w) n s t = some s' → topRun tb p w n₀ ann n s.abs t = some s'.abs
  | 0, _, _, _, h => by cases h
  | n + 1, s, s', t, h => by
    unfold goT at h
    unfold topRun
    cases he : through t with
    | true => rw [he] at h; cases h; rfl
    | false =>
      rw [he] at h
      cases hk : stepOk n₀ ann t with
      | false => rw [hk] at h; cases h
      | true =>
        rw [hk] at h
        cases hs : stepT (denote tb) p w s t with
        | none => rw [hs] at h; cases h
        | some r => obtain ⟨s₂, t₂⟩ := r; rw [hs] at h; simp only [stepT_spec hs]; exact goT_of h
noncomputable def treeL : List Obj → Nat → BT → BT
  | [], _, t => t
  | o :: r, n, t => treeL r (n + 1) (t.ins n o)
noncomputable def boot0 (P : Params) : BT := treeL (boot_heap P).objs.toList 0 .nil
theorem boot_tree (P : Params) : absHeap (boot0 P) (boot_heap P).objs.size (boot_heap P).life = boot_heap P := by kernel_rfl
noncomputable def bootT (w : World) (os : OsState) : SharedT := ⟨boot0 w.params, (boot_heap w.params).objs.size, (boot_heap w.params).life, Array.mk [], boot_drawn, boot_toks, os⟩
theorem boot_abs (w : World) (os : OsState) : (bootT w os).abs = ⟨boot_heap w.params, Array.mk [], boot_drawn, boot_toks, os⟩ := by
  unfold bootT SharedT.abs
  dsimp only
  rw [boot_tree]
noncomputable abbrev topT (p : Program) (w : World) (os : OsState) (N : Nat) : Option SharedT :=
  goT through (stepOk (boot_heap w.params).objs.size ((boot_heap w.params).nsMap mainGlobals "__annotations__")) (stepT (denote treeTable) p w) N (bootT w os) (topStub p)
theorem left_of {p q : Program} {loose : List Str} {Xt : Shared → Bool} {α : Type} {Yf : Shared → α} {Ya : World → α} {N : Nat} (hb : ∀ w : World, (fencedOpening treeTable p w N).map (fun s => (s.heap, s.gens, s.drawn, s.toks)) = some (boot_heap w.params, Array.mk [], boot_drawn, boot_toks))
    (hg : ∀ w : World, ((boot_heap w.params).isNs mainGlobals && (Array.mk [] : Array GenState).size == 0) = true)
    (h : ∀ (w : World) (os : OsState), (topT p w os N).map (fun s => (staticsOk (importedModules p.main.body) (boot_heap w.params) s.abs.heap && namesBound p s.abs.heap && gensDone s.abs && laidKept (boot_heap w.params) s.abs.heap, openSeen q loose (importedModules p.main.body) Xt true s.abs, Yf s.abs)) = some (true, openGood q loose, Ya w)) :
    LeftO p q loose Xt Yf Ya N true := fun w => by
  obtain ⟨⟨hp, g, d, k, os⟩, hs, e⟩ := Option.map_eq_some_iff.mp (hb w)
  obtain ⟨rfl, rfl, rfl, rfl⟩ : hp = _ ∧ g = _ ∧ d = _ ∧ k = _ := by simpa using e
  obtain ⟨s, h1, h2⟩ := Option.map_eq_some_iff.mp (h w os)
  have r := goT_of h1
  rw [boot_abs] at r
  obtain ⟨h2, h3⟩ := Prod.mk.inj h2
  unfold openEnds
  rw [hs]
  show (topFrom treeTable p w N _).map _ = _
  unfold topFrom
  simp only [hg w, r, Option.bind_some, h2]
  exact congrArg some h3
noncomputable def vw : Program := view PySem.Challenge.pw_yd0003_04 [0, 2, 3, 5, 6, 8, 9, 10, 11, 12, 13, 14]
set_option maxHeartbeats 0 in
theorem lawSaid : PySem.Challenge.rw_yd0003_04.wellSaid = true := by
  rw [PySem.W.Fast.te9446332074065402090]
  kernel_rfl
local macro_rules | `(tactic| o_law) => `(tactic| refine holds_law lawSaid fun said => ?_)
local macro_rules | `(tactic| k_head) => `(tactic| x_head)
local macro_rules | `(tactic| o_head $H) => `(tactic| (
  refine holds_openX (q := vw) (loose := [Str.ofString "GenericMatrix"]) (Xt := fun s => xlAt vw [] s && recOk (RowW.records PySem.Challenge.rw_yd0003_04.row.toRowW) s) (XP := XL vw []) (Yf := Hook.obs $H) (Ya := Hook.val $H) (N := 5174) ?hl (fun s e => xl_of s (Bool.and_eq_true_iff.mp e).1) XL.keeps (by rfl) (by rfl) (by rfl) (fun s e => recFacts_of (Bool.and_eq_true_iff.mp e).2) (by rfl) (by first | assumption | decide +kernel) (by decide +kernel) ⟨rfl, rfl, rfl, rfl, rfl, by decide +kernel⟩ ?hw ?hc
  case hl =>
    refine left_of (boot_open (by kernel_rfl) (by decide +kernel) fun _ => rfl) (fun w => by kernel_rfl) fun w os => ?_
    unfold topT
    rw [PySem.W.Fast.te10156331382660048174, PySem.W.Fast.te11892475500146522536, PySem.W.Fast.te6613529449190102663, PySem.W.Fast.te14364793385576792824, PySem.W.Fast.te4187177175401517315, PySem.W.Fast.te5923862056798008813]
    kernel_rfl))
set_option maxHeartbeats 0 in
open_top hd for PySem.Challenge.rw_yd0003_04
end Mine
end

section
open PySem PySem.W PySem.Calls PyProof.Rows
set_option Elab.async false
set_option linter.unusedSimpArgs false
set_option maxRecDepth 100000
namespace Mine

/-! relations on heaps -/
noncomputable def At (O : List Addr) (h : Heap) (b : Addr) (o : Obj) : Prop := b ∉ O ∧ h.get? b = some o
noncomputable def Up (O : List Addr) (h : Heap) (O' : List Addr) (h' : Heap) : Prop := ∀ b o, At O h b o → At O' h' b o
theorem Up.refl (O : List Addr) (h : Heap) : Up O h O h := fun _ _ x => x
theorem Up.trans {O h O' h' O'' h''} (x : Up O h O' h') (y : Up O' h' O'' h'') : Up O h O'' h'' := fun b o e => y b o (x b o e)
theorem Up.less {O O' : List Addr} {h : Heap} (k : ∀ b ∈ O', b ∈ O) : Up O h O' h := fun b o e => ⟨fun q => e.1 (k b q), e.2⟩
theorem At.up {O h O' h' b o} (x : At O h b o) (u : Up O h O' h') : At O' h' b o := u b o x
theorem At.get {O h b o} (x : At O h b o) : h.get? b = some o := x.2

noncomputable def tabO (vs : Array Value) : Obj := { cls := .none, data := .fields vs }
noncomputable def Tab (T : List Addr) (h : Heap) : Prop := ∀ P ∈ T, ∃ vs : Array Value, h.get? P = some (tabO vs) ∧ TriplesOk vs.toList

structure Cr where
  h : Heap
  g : Array GenState
structure Ext (T W : List Addr) (c c' : Cr) : Prop where
  heap : ∀ b o, b ∉ T → b ∉ W → c.h.get? b = some o → c'.h.get? b = some o
  there : ∀ b o, c.h.get? b = some o → ∃ o', c'.h.get? b = some o'
  tab : Tab T c.h → Tab T c'.h
  gens : (∀ (k : Nat) (y : GenState), c.g[k]? = some y → c'.g[k]? = some y) ∧ (AllBare c.g → AllBare c'.g)

theorem Ext.refl (T W : List Addr) (c : Cr) : Ext T W c c := ⟨fun _ _ _ _ e => e, fun _ o e => ⟨o, e⟩, id, ⟨fun _ _ e => e, id⟩⟩
theorem Ext.trans {T W c c' c''} (x : Ext T W c c') (y : Ext T W c' c'') : Ext T W c c'' := by
  refine ⟨fun b o t w e => y.heap b o t w (x.heap b o t w e), fun b o e => let ⟨o', e'⟩ := x.there b o e; y.there b o' e', fun z => y.tab (x.tab z), ?_⟩
  exact ⟨fun k z e => y.gens.1 k z (x.gens.1 k z e), fun b => y.gens.2 (x.gens.2 b)⟩
/-- all kept, only the heap turns -/
theorem Ext.of_keep {T W : List Addr} {c : Cr} {h' : Heap} (k : ∀ b o, c.h.get? b = some o → h'.get? b = some o) : Ext T W c ⟨h', c.g⟩ :=
  ⟨fun b o _ _ e => k b o e, fun b o e => ⟨o, k b o e⟩, fun z P hP => let ⟨vs, e, q⟩ := z P hP; ⟨vs, k _ _ e, q⟩, ⟨fun _ _ e => e, id⟩⟩
theorem Ext.push {T W : List Addr} {c : Cr} {o : Obj} : Ext T W c ⟨c.h.push o, c.g⟩ := Ext.of_keep (fun _ _ e => Heap.get?_push_of_some _ e)
theorem Ext.wide {T W W' c c'} (x : Ext T W c c') (h : ∀ b ∈ W, b ∈ W') : Ext T W' c c' :=
  ⟨fun b o t w e => x.heap b o t (fun q => w (h b q)) e, x.there, x.tab, x.gens⟩
theorem Ext.nil {T W c c'} (x : Ext T [] c c') : Ext T W c c' := x.wide (by simp)
theorem Ext.up {T W c c'} (x : Ext T W c c') {O : List Addr} (ht : ∀ b ∈ T, b ∈ O) (hw : ∀ b ∈ W, b ∈ O) : Up O c.h O c'.h := fun b o e => ⟨e.1, x.heap b o (fun q => e.1 (ht b q)) (fun q => e.1 (hw b q)) e.2⟩
/-- one object turns -/
theorem Ext.but {T W : List Addr} {c : Cr} {a : Addr} {h' : Heap} (hs : Heap.SameBut a c.h h') (hc : a ∉ T) (hw : a ∈ W) (he : ∃ o, h'.get? a = some o) : Ext T W c ⟨h', c.g⟩ :=
  ⟨fun b o _ w e => (hs.2 b fun q => w (q ▸ hw)).trans e, fun b o e => by
    by_cases q : b = a
    · subst q; exact he
    · exact ⟨o, (hs.2 b q).trans e⟩, fun z P hP => let ⟨vs, e, q⟩ := z P hP; ⟨vs, (hs.2 P fun q => hc (q ▸ hP)).trans e, q⟩, ⟨fun _ _ e => e, id⟩⟩

/-- what turns besides is fresh to an elder state, or may turn there -/
theorem Ext.absorb {T W M cs c c'} (x : Ext T W cs c) (y : Ext T M c c') (h : ∀ b ∈ M, cs.h.get? b = none ∨ b ∈ W) : Ext T W cs c' := by
  refine ⟨fun b o t w e => y.heap b o t (fun q => ?_) (x.heap b o t w e), fun b o e => let ⟨o', e'⟩ := x.there b o e; y.there b o' e', fun z => y.tab (x.tab z), ?_⟩
  · rcases h b q with z | z
    · rw [z] at e; cases e
    · exact w z
  · exact ⟨fun k z e => y.gens.1 k z (x.gens.1 k z e), fun b => y.gens.2 (x.gens.2 b)⟩

/-- a list, told whole -/
noncomputable def LsO (h : Heap) (l : Addr) (items : Array Value) : Prop := ∃ n, h.get? l = some { cls := .type "list", dict := none, data := .seq items n, slots := #[] }
theorem LsO.isL {h l items} (x : LsO h l items) : h.IsList l items := let ⟨n, e⟩ := x; ⟨_, e, rfl, n, rfl⟩
theorem LsO.push {h l items} (x : LsO h l items) (o : Obj) : LsO (h.push o) l items := let ⟨n, e⟩ := x; ⟨n, Heap.get?_push_of_some _ e⟩

/-! names -/
structure Vars (env : Env) (h : Heap) (m : Str → Option Value) : Prop where
  kind : env.scope.kind = .function
  loc : ∃ ml, h.Ns env.locals ml ∧ ∀ x, env.kindOf x = some .local → ml x = m x
  cel : ∀ x c, env.cells.lookup x = some c → (env.kindOf x = some .cell ∨ env.kindOf x = some .free) → h.IsCell c (m x)
  apart : env.cells.Pairwise fun x y => x.2 ≠ y.2
  off : ∀ x c, (x, c) ∈ env.cells → env.locals ≠ c
noncomputable def ownOf (env : Env) : List Addr := env.locals :: env.cells.map (·.2)
theorem own_cell {env : Env} {x c} (h : (x, c) ∈ env.cells) : c ∈ ownOf env := List.mem_cons_of_mem _ (List.mem_map_of_mem (f := Prod.snd) h)

theorem Vars.keeps {env h h' m} (V : Vars env h m) (k : ∀ b ∈ ownOf env, ∀ o, h.get? b = some o → h'.get? b = some o) : Vars env h' m := by
  obtain ⟨ml, hn, hm⟩ := V.loc
  refine ⟨V.kind, ⟨ml, hn.at' fun o e => k _ (List.mem_cons_self ..) o e, hm⟩, fun x c hc hk => ?_, V.apart, V.off⟩
  obtain ⟨o, e, d⟩ := V.cel x c hc hk
  exact ⟨o, k c (own_cell (mem_of_lookup hc)) o e, d⟩

noncomputable def isVar (env : Env) (x : Str) : Bool := match env.kindOf x with
  | some .local => true
  | some .cell | some .free => (env.cells.lookup x).isSome
  | _ => false

/-- where a name is kept -/
noncomputable def Loc (env : Env) (x : Str) (a : Addr) : Prop := (env.kindOf x = some .local ∧ a = env.locals) ∨ (env.kindOf x = some .cell ∧ env.cells.lookup x = some a)
theorem Loc.own {env : Env} {x : Str} {a : Addr} (h : Loc env x a) : a ∈ ownOf env := by
  rcases h with ⟨_, rfl⟩ | ⟨_, h⟩
  · exact List.mem_cons_self ..
  · exact own_cell (mem_of_lookup h)
noncomputable abbrev upd (m : Str → Option Value) (x : Str) (v : Value) : Str → Option Value := fun y => if y = x then some v else m y

section
variable {M : Model} {A : Around} {E : Value → Shared → Prop} {s : Shared} {env : Env} {m : Str → Option Value}
theorem ld_name {x : Str} {v : Value} {Q : Value → Shared → Prop} (V : Vars env s.heap m) (hx : isVar env x = true) (hv : m x = some v) (h : Q v s)
    (hn : (x == ("__classdict__" : Str)) = false) : wpAny M A (loadName env x) Q E s := by
  unfold isVar at hx
  split at hx
  · rename_i q
    obtain ⟨ml, hns, hm⟩ := V.loc
    exact wpAny_loadName_local V.kind q hns ((hm x q).trans hv) h
  · rename_i q
    obtain ⟨c, hc⟩ := Option.isSome_iff_exists.mp hx
    exact wpAny_loadName_cell V.kind q hc (hv ▸ V.cel x c hc (.inl q)) h
  · rename_i q
    obtain ⟨c, hc⟩ := Option.isSome_iff_exists.mp hx
    exact wpAny_loadName_free V.kind q hc (hv ▸ V.cel x c hc (.inr q)) h hn
  · cases hx
theorem ev_name {x : Str} {pos : Pos} {v : Value} {Q : Value → Shared → Prop} (V : Vars env s.heap m) (hv : m x = some v) (h : Q v s) (hx : isVar env x = true := by rfl)
    (hd : (x == ("__debug__" : Str)) = false := by decide) (hn : (x == ("__classdict__" : Str)) = false := by decide) : wpAny M A (eval (.Name x pos) env) Q E s :=
  wpAny_Name (ld_name V hx hv h hn) hd

/-- the store of a name: one own object turns -/
theorem st_name {x : Str} {v : Value} {Q : Unit → Shared → Prop} (V : Vars env s.heap m)
    (h : ∀ c h' tk, Loc env x c → Heap.SameBut c s.heap h' → (∃ o, h'.get? c = some o) → Vars env h' (upd m x v) → Q () { s with heap := h', toks := tk })
    (hx : isVar env x = true) (hf : (env.kindOf x == some .free) = false) : wpAny M A (storeName env x v) Q E s := by
  unfold isVar at hx
  split at hx
  · rename_i q
    obtain ⟨ml, hns, hm⟩ := V.loc
    refine wpAny_storeName_local q hns (fun h' hn' hs' => h env.locals h' _ (.inl ⟨q, rfl⟩) hs' ?_ ⟨V.kind, ⟨_, hn', fun y hy => ?_⟩, fun y c hc hk => ?_, V.apart, V.off⟩) (by rw [V.kind]; rfl)
    · obtain ⟨o, _, _, e, _⟩ := hn'; exact ⟨o, e⟩
    · show (if y = x then some v else ml y) = upd m x v y
      by_cases hyx : y = x
      · simp [hyx, upd]
      · simp [hyx, upd, hm y hy]
    · have hyx : y ≠ x := by rintro rfl; rcases hk with hk | hk <;> (rw [q] at hk; cases hk)
      have := (V.cel y c hc hk).sameBut hs' (Ne.symm (V.off y c (mem_of_lookup hc)))
      simpa [upd, hyx] using this
  · rename_i q
    obtain ⟨c, hc⟩ := Option.isSome_iff_exists.mp hx
    obtain ⟨ml, hns, hm⟩ := V.loc
    refine wpAny_storeName_cell V.kind q hc (V.cel x c hc (.inl q)) fun h' hv' hs' => h c h' s.toks (.inr ⟨q, hc⟩) hs' ?_ ⟨V.kind, ⟨ml, hns.sameBut hs' (V.off x c (mem_of_lookup hc)), fun y hy => ?_⟩, fun y c' hc' hk => ?_, V.apart, V.off⟩
    · obtain ⟨o, e, _⟩ := hv'; exact ⟨o, e⟩
    · have hyx : y ≠ x := by rintro rfl; rw [q] at hy; cases hy
      simp [upd, hyx, hm y hy]
    · by_cases hyx : y = x
      · subst hyx
        rw [hc] at hc'; cases hc'
        simpa [upd] using hv'
      · have := (V.cel y c' hc' hk).sameBut hs' fun e => hyx (name_of_addr V.apart (mem_of_lookup hc') (e ▸ mem_of_lookup hc))
        simpa [upd, hyx] using this
  · rename_i q
    rw [q] at hf; cases hf
  · cases hx
end

/-! the state within a body -/
structure Fx (T W : List Addr) (c₀ c : Cr) (O : List Addr) (env : Env) (m : Str → Option Value) : Prop where
  ext : Ext T W c₀ c
  vars : Vars env c.h m
  own : ∀ b ∈ ownOf env, b ∈ O
  tin : ∀ b ∈ T, b ∈ O
  win : ∀ b ∈ W, b ∈ O
  low : ∀ b ∈ O, ∃ o, c.h.get? b = some o
  new : ∀ b ∈ ownOf env, c₀.h.get? b = none ∧ b ∉ T ∧ b ∉ W
  tab : Tab T c.h

theorem Fx.upE {T W c₀ c O env m c'} (F : Fx T W c₀ c O env m) (x : Ext T W c c') : Up O c.h O c'.h := x.up F.tin F.win
theorem Fx.go {T W c₀ c O env m c'} (F : Fx T W c₀ c O env m) (x : Ext T W c c') : Fx T W c₀ c' O env m :=
  ⟨F.ext.trans x, F.vars.keeps fun b hb o e => x.heap b o (F.new b hb).2.1 (F.new b hb).2.2 e, F.own, F.tin, F.win, fun b hb => by
    obtain ⟨o, e⟩ := F.low b hb
    exact x.there b o e, F.new, x.tab F.tab⟩
theorem Fx.fresh {T W c₀ c O env m b} (F : Fx T W c₀ c O env m) (e : c.h.get? b = none) : b ∉ O := fun q => by obtain ⟨o, e'⟩ := F.low b q; rw [e] at e'; cases e'
theorem Fx.notOwn {T W c₀ c O env m b o} (F : Fx T W c₀ c O env m) (e : c₀.h.get? b = some o) : b ∉ ownOf env := fun q => by have := (F.new b q).1; rw [e] at this; cases this

section
variable {M : Model} {A : Around} {E : Value → Shared → Prop} {c c₀ : Cr} {d : Drawn} {t : Nat} {os : OsState} {env : Env} {m : Str → Option Value} {T W O : List Addr}
theorem fx_store {x : Str} {v : Value} {Q : Unit → Shared → Prop} (F : Fx T W c₀ c O env m)
    (h : ∀ c' t' a, Loc env x a → Fx T W c₀ c' O env (upd m x v) → Up O c.h O c'.h → Ext T [a] c c' → c'.g = c.g → Q () ⟨c'.h, c'.g, d, t', os⟩) (hx : isVar env x = true := by rfl) (hf : (env.kindOf x == some .free) = false := by rfl) :
    wpAny M A (storeName env x v) Q E ⟨c.h, c.g, d, t, os⟩ := by
  refine st_name F.vars (fun a h' tk hl hs he V => ?_) hx hf
  have hc := hl.own
  have up : Up O c.h O h' := fun b o e => ⟨e.1, (hs.2 b fun q => e.1 (q ▸ F.own a hc)).trans e.2⟩
  have kt : ∀ b ∈ T, b ≠ a := fun b hb q => (F.new a hc).2.1 (q ▸ hb)
  have th : ∀ b o, c.h.get? b = some o → ∃ o', h'.get? b = some o' := fun b o e => by
    by_cases q : b = a
    · subst q; exact he
    · exact ⟨o, (hs.2 b q).trans e⟩
  refine h ⟨h', c.g⟩ tk a hl ⟨⟨fun b o t w e => ?_, fun b o e => ?_, fun z P hP => ?_, F.ext.gens⟩, V, F.own, F.tin, F.win, fun b hb => ?_, F.new, fun P hP => ?_⟩ up (Ext.but hs (F.new a hc).2.1 (by simp) he) rfl
  · have hb : b ≠ a := fun q => by rw [q, (F.new a hc).1] at e; cases e
    exact (hs.2 b hb).trans (F.ext.heap b o t w e)
  · obtain ⟨o', e'⟩ := F.ext.there b o e; exact th b o' e'
  · obtain ⟨vs, e, q⟩ := F.ext.tab z P hP
    exact ⟨vs, (hs.2 P (kt P hP)).trans e, q⟩
  · obtain ⟨o, e⟩ := F.low b hb; exact th b o e
  · obtain ⟨vs, e, q⟩ := F.tab P hP
    exact ⟨vs, (hs.2 P (kt P hP)).trans e, q⟩
end

/-! a call of a def of the text -/
noncomputable def bindM : List (Str × Value) → (Str → Option Value) → Str → Option Value
  | [], m => m
  | (n, v) :: r, m => bindM r (upd m n v)
theorem bindL_M {k : Str → Option NameKind} {x : Str} (hx : k x = some .local) : ∀ (bs : List (Str × Value)) (m m' : Str → Option Value), m x = m' x → bindL k bs m x = bindM bs m' x
  | [], _, _, h => h
  | (n, v) :: r, m, m', h => by
    unfold bindL bindM
    refine bindL_M hx r _ _ ?_
    by_cases q : x = n
    · subst q; simp [hx, upd]
    · split
      · simp [upd, q, h]
      · simp [upd, q, h]
theorem bindC_M {k : Str → Option NameKind} {x : Str} (hx : k x ≠ some .local) : ∀ (bs : List (Str × Value)) (m m' : Str → Option Value), m x = m' x → bindC k bs m x = bindM bs m' x
  | [], _, _, h => h
  | (n, v) :: r, m, m', h => by
    unfold bindC bindM
    refine bindC_M hx r _ _ ?_
    by_cases q : x = n
    · subst q; simp [hx, upd]
    · split
      · simp [upd, q, h]
      · simp [upd, q, h]

noncomputable def Rm (n : Nat) (A : Around) : Prop := A.handled = none ∧ A.depth + 20 * n < 1000 ∧ A.units + 100 * n < 9900
theorem Rm.mono {n k : Nat} {A : Around} (h : Rm n A) (hk : k ≤ n) : Rm k A := ⟨h.1, by have := h.2.1; omega, by have := h.2.2; omega⟩
theorem Rm.deeper {n : Nat} {A : Around} {env : Env} (h : Rm (n + 1) A) : Rm n (A.deeper env) :=
  ⟨h.1, by have := h.2.1; show A.depth + 1 + 20 * n < 1000; omega, by have := h.2.2; show A.units + 3 + 100 * n < 9900; omega⟩
theorem Rm.in1 {n : Nat} {A : Around} (h : Rm (n + 1) A) : Rm n A.in1 := ⟨h.1, by have := h.2.1; show A.depth + 20 * n < 1000; omega, by have := h.2.2; show A.units + 1 + 100 * n < 9900; omega⟩
theorem Rm.make {n : Nat} {A : Around} {C : Addr} {vals : List Value} {kw : List (Str × Value)} (h : Rm (n + 1) A) : Rm n (A.under (.builtin "type.__call__" ⟨.ref C :: vals, kw⟩)) := by
  have d : (A.under (.builtin "type.__call__" ⟨.ref C :: vals, kw⟩)).depth = A.depth + 1 := rfl
  have u : (A.under (.builtin "type.__call__" ⟨.ref C :: vals, kw⟩)).units = A.units + 1 := rfl
  exact ⟨h.1, by have := h.2.1; omega, by have := h.2.2; omega⟩
theorem Rm.room {n : Nat} {A : Around} (h : Rm n A) : A.depth < recursionLimit := by have := h.2.1; show A.depth < 1000; omega
theorem Rm.units {n : Nat} {A : Around} (h : Rm n A) : A.units < cLine := by have := h.2.2; show A.units < 9900; omega

/-- what holds about a call: old mutable addresses stand, the tables are well -/
structure Gd (T W O : List Addr) (h : Heap) : Prop where
  tin : ∀ b ∈ T, b ∈ O
  win : ∀ b ∈ W, b ∈ O ∧ b ∉ T
  low : ∀ b ∈ O, ∃ o, h.get? b = some o
  tab : Tab T h
theorem Fx.gd {T W c₀ c O env m} (F : Fx T W c₀ c O env m) : Gd T [] O c.h := ⟨F.tin, by simp, F.low, F.tab⟩
theorem Gd.go {T W W' O c c'} (G : Gd T W O c.h) (x : Ext T W' c c') : Gd T W O c'.h := ⟨G.tin, G.win, fun b hb => by
    obtain ⟨o, e⟩ := G.low b hb
    exact x.there b o e, x.tab G.tab⟩
theorem Gd.up {T W O c c'} (G : Gd T W O c.h) (x : Ext T W c c') : Up O c.h O c'.h := x.up G.tin fun b hb => (G.win b hb).1
theorem Gd.fresh {T W O h b} (G : Gd T W O h) (e : h.get? b = none) : b ∉ O := fun q => by obtain ⟨o, e'⟩ := G.low b q; rw [e] at e'; cases e'

section
variable {prog : Program} {w : World} {A : Around} {E : Value → Shared → Prop} {c : Cr} {d : Drawn} {t : Nat} {os : OsState} {T W O : List Addr} {K : Frag}
theorem fn_code {name qual : Str} {params : Arguments} {body : List Stmt} {scope : Scope} {dV kV doc pm cdv ct oc : Value} {an od : Option Addr} {osl : Array (Option Value)} {f : Addr} {args : Args} {binds : List (Str × Value)} {R : Result → Shared → Prop}
    (hroom : A.depth < recursionLimit) (G : Gd T W O c.h) (X : K.In c.h) (lim : c.h.NoLimit)
    (ho : K.lookup f = some ⟨oc, od, .func (fnOf name qual params body scope dV kV doc pm an cdv ct), osl⟩) (hcd : codeIn K cdv qual = true)
    (hbind : BindsTo ⟨c.h, c.g, d, t, os⟩ (fnOf name qual params body scope dV kV doc pm an cdv ct) args binds)
    (hkind : (binds.all fun y => scope.names.lookup y.1 == some .local || scope.names.lookup y.1 == some .cell) = true)
    (hnd : ((cellsFrom 0 scope.names []).map (·.1)).Nodup) (hco : scope.isCoroutine = false) (hgen : scope.isGenerator = false) (hk : scope.kind = .function)
    (h : ∀ env c₁ t₁, env = envOfC qual scope c.h.objs.size f cdv → Fx T W c c₁ (ownOf env ++ O) env (bindM binds fun _ => none) → Up O c.h (ownOf env ++ O) c₁.h → Ext T [] c c₁ →
      wpAny (model prog w) (A.deeper env) (execs body env) (fun fl s' => R (.ok (.ret (match fl with | .ret v => v | _ => .none))) s')
        (fun e s' => wpAny (model prog w) (A.deeper env) (leaving env e) (fun _ s'' => R (.error e) s'') (fun e' s'' => R (.error e') s'') s') ⟨c₁.h, c₁.g, d, t₁, os⟩) :
    codeAny (model prog w) A (.call (.ref f) args) R ⟨c.h, c.g, d, t, os⟩ := by
  refine codeAny_call_function hroom (X _ _ ho) rfl hco hgen rfl (codeRec_of X hcd) (hbind _ _ _ _ ?_)
  refine wpAny_newFunctionEnv_cells hk (kindsX hkind _) fun env he s' x => ?_
  subst he
  refine ⟨lim.keeps x.toInCall.keep, codeAny_func ?_⟩
  obtain ⟨h₁, tk, rfl, _⟩ := x.done
  have hk₁ : ∀ b o, c.h.get? b = some o → h₁.get? b = some o := x.toInCall.keep
  have hL : ∀ b ∈ ownOf (envOfC qual scope c.h.objs.size f cdv), c.h.objs.size ≤ b := fun b hb => by
    rcases List.mem_cons.mp hb with rfl | hb
    · exact Nat.le_refl _
    · obtain ⟨⟨n, a⟩, hm, rfl⟩ := List.mem_map.mp hb
      exact Nat.le_of_lt (x.above n a hm)
  have hnone : ∀ b, c.h.objs.size ≤ b → c.h.get? b = none := fun b hb => Heap.get?_none_of_le hb
  refine h _ ⟨h₁, c.g⟩ tk rfl ⟨Ext.of_keep hk₁, ⟨hk, ⟨_, x.toInCall.ns, fun y hy => bindL_M hy _ _ _ rfl⟩, fun y a hc hkc => ?_, x.apart, fun n a hm => Nat.ne_of_lt (x.above n a hm)⟩, fun b hb => List.mem_append_left _ hb, fun b hb => List.mem_append_right _ (G.tin b hb), fun b hb => List.mem_append_right _ (G.win b hb).1, fun b hb => ?_, fun b hb => ⟨hnone b (hL b hb), fun q => ?_, fun q => ?_⟩, (Ext.of_keep (T := T) (W := W) hk₁).tab G.tab⟩ (fun b o e => ⟨fun q => ?_, hk₁ b o e.2⟩) (Ext.of_keep hk₁)
  · have hyl : (envOfC qual scope c.h.objs.size f cdv).kindOf y ≠ some .local := fun q => by rcases hkc with e | e <;> (have e' := e.symm.trans q; cases e')
    rw [← bindC_M hyl binds (fun _ => none) (fun _ => none) rfl]
    exact x.cell y a hc
  · rcases List.mem_append.mp hb with hb | hb
    · rcases List.mem_cons.mp hb with rfl | hb
      · obtain ⟨o, _, _, e, _⟩ := x.toInCall.ns; exact ⟨o, e⟩
      · obtain ⟨⟨n, a⟩, hm, rfl⟩ := List.mem_map.mp hb
        obtain ⟨o, e, _⟩ := x.cell n a (lookup_of_mem_nodup (cellsFrom_names scope.names 0 (c.h.objs.size + 1) [] [] rfl ▸ hnd) hm)
        exact ⟨o, e⟩
    · obtain ⟨o, e⟩ := G.low b hb; exact ⟨o, hk₁ b o e⟩
  · obtain ⟨o, e⟩ := G.low b (G.tin b q)
    rw [hnone b (hL b hb)] at e; cases e
  · obtain ⟨o, e⟩ := G.low b (G.win b q).1
    rw [hnone b (hL b hb)] at e; cases e
  · rcases List.mem_append.mp q with q | q
    · have := hnone b (hL b q); rw [e.2] at this; cases this
    · exact e.1 q
end

/-! pure steps, over a state written out -/
section
variable {prog : Program} {w : World} {A : Around} {E : Value → Shared → Prop} {hp : Heap} {g : Array GenState} {d : Drawn} {t : Nat} {os : OsState} {env : Env} {m : Str → Option Value}
theorem x_name {x : Str} {pos : Pos} {v : Value} {Q : Value → Shared → Prop} (V : Vars env hp m) (hv : m x = some v) (h : Q v ⟨hp, g, d, t, os⟩) (hx : isVar env x = true := by rfl)
    (hd : (x == ("__debug__" : Str)) = false := by decide) (hn : (x == ("__classdict__" : Str)) = false := by decide) : wpAny (model prog w) A (eval (.Name x pos) env) Q E ⟨hp, g, d, t, os⟩ := ev_name V hv h hx hd hn
theorem x_load {x : Str} {v : Value} {Q : Value → Shared → Prop} (V : Vars env hp m) (hv : m x = some v) (h : Q v ⟨hp, g, d, t, os⟩) (hx : isVar env x = true := by rfl)
    (hn : (x == ("__classdict__" : Str)) = false := by decide) : wpAny (model prog w) A (loadName env x) Q E ⟨hp, g, d, t, os⟩ := ld_name V hx hv h hn
theorem x_int {i : Int} {k : Nat} {pos : Pos} {Q : Value → Shared → Prop} (h : Q (.int i t) ⟨hp, g, d, t + 1, os⟩) : wpAny (model prog w) A (eval (.Constant (.int i) k pos) env) Q E ⟨hp, g, d, t, os⟩ := wpAny_Constant_int h
theorem x_bool {b : Bool} {k : Nat} {pos : Pos} {Q : Value → Shared → Prop} (h : Q (.bool b) ⟨hp, g, d, t, os⟩) : wpAny (model prog w) A (eval (.Constant (.bool b) k pos) env) Q E ⟨hp, g, d, t, os⟩ := fun _ _ _ => h
theorem x_none {k : Nat} {pos : Pos} {Q : Value → Shared → Prop} (h : Q .none ⟨hp, g, d, t, os⟩) : wpAny (model prog w) A (eval (.Constant .none k pos) env) Q E ⟨hp, g, d, t, os⟩ := fun _ _ _ => h
theorem x_str {x : Str} {k : Nat} {pos : Pos} {Q : Value → Shared → Prop} (h : Q (.str x t) ⟨hp, g, d, t + 1, os⟩) : wpAny (model prog w) A (eval (.Constant (.str x) k pos) env) Q E ⟨hp, g, d, t, os⟩ := Constant_str h
theorem x_add {a b : Int} {u v : Tok} {Q : Value → Shared → Prop} (h : Q (.int (a + b) t) ⟨hp, g, d, t + 1, os⟩) : wpAny (model prog w) A (binaryOp .Add (.int a u) (.int b v)) Q E ⟨hp, g, d, t, os⟩ := add_int h
theorem x_sub {a b : Int} {u v : Tok} {Q : Value → Shared → Prop} (h : Q (.int (a - b) t) ⟨hp, g, d, t + 1, os⟩) : wpAny (model prog w) A (binaryOp .Sub (.int a u) (.int b v)) Q E ⟨hp, g, d, t, os⟩ := sub_int h
theorem x_mul {a b : Int} {u v : Tok} {Q : Value → Shared → Prop} (hm : IntMulOk a b) (h : Q (.int (a * b) t) ⟨hp, g, d, t + 1, os⟩) : wpAny (model prog w) A (binaryOp .Mult (.int a u) (.int b v)) Q E ⟨hp, g, d, t, os⟩ := mul_int h hm
theorem x_mod {a b : Int} {u v : Tok} {Q : Value → Shared → Prop} (hb : b ≠ 0) (h : Q (.int (a.fmod b) t) ⟨hp, g, d, t + 1, os⟩) : wpAny (model prog w) A (binaryOp .Mod (.int a u) (.int b v)) Q E ⟨hp, g, d, t, os⟩ := mod_int hb h
theorem x_lt {a b : Int} {u v : Tok} {Q : Value → Shared → Prop} (h : Q (.bool (decide (a < b))) ⟨hp, g, d, t, os⟩) : wpAny (model prog w) A (compareOp .Lt (.int a u) (.int b v)) Q E ⟨hp, g, d, t, os⟩ := lt_int h
theorem x_gt {a b : Int} {u v : Tok} {Q : Value → Shared → Prop} (h : Q (.bool (decide (b < a))) ⟨hp, g, d, t, os⟩) : wpAny (model prog w) A (compareOp .Gt (.int a u) (.int b v)) Q E ⟨hp, g, d, t, os⟩ := gt_int h
theorem x_eq {a b : Int} {u v : Tok} {Q : Value → Shared → Prop} (h : Q (.bool (a == b)) ⟨hp, g, d, t, os⟩) : wpAny (model prog w) A (compareOp .Eq (.int a u) (.int b v)) Q E ⟨hp, g, d, t, os⟩ := eq_int h
theorem x_ne {a b : Int} {u v : Tok} {Q : Value → Shared → Prop} (h : Q (.bool (a != b)) ⟨hp, g, d, t, os⟩) : wpAny (model prog w) A (compareOp .NotEq (.int a u) (.int b v)) Q E ⟨hp, g, d, t, os⟩ := ne_int h
theorem x_truth {b : Bool} {Q : Bool → Shared → Prop} (h : Q b ⟨hp, g, d, t, os⟩) : wpAny (model prog w) A (truthy (.bool b)) Q E ⟨hp, g, d, t, os⟩ := wpAny_truthy_bool h
theorem x_itemW {value slice : Expr} {a : Addr} {l : List Value} {k : Int} {u : Tok} {x : Value} {Q : Value → Shared → Prop} (hl : hp.IsList a l.toArray)
    (h0 : 0 ≤ k) (hfit : k < 2 ^ 63) (hx : l[k.toNat]? = some x) (h : Q x ⟨hp, g, d, t, os⟩)
    (hs : subscripted slice false (.ref a) (.int k u) = operate [.ref a, .int k u] (getItem (.ref a) (.int k u)) := by with_unfolding_all rfl) :
    wpAny (model prog w) A (subscriptTail value slice (.ref a) (.int k u)) Q E ⟨hp, g, d, t, os⟩ :=
  tail_any hl.typeIs slot_list_getitem.lookup (wpAny_getItem_list (s := ⟨hp, g, d, t, os⟩) hl h0 hfit (by simpa using hx) h) hs
theorem x_item {value slice : Expr} {a : Addr} {l : List Value} {k : Int} {u : Tok} {x : Value} {Q : Value → Shared → Prop} (hl : LsO hp a l.toArray)
    (h0 : 0 ≤ k) (hfit : k < 2 ^ 63) (hx : l[k.toNat]? = some x) (h : Q x ⟨hp, g, d, t, os⟩)
    (hs : subscripted slice false (.ref a) (.int k u) = operate [.ref a, .int k u] (getItem (.ref a) (.int k u)) := by with_unfolding_all rfl) :
    wpAny (model prog w) A (subscriptTail value slice (.ref a) (.int k u)) Q E ⟨hp, g, d, t, os⟩ := x_itemW hl.isL h0 hfit hx h hs
theorem x_getItem {a : Addr} {l : List Value} {k : Int} {u : Tok} {x : Value} {Q : Value → Shared → Prop} (hl : LsO hp a l.toArray)
    (h0 : 0 ≤ k) (hfit : k < 2 ^ 63) (hx : l[k.toNat]? = some x) (h : Q x ⟨hp, g, d, t, os⟩) :
    wpAny (model prog w) A (getItem (.ref a) (.int k u)) Q E ⟨hp, g, d, t, os⟩ := wpAny_getItem_list (s := ⟨hp, g, d, t, os⟩) hl.isL h0 hfit (by simpa using hx) h
/-- a list's place is set: the object is told whole -/
theorem x_setItem {c : Cr} {l : Addr} {items : List Value} {k : Int} {u : Tok} {v : Value} {Q : Unit → Shared → Prop} {T W : List Addr} (hl : LsO c.h l items.toArray) (hT : l ∉ T) (hW : l ∈ W)
    (h0 : 0 ≤ k) (hfit : k < 2 ^ 63) (hn : k.toNat < items.length)
    (hQ : ∀ c', LsO c'.h l (items.set k.toNat v).toArray → Ext T W c c' → Heap.SameBut l c.h c'.h → c'.g = c.g → Q () ⟨c'.h, c'.g, d, t, os⟩) :
    wpAny (model prog w) A (setItem (.ref l) (.int k u) v) Q E ⟨c.h, c.g, d, t, os⟩ := by
  have hw := hl.isL
  obtain ⟨n, ho⟩ := hl
  have hT' : (⟨c.h, c.g, d, t, os⟩ : Shared).TypeIs (.ref l) "list" := hw.typeIs
  have sb : Heap.SameBut l c.h (c.h.update l (Obj.mapSeq (·.setIfInBounds k.toNat v))) := Heap.SameBut.update ..
  have e : items.toArray.setIfInBounds k.toNat v = (items.set k.toNat v).toArray := by simp
  have fin : LsO (c.h.update l (Obj.mapSeq (·.setIfInBounds k.toNat v))) l (items.set k.toNat v).toArray :=
    ⟨if (items.toArray.setIfInBounds k.toNat v).size == items.toArray.size then n else n + 1, by rw [← e]; exact Heap.get?_update_self _ ho rfl⟩
  have done := hQ ⟨_, c.g⟩ fin (Ext.but sb hT hW ⟨_, fin.choose_spec⟩) sb rfl
  unfold setItem
  try with_reducible refine wpAny_holding ?_
  first | refine wpAny_bind (wpAny_pure ?_) | skip
  refine wpAny_bind (wpAny_sequenceKey hT' (by decide) ?_)
  refine wpAny_bind (wpAny_callSpecial?_slot (name := Str.ofString "__setitem__") hT' slot_list_setitem (wpAny_call_entry slot_list_setitem hT' entry_list_setitem ?_ (args_list_setitem _ _ _)))
  show wpAny _ _ (Builtin.List.listSubscript? (.int k u) >>= _) _ _ _
  refine wpAny_bind (wpAny_listSubscript_int (fitsIndex_of h0 hfit) ?_)
  clear hfit
  obtain ⟨j, rfl⟩ := Int.eq_ofNat_of_zero_le h0
  have hj : j < items.length := by simpa using hn
  show wpAny _ _ ((seqItemAt l j >>= fun r => pure (r.map (j, ·))) >>= _) _ _ _
  refine wpAny_bind (wpAny_bind (wpAny_seqItemAt (s := ⟨c.h, c.g, d, t, os⟩) ho rfl (wpAny_pure ?_)))
  rw [show items.toArray[j]? = some items[j] by simp [hj]]
  show wpAny _ _ (setSeqItemAt l j v >>= _) _ _ _
  refine wpAny_bind (wpAny_setSeqItemAt (s := ⟨c.h, c.g, d, t, os⟩) ho rfl ?_)
  first
    | exact wpAny_bind (wpAny_pure (wpAny_pure ⟨.none, rfl, wpAny_pure done⟩))
    | exact wpAny_pure ⟨.none, rfl, wpAny_pure done⟩
theorem x_lenW {l : Addr} {items : List Value} {Q : Value → Shared → Prop} (hl : hp.IsList l items.toArray) (hfit : (items.length : Int) < 2 ^ 63)
    (h : Q (.int items.length (t + 1)) ⟨hp, g, d, t + 1 + 1, os⟩) : wpAny (model prog w) A (call (.builtin "len") [.ref l]) Q E ⟨hp, g, d, t, os⟩ := by
  have := len_list (prog := prog) (w := w) (A := A) (E := E) (s := ⟨hp, g, d, t, os⟩) (Q := Q) hl (by simpa using hfit) (by simpa using h)
  exact this
theorem x_len {l : Addr} {items : List Value} {Q : Value → Shared → Prop} (hl : LsO hp l items.toArray) (hfit : (items.length : Int) < 2 ^ 63)
    (h : Q (.int items.length (t + 1)) ⟨hp, g, d, t + 1 + 1, os⟩) : wpAny (model prog w) A (call (.builtin "len") [.ref l]) Q E ⟨hp, g, d, t, os⟩ := x_lenW hl.isL hfit h
/-- append, the object told whole -/
theorem x_append {c : Cr} {l : Addr} {items : List Value} {v : Value} {Q : Value → Shared → Prop} {T W : List Addr} (hl : LsO c.h l items.toArray) (hT : l ∉ T) (hW : l ∈ W) (hz : items.length ≤ sizeLine)
    (hQ : ∀ c', LsO c'.h l (items ++ [v]).toArray → Ext T W c c' → Heap.SameBut l c.h c'.h → c'.g = c.g → Q .none ⟨c'.h, c'.g, d, t, os⟩) :
    wpAny (model prog w) A (call (.builtin "list.append") [.ref l, v]) Q E ⟨c.h, c.g, d, t, os⟩ := by
  obtain ⟨n, ho⟩ := hl
  refine PyProof.Rows.append_at (s := ⟨c.h, c.g, d, t, os⟩) ho (fun h' sb ho' => ?_) (by simpa using hz)
  have e : items.toArray.push v = (items ++ [v]).toArray := by simp
  rw [e] at ho'
  exact hQ ⟨h', c.g⟩ ⟨_, ho'⟩ (Ext.but sb hT hW ⟨_, ho'⟩) sb rfl
end
end Mine
end

section
open PySem PySem.W PySem.Calls PyProof.Rows
set_option Elab.async false
set_option linter.unusedSimpArgs false
set_option linter.unusedVariables false
namespace Mine

noncomputable abbrev Lst (O : List Addr) (h : Heap) (a : Addr) (vs : List Value) : Prop := a ∉ O ∧ LsO h a vs.toArray
theorem Lst.up {O h a vs O' h'} (x : Lst O h a vs) (u : Up O h O' h') : Lst O' h' a vs := by
  obtain ⟨n, k, e⟩ := x
  exact ⟨(u a _ ⟨n, e⟩).1, k, (u a _ ⟨n, e⟩).2⟩
theorem list_but {h h' : Heap} {l a : Addr} {vs} (x : LsO h l vs) (hs : Heap.SameBut a h h') (ne : l ≠ a) : LsO h' l vs := by
  obtain ⟨k, e⟩ := x
  exact ⟨k, (hs.2 l ne).trans e⟩
theorem list_ext {T W c c'} {l : Addr} {vs} (x : LsO c.h l vs) (e : Ext T W c c') (h1 : l ∉ T) (h2 : l ∉ W) : LsO c'.h l vs := by
  obtain ⟨k, q⟩ := x
  exact ⟨k, e.heap l _ h1 h2 q⟩
theorem list_get {h : Heap} {l vs} (x : LsO h l vs) : ∃ o, h.get? l = some o := let ⟨_, e⟩ := x; ⟨_, e⟩
theorem ints_get {vs ns} (h : IntsAre vs ns) : ∀ {k : Nat}, k < ns.length → ∃ u, vs[k]? = some (.int (ns.getD k 0) u) := by
  induction h with
  | nil => intro k hk; simp at hk
  | cons n u _ ih =>
    intro k hk
    cases k with
    | zero => exact ⟨u, rfl⟩
    | succ k => simpa using ih (k := k) (by simpa using hk)
theorem ifTrue {b : Bool} {P Q : Prop} (e : b = true) (h : P) : if b = true then P else Q := by rw [if_pos e]; exact h
theorem ifFalse {b : Bool} {P Q : Prop} (e : b = false) (h : Q) : if b = true then P else Q := by rw [if_neg (by rw [e]; decide)]; exact h
theorem size_none {h : Heap} : h.get? h.objs.size = none := Heap.get?_none_of_le (Nat.le_refl _)
theorem ne_of_none {h : Heap} {a b : Addr} {o : Obj} (e : h.get? a = none) (e' : h.get? b = some o) : b ≠ a := fun q => by rw [q, e] at e'; cases e'

/-- one fresh object turns: the body's state stands -/
theorem Fx.mut {T W c₀ c O env m a h'} (F : Fx T W c₀ c O env m) (hs : Heap.SameBut a c.h h') (hn : c₀.h.get? a = none) (ho : a ∉ ownOf env) (hO : a ∈ O) (hT : a ∉ T) (he : ∃ o, h'.get? a = some o) :
    Fx T W c₀ ⟨h', c.g⟩ O env m ∧ Up O c.h O h' ∧ Ext T [a] c ⟨h', c.g⟩ := by
  have x : Ext T [a] c ⟨h', c.g⟩ := Ext.but hs hT (by simp) he
  refine ⟨⟨⟨fun b o t w e => ?_, fun b o e => ?_, fun z => x.tab (F.ext.tab z), F.ext.gens⟩, F.vars.keeps fun b hb o e => (hs.2 b fun q => ho (q ▸ hb)).trans e, F.own, F.tin, F.win, fun b hb => ?_, F.new, x.tab F.tab⟩, fun b o e => ⟨e.1, (hs.2 b fun q => e.1 (q ▸ hO)).trans e.2⟩, x⟩
  · exact (hs.2 b (ne_of_none hn e)).trans (F.ext.heap b o t w e)
  · obtain ⟨o', e'⟩ := F.ext.there b o e; exact x.there b o' e'
  · obtain ⟨o, e⟩ := F.low b hb; exact x.there b o e
/-- a fresh object comes in among the mutable ones -/
theorem Fx.more {T W c₀ c O env m a} (F : Fx T W c₀ c O env m) (he : ∃ o, c.h.get? a = some o) : Fx T W c₀ c (a :: O) env m :=
  ⟨F.ext, F.vars, fun b hb => .tail _ (F.own b hb), fun b hb => .tail _ (F.tin b hb), fun b hb => .tail _ (F.win b hb), fun b hb => by
    rcases List.mem_cons.mp hb with rfl | hb
    · exact he
    · exact F.low b hb, F.new, F.tab⟩
/-- the same with a new object pushed -/
theorem Fx.push {T W c₀ c O env m} {o : Obj} (F : Fx T W c₀ c O env m) (hf : o.isFreed = false) :
    Fx T W c₀ ⟨c.h.push o, c.g⟩ (c.h.objs.size :: O) env m ∧ Up O c.h (c.h.objs.size :: O) (c.h.push o) ∧ c.h.get? c.h.objs.size = none := by
  refine ⟨(F.go (Ext.push (o := o))).more ⟨o, Heap.get?_push_size _ hf⟩, fun b ob e => ⟨fun q => ?_, Heap.get?_push_of_some _ e.2⟩, size_none⟩
  rcases List.mem_cons.mp q with rfl | q
  · have := e.2; rw [size_none] at this; cases this
  · exact e.1 q
/-- forget a mutable one: it is frozen -/
theorem Up.drop {O : List Addr} {a : Addr} {h : Heap} : Up (a :: O) h O h := Up.less fun b hb => .tail _ hb

/-! the block of a comprehension -/
noncomputable def closL (cells : List (Str × Addr)) : List (Str × NameKind) → List (Str × Addr) → Option (List (Str × Addr))
  | [], acc => some acc
  | (n, k) :: r, acc => if k == .free then (match cells.lookup n with | some a => closL cells r ((n, a) :: acc) | none => none) else closL cells r acc
theorem closL_forIn {env : Env} (f : Str × NameKind → List (Str × Addr) → Sem (ForInStep (List (Str × Addr))))
    (hf : ∀ n k cs, f (n, k) cs = if k == .free then (do let a ← cellOf env n; pure (.yield ((n, a) :: cs))) else pure (.yield cs)) :
    ∀ (names : List (Str × NameKind)) (acc cl : List (Str × Addr)), closL env.cells names acc = some cl → (forIn names acc f : Sem _) = pure cl
  | [], acc, cl, e => by cases e; rfl
  | (n, k) :: r, acc, cl, e => by
    rw [List.forIn_cons, hf]
    unfold closL at e
    by_cases q : (k == NameKind.free) = true
    · rw [if_pos q] at e ⊢
      split at e
      · rename_i a ha
        have : cellOf env n = pure a := by unfold cellOf; rw [ha]
        rw [this]
        exact closL_forIn f hf r _ cl e
      · cases e
    · rw [if_neg q] at e ⊢
      exact closL_forIn f hf r _ cl e
theorem closL_closureFor {env : Env} {scope : Scope} {cl : List (Str × Addr)} (e : closL env.cells scope.names [] = some cl) : closureFor scope env = pure cl := by
  unfold closureFor
  have h2 : ∀ x : Sem (List (Str × Addr)), x = pure cl → (x >>= fun r => pure r) = pure cl := fun x e => by rw [e]; rfl
  refine h2 _ (closL_forIn _ (fun n k cs => ?_) scope.names [] cl e)
  by_cases q : (k == NameKind.free) = true <;> simp [q]
theorem closL_mem {cells : List (Str × Addr)} : ∀ (names : List (Str × NameKind)) (acc cl : List (Str × Addr)), closL cells names acc = some cl → ∀ x a, (x, a) ∈ cl → (x, a) ∈ acc ∨ (cells.lookup x = some a ∧ (x, NameKind.free) ∈ names)
  | [], acc, cl, e, x, a, h => by cases e; exact .inl h
  | (n, k) :: r, acc, cl, e, x, a, h => by
    unfold closL at e
    split at e
    · rename_i q
      have q : k = NameKind.free := by simpa using q
      subst q
      split at e
      · rename_i b hb
        rcases closL_mem r _ cl e x a h with h | ⟨h, h'⟩
        · rcases List.mem_cons.mp h with h | h
          · cases h; exact .inr ⟨hb, List.mem_cons_self ..⟩
          · exact .inl h
        · exact .inr ⟨h, .tail _ h'⟩
      · cases e
    · rcases closL_mem r _ cl e x a h with h | ⟨h, h'⟩
      · exact .inl h
      · exact .inr ⟨h, .tail _ h'⟩

theorem cellsFrom_mem : ∀ (names : List (Str × NameKind)) (h : Heap) (acc : List (Str × Addr)), (∀ x a, (x, a) ∈ acc → ∃ o, h.get? a = some o) → acc.Pairwise (fun x y => x.2 ≠ y.2) →
    (∀ x a, (x, a) ∈ cellsFrom h.objs.size names acc → (x, a) ∈ acc ∨ ((x, NameKind.cell) ∈ names ∧ (pushCells h names).IsCell a none ∧ h.get? a = none)) ∧
    (cellsFrom h.objs.size names acc).Pairwise (fun x y => x.2 ≠ y.2)
  | [], h, acc, _, hp => ⟨fun x a e => .inl e, hp⟩
  | (n, k) :: r, h, acc, ha, hp => by
    unfold cellsFrom pushCells
    split
    · rename_i q
      have q : k = NameKind.cell := by simpa using q
      subst q
      have e2 : (h.push { cls := .type "cell", data := .cell none }).objs.size = h.objs.size + 1 := Heap.size_push ..
      have ih := cellsFrom_mem r (h.push { cls := .type "cell", data := .cell none }) ((n, h.objs.size) :: acc) (fun x a e => by
        rcases List.mem_cons.mp e with e | e
        · cases e; exact ⟨_, Heap.get?_push_size _ rfl⟩
        · obtain ⟨o, e'⟩ := ha x a e; exact ⟨o, Heap.get?_push_of_some _ e'⟩) (List.pairwise_cons.mpr ⟨fun y hy e => by
          (obtain ⟨o, e'⟩ := ha y.1 y.2 hy)
          (rw [← (show h.objs.size = y.2 from e), size_none] at e')
          (cases e'), hp⟩)
      rw [e2] at ih
      refine ⟨fun x a e => ?_, ih.2⟩
      rcases ih.1 x a e with e | ⟨e, i, z⟩
      · rcases List.mem_cons.mp e with e | e
        · cases e
          exact .inr ⟨List.mem_cons_self .., ⟨_, pushCells_keeps _ _ _ _ (Heap.get?_push_size _ rfl), rfl⟩, size_none⟩
        · exact .inl e
      · refine .inr ⟨.tail _ e, i, ?_⟩
        cases hq : h.get? a with
        | none => rfl
        | some o => rw [Heap.get?_push_of_some _ hq] at z; cases z
    · have ih := cellsFrom_mem r h acc ha hp
      refine ⟨fun x a e => ?_, ih.2⟩
      rcases ih.1 x a e with e | ⟨e, i, z⟩
      · exact .inl e
      · exact .inr ⟨.tail _ e, i, z⟩

noncomputable def cEnv (scope : Scope) (cells : List (Str × Addr)) (L : Addr) (env : Env) : Env :=
  { scope := relabel scope env, locals := L, globals := env.globals, cells := cells, qual := env.qual, func := none, code := env.code, frame := env.frame, builtins := env.builtins }
noncomputable def cNames (scope : Scope) (m : Str → Option Value) : Str → Option Value := fun x => match scope.names.lookup x with | some .free => m x | _ => none

theorem lookup_relabel {env : Env} : ∀ (names : List (Str × NameKind)) (x : Str),
    (names.map fun (n, k) => if (k == NameKind.free && env.scope.kind == .function && env.kindOf n == some .cell) then (n, NameKind.cell) else (n, k)).lookup x = (names.lookup x).map fun k => if (k == NameKind.free && env.scope.kind == .function && env.kindOf x == some .cell) then NameKind.cell else k
  | [], _ => rfl
  | (n, k) :: r, x => by
    rw [List.map_cons, List.lookup_cons]
    have ih := lookup_relabel (env := env) r x
    cases hx : x == n with
    | true =>
      have : x = n := by simpa using hx
      subst this
      by_cases q : (k == NameKind.free && env.scope.kind == .function && env.kindOf x == some .cell) = true
      · simp only [q, if_true, List.lookup_cons, hx, Option.map_some]
      · simp only [q, if_false, List.lookup_cons, hx, Option.map_some, Bool.false_eq_true]
    | false =>
      by_cases q : (k == NameKind.free && env.scope.kind == .function && env.kindOf n == some .cell) = true <;> simp only [q, if_true, if_false, List.lookup_cons, hx, Bool.false_eq_true] <;> exact ih

/-- the scope of a comprehension is well read in the block around it -/
noncomputable def scopeOk (scope : Scope) (env : Env) : Bool :=
  (scope.names.map (·.1)).Nodup && scope.names.all fun (n, k) => match k with
    | .free => env.kindOf n == some .cell || env.kindOf n == some .free
    | _ => true

theorem closL_apart {cells : List (Str × Addr)} (hap : cells.Pairwise fun x y => x.2 ≠ y.2) : ∀ (names : List (Str × NameKind)) (acc cl : List (Str × Addr)), closL cells names acc = some cl → (names.map (·.1)).Nodup →
    (∀ x a, (x, a) ∈ acc → cells.lookup x = some a ∧ x ∉ names.map (·.1)) → acc.Pairwise (fun x y => x.2 ≠ y.2) → cl.Pairwise fun x y => x.2 ≠ y.2
  | [], acc, cl, e, _, _, hp => by cases e; exact hp
  | (n, k) :: r, acc, cl, e, hnd, ha, hp => by
    unfold closL at e
    rw [List.map_cons, List.nodup_cons] at hnd
    split at e
    · split at e
      · rename_i b hb
        refine closL_apart hap r _ cl e hnd.2 (fun x a h => ?_) (List.pairwise_cons.mpr ⟨fun y hy q => ?_, hp⟩)
        · rcases List.mem_cons.mp h with h | h
          · cases h; exact ⟨hb, hnd.1⟩
          · exact ⟨(ha x a h).1, fun z => (ha x a h).2 (List.mem_cons_of_mem _ z)⟩
        · have h1 := (ha y.1 y.2 hy).1
          have q : b = y.2 := q
          subst q
          have := name_of_addr hap (mem_of_lookup hb) (mem_of_lookup h1)
          exact (ha y.1 y.2 hy).2 (by rw [← this]; exact List.mem_cons_self ..)
      · cases e
    · exact closL_apart hap r _ cl e hnd.2 (fun x a h => ⟨(ha x a h).1, fun z => (ha x a h).2 (List.mem_cons_of_mem _ z)⟩) hp

theorem lookup_of_mem_nd {α : Type} : ∀ {l : List (Str × α)} {x : Str} {k : α}, (l.map (·.1)).Nodup → (x, k) ∈ l → l.lookup x = some k
  | (n, v) :: r, x, k, hnd, h => by
    rw [List.map_cons, List.nodup_cons] at hnd
    rcases List.mem_cons.mp h with h' | h'
    · cases h'; simp
    · have h2 : x ∈ r.map (·.1) := List.mem_map_of_mem (f := Prod.fst) h'
      have : x ≠ n := fun q => hnd.1 (q ▸ h2)
      rw [List.lookup_cons, show (x == n) = false by simpa using this]
      exact lookup_of_mem_nd hnd.2 h'
theorem cEnv_kind {scope : Scope} {cells : List (Str × Addr)} {L : Addr} {env : Env} {x : Str} : (cEnv scope cells L env).kindOf x = (scope.names.lookup x).map fun k => if (k == NameKind.free && env.scope.kind == .function && env.kindOf x == some .cell) then NameKind.cell else k :=
  lookup_relabel scope.names x

section
variable {prog : Program} {w : World} {A : Around} {E : Value → Shared → Prop} {c c₀ : Cr} {d : Drawn} {t : Nat} {os : OsState} {env : Env} {m : Str → Option Value} {T W O : List Addr}
theorem comp_env {scope : Scope} {cl : List (Str × Addr)} {Q : Env → Shared → Prop} (F : Fx T W c₀ c O env m) (hk : scope.kind = .function) (hcl : closL env.cells scope.names [] = some cl) (hok : scopeOk scope env = true)
    (h : ∀ c' nn L cells, cells = cellsFrom nn scope.names cl → (∀ x a, Loc (cEnv scope cells L env) x a → scope.names.lookup x ≠ some .free → c.h.get? a = none) → (∀ b ∈ ownOf (cEnv scope cells L env), c.h.get? b = none ∨ b ∈ ownOf env) →
      Fx T W c₀ c' (ownOf (cEnv scope cells L env) ++ O) (cEnv scope cells L env) (cNames scope m) → Ext T [] c c' → Up O c.h (ownOf (cEnv scope cells L env) ++ O) c'.h → c'.g = c.g → (∃ ml, c'.h.Ns L ml) → c.h.get? L = none → Q { (cEnv scope cells L env) with scope := scope } ⟨c'.h, c'.g, d, t, os⟩) :
    wpAny (model prog w) A (newFunctionEnv scope env.globals cl [] env.qual none .none (some env)) Q E ⟨c.h, c.g, d, t, os⟩ := by
  obtain ⟨hnd, hfr⟩ := Bool.and_eq_true_iff.mp hok
  have hnd : (scope.names.map (·.1)).Nodup := by simpa using hnd
  have hfree : ∀ x, (x, NameKind.free) ∈ scope.names → env.kindOf x = some .cell ∨ env.kindOf x = some .free := fun x hx => by
    have := List.all_eq_true.mp hfr _ hx
    simpa using this
  have clm := closL_mem _ _ _ hcl
  have clap := closL_apart F.vars.apart _ _ _ hcl hnd (by simp) (by simp)
  have clin : ∀ x a, (x, a) ∈ cl → env.cells.lookup x = some a ∧ (x, NameKind.free) ∈ scope.names := fun x a h => (clm x a h).elim (by simp) id
  simp only [newFunctionEnv, Option.isSome_some, if_true]
  refine wpAny_bind (wpAny_alloc ?_)
  refine wpAny_bind (wpAny_layCells _ (fun name kind cells => by cases hkc : kind == NameKind.cell <;> simp [hkc]) _ _ _ _ ?_)
  rw [List.forIn_nil]
  refine wpAny_bind (wpAny_pure (wpAny_pure ?_))
  have hsz : (c.h.push { cls := .type "dict", data := .dict #[] }).objs.size = c.h.objs.size + 1 := Heap.size_push ..
  have cm := cellsFrom_mem scope.names (c.h.push { cls := .type "dict", data := .dict #[] }) cl (fun x a h => by
    have := clin x a h
    obtain ⟨o, e⟩ := F.low a (F.own a (own_cell (mem_of_lookup this.1)))
    exact ⟨o, Heap.get?_push_of_some _ e⟩) clap
  generalize hcells : cellsFrom (c.h.push { cls := .type "dict", data := .dict #[] }).objs.size scope.names cl = cells at cm
  have kp : ∀ b o, c.h.get? b = some o → (pushCells (c.h.push { cls := .type "dict", data := .dict #[] }) scope.names).get? b = some o := fun b o e => pushCells_keeps _ _ _ _ (Heap.get?_push_of_some _ e)
  have newNone : ∀ a, (c.h.push { cls := .type "dict", data := .dict #[] }).get? a = none → c.h.get? a = none := fun a e => by
    cases q : c.h.get? a with
    | none => rfl
    | some o => rw [Heap.get?_push_of_some _ q] at e; cases e
  have c₀none : ∀ a, c.h.get? a = none → c₀.h.get? a = none := fun a e => by
    cases q : c₀.h.get? a with
    | none => rfl
    | some o => obtain ⟨o', e'⟩ := F.ext.there a o q; rw [e] at e'; cases e'
  have offO : ∀ a, c.h.get? a = none → a ∉ O := fun a e q => by obtain ⟨o, e'⟩ := F.low a q; rw [e] at e'; cases e'
  have ns0 : (pushCells (c.h.push { cls := .type "dict", data := .dict #[] }) scope.names).Ns c.h.objs.size (fun _ => none) := (Heap.Ns.new c.h (.type "dict")).keeps (pushCells_keeps _ _)
  have kinds : ∀ x a, (x, a) ∈ cells → ((x, a) ∈ cl ∨ ((x, NameKind.cell) ∈ scope.names ∧ (pushCells (c.h.push { cls := .type "dict", data := .dict #[] }) scope.names).IsCell a none ∧ c.h.get? a = none)) := fun x a h => (cm.1 x a h).imp id fun z => ⟨z.1, z.2.1, newNone a z.2.2⟩
  have own' : ∀ b ∈ ownOf (cEnv scope cells c.h.objs.size env), c.h.get? b = none ∨ b ∈ ownOf env := fun b hb => by
    rcases List.mem_cons.mp hb with rfl | hb
    · exact .inl size_none
    · obtain ⟨⟨x, a⟩, hm, rfl⟩ := List.mem_map.mp hb
      rcases kinds x a hm with z | z
      · exact .inr (own_cell (mem_of_lookup (clin x a z).1))
      · exact .inl z.2.2
  refine h ⟨_, c.g⟩ _ c.h.objs.size cells hcells.symm (fun x a hl hx => ?_) own' ⟨F.ext.trans (Ext.of_keep kp), ⟨hk, ⟨_, ns0, fun x hx => ?_⟩, fun x a hc hkk => ?_, cm.2, fun x a hm => ?_⟩, fun b hb => List.mem_append_left _ hb, fun b hb => List.mem_append_right _ (F.tin b hb), fun b hb => List.mem_append_right _ (F.win b hb), fun b hb => ?_, fun b hb => ?_, (Ext.of_keep (T := T) (W := W) kp).tab F.tab⟩ (Ext.of_keep kp) (fun b o e => ⟨fun q => ?_, kp b o e.2⟩) rfl ⟨_, ns0⟩ size_none
  · rcases hl with ⟨_, rfl⟩ | ⟨_, hl⟩
    · exact size_none
    · rcases kinds x a (mem_of_lookup hl) with z | z
      · exact absurd (lookup_of_mem_nd hnd (clin x a z).2) hx
      · exact z.2.2
  · rw [cEnv_kind] at hx
    unfold cNames
    cases q : scope.names.lookup x with
    | none => rfl
    | some k =>
      rw [q] at hx
      cases k <;> first | rfl | (simp only [Option.map_some] at hx; split at hx <;> cases hx)
  · rcases kinds x a (mem_of_lookup hc) with z | z
    · have hl := lookup_of_mem_nd hnd (clin x a z).2
      obtain ⟨o, e, dd⟩ := F.vars.cel x a (clin x a z).1 (hfree x (clin x a z).2)
      exact ⟨o, kp _ _ e, by rw [dd]; unfold cNames; rw [hl]⟩
    · have hl := lookup_of_mem_nd hnd z.1
      obtain ⟨o, e, dd⟩ := z.2.1
      exact ⟨o, e, by rw [dd]; unfold cNames; rw [hl]⟩
  · rcases kinds x a hm with z | z
    · obtain ⟨o, e⟩ := F.low a (F.own a (own_cell (mem_of_lookup (clin x a z).1)))
      exact Ne.symm (ne_of_none size_none e)
    · rcases cm.1 x a hm with y | y
      · obtain ⟨o, e⟩ := F.low a (F.own a (own_cell (mem_of_lookup (clin x a y).1)))
        exact Ne.symm (ne_of_none size_none e)
      · exact ne_of_none y.2.2 (Heap.get?_push_size _ rfl)
  · rcases List.mem_append.mp hb with hb | hb
    · rcases List.mem_cons.mp hb with rfl | hb
      · obtain ⟨o, _, _, e, _⟩ := ns0; exact ⟨o, e⟩
      · obtain ⟨⟨x, a⟩, hm, rfl⟩ := List.mem_map.mp hb
        rcases kinds x a hm with z | z
        · obtain ⟨o, e⟩ := F.low a (F.own a (own_cell (mem_of_lookup (clin x a z).1)))
          exact ⟨o, kp _ _ e⟩
        · obtain ⟨o, e, _⟩ := z.2.1; exact ⟨o, e⟩
    · obtain ⟨o, e⟩ := F.low b hb; exact ⟨o, kp _ _ e⟩
  · rcases own' b hb with z | z
    · exact ⟨c₀none b z, fun q => offO b z (F.tin b q), fun q => offO b z (F.win b q)⟩
    · exact F.new b z
  · rcases List.mem_append.mp q with q | q
    · rcases own' b q with z | z
      · have := e.2; rw [z] at this; cases this
      · exact e.1 (F.own b z)
    · exact e.1 q
end
end Mine
end

section
open PySem PySem.W PySem.Calls PyProof.Rows
set_option Elab.async false
set_option linter.unusedSimpArgs false
set_option linter.unusedVariables false
namespace Mine

theorem Ext.butk {T W : List Addr} {c : Cr} {a : Addr} {h' : Heap} (k : ∀ b o, b ≠ a → c.h.get? b = some o → h'.get? b = some o) (hc : a ∉ T) (hw : a ∈ W) (he : ∃ o, h'.get? a = some o) : Ext T W c ⟨h', c.g⟩ :=
  ⟨fun b o _ w e => k b o (fun q => w (q ▸ hw)) e, fun b o e => by
    by_cases q : b = a
    · subst q; exact he
    · exact ⟨o, k b o q e⟩, fun z P hP => let ⟨vs, e, q⟩ := z P hP; ⟨vs, k P _ (fun q => hc (q ▸ hP)) e, q⟩, ⟨fun _ _ e => e, id⟩⟩
/-- fresh ones are let go -/
theorem Ext.lose {T W L : List Addr} {cs c : Cr} {h' : Heap} (x : Ext T W cs c) (k : ∀ b o, b ∉ L → c.h.get? b = some o → h'.get? b = some o) (hn : ∀ b ∈ L, cs.h.get? b = none ∧ b ∉ T) : Ext T W cs ⟨h', c.g⟩ := by
  have key : ∀ b o o', cs.h.get? b = some o → c.h.get? b = some o' → h'.get? b = some o' := fun b o o' e e' => k b o' (fun q => by rw [(hn b q).1] at e; cases e) e'
  refine ⟨fun b o t w e => key b o o e (x.heap b o t w e), fun b o e => ?_, fun z P hP => ?_, x.gens⟩
  · obtain ⟨o', e'⟩ := x.there b o e; exact ⟨o', key b o o' e e'⟩
  · obtain ⟨vs, e, q⟩ := x.tab z P hP
    exact ⟨vs, k P _ (fun q => (hn P q).2 hP) e, q⟩
/-- other mutable ones turn -/
theorem Fx.goL {T W V c₀ c O env m c'} (F : Fx T W c₀ c O env m) (x : Ext T V c c') (h : ∀ b ∈ V, (c₀.h.get? b = none ∨ b ∈ W) ∧ b ∉ ownOf env ∧ b ∈ O) : Fx T W c₀ c' O env m ∧ Up O c.h O c'.h :=
  ⟨⟨F.ext.absorb x fun b hb => (h b hb).1, F.vars.keeps fun b hb o e => x.heap b o (F.new b hb).2.1 (fun q => (h b q).2.1 hb) e, F.own, F.tin, F.win, fun b hb => by
    obtain ⟨o, e⟩ := F.low b hb
    exact x.there b o e, F.new, x.tab F.tab⟩, x.up F.tin fun b hb => (h b hb).2.2⟩
theorem Fx.names {T W c₀ c O env m m'} (F : Fx T W c₀ c O env m) (h : ∀ x, m x = m' x) : Fx T W c₀ c O env m' := (funext h : m = m') ▸ F

/-- an iterable, opened -/
noncomputable def IterIn (prog : Program) (w : World) (A : Around) (T V : List Addr) (d : Drawn) (os : OsState) (xv : Value) (c₁ : Cr) (n : Nat) (P : Nat → Value → Prop) : Prop :=
  ∀ (Q E : Value → Shared → Prop) (t : Nat), (∀ c₂ I fp St, Ext T [] c₁ c₂ → c₁.h.get? I = none → I ∉ T → Walks prog w A I fp [I] n P St → (∀ i h, St i h → ∃ o, h.get? I = some o) → St 0 c₂.h → (∀ b ∈ fp, b = I ∨ ((∃ o, c₁.h.get? b = some o) ∧ b ∉ T ∧ b ∉ V)) → c₂.g = c₁.g →
    Q (.ref I) ⟨c₂.h, c₂.g, d, t, os⟩) → wpAny (model prog w) A (pyIter xv) Q E ⟨c₁.h, c₁.g, d, t, os⟩

section
variable {prog : Program} {w : World} {A : Around} {E : Value → Shared → Prop} {c c₀ : Cr} {d : Drawn} {t : Nat} {os : OsState} {env : Env} {m : Str → Option Value} {T W O V : List Addr}
theorem iter_list {l : Addr} {vs : List Value} (hh : A.handled = none) (hl : LsO c.h l vs.toArray) (hT : l ∉ T) (hV : l ∉ V) (hTl : ∀ b ∈ T, ∃ o, c.h.get? b = some o) : IterIn prog w A T V d os (.ref l) c vs.length (fun i v => vs[i]? = some v) := by
  intro Q E t hQ
  obtain ⟨o, e⟩ := list_get hl
  have ne : l ≠ c.h.objs.size := ne_of_none size_none e
  have hl₂ : (c.h.push { cls := .type "list_iterator", data := .fields #[.ref l, .int 0 0] }).IsList l vs.toArray := hl.isL.push _
  refine wpAny_pyIter_list hl.isL (hQ ⟨c.h.push { cls := .type "list_iterator", data := .fields #[.ref l, .int 0 0] }, c.g⟩ c.h.objs.size [c.h.objs.size, l] (fun i h => h.IsListIter c.h.objs.size l i ∧ h.IsList l vs.toArray) Ext.push size_none (fun q => by obtain ⟨o', e'⟩ := hTl _ q; rw [size_none] at e'; cases e') (by simpa using Walks.list hh c.h.objs.size l ne vs.toArray) (fun i h st => by obtain ⟨o, e, _⟩ := st.1; exact ⟨o, e⟩) ⟨⟨_, Heap.get?_push_size _ rfl, rfl, rfl⟩, hl₂⟩ (fun b hb => ?_) rfl)
  rcases List.mem_cons.mp hb with rfl | hb
  · exact .inl rfl
  · rw [List.mem_singleton.mp hb]; exact .inr ⟨⟨o, e⟩, hT, hV⟩
theorem iter_range {r : Addr} {a b : Int} {n : Nat} {t₁ t₂ t₃ : Tok} (hh : A.handled = none) (hr : IsRange c.h r a b 1 t₁ t₂ t₃) (hsm : Builtin.Range.small a b 1 = true) (hn : Builtin.Range.rangeSize a b 1 = ((n : Nat) : Int)) (hTl : ∀ b ∈ T, ∃ o, c.h.get? b = some o) :
    IterIn prog w A T V d os (.ref r) c n (fun i v => ∃ t, v = .int (a + (i : Int)) t) := by
  intro Q E t hQ
  refine wpAny_pyIter_range hr hsm (hQ ⟨c.h.push { cls := .type "range_iterator", data := .fields #[rawInt a, rawInt (Builtin.Range.rangeSize a b 1), rawInt 1] }, c.g⟩ c.h.objs.size [c.h.objs.size] _ Ext.push size_none (fun q => by obtain ⟨o', e'⟩ := hTl _ q; rw [size_none] at e'; cases e') (LCg.range_walks hh a n) (fun i h st => ⟨_, st⟩) (by
    have e : (a + ((0 : Nat) : Int) * 1) = a := by simp
    have e2 : ((n : Int) - ((0 : Nat) : Int)) = n := by simp
    rw [e, e2, hn]
    exact Heap.get?_push_size _ rfl) (fun b hb => .inl (by simpa using hb)) rfl)

theorem comp_core {elt iter : Expr} {x : Str} {px : Pos} {scope : Scope} {pos : Pos} {cl : List (Str × Addr)} {RR : Value → Addr → Result → Shared → Prop} (J : List Addr → Nat → List Value → Cr → Prop) {c₁ : Cr} {t₁ n : Nat} {P : Nat → Value → Prop} {xv : Value}
    (hcl : closL env.cells scope.names [] = some cl) (hok : scopeOk scope env = true) (hk : scope.kind = .function) (hfree : scope.names.lookup x ≠ some .free)
    (hx : ∀ nn L, isVar (cEnv scope (cellsFrom nn scope.names cl) L env) x = true ∧ ((cEnv scope (cellsFrom nn scope.names cl) L env).kindOf x == some .free) = false)
    (F₁ : Fx T W c₀ c₁ O env m) (hit : IterIn prog w A T V d os xv c₁ n P) (hsz : n ≤ sizeLine)
    (hV : ∀ b ∈ V, (c₀.h.get? b = none ∨ b ∈ W) ∧ b ∉ ownOf env ∧ b ∈ O ∧ b ∉ T)
    (hJs : ∀ M i ys c c', J M i ys c → (∀ b o, b ∉ M → b ∉ T → c.h.get? b = some o → c'.h.get? b = some o) → J M i ys c')
    (hJ0 : ∀ M c₂, Ext T [] c₁ c₂ → (∀ b ∈ M, c₁.h.get? b = none ∨ b ∈ O) → (∀ b ∈ V, b ∉ M) → Up O c₁.h (M ++ O) c₂.h → J M 0 [] c₂)
    (helt : ∀ M i v ys nn L c t Q' E', (∀ b ∈ M, c₁.h.get? b = none ∨ b ∈ O) → (∀ b ∈ V, b ∉ M) → i < n → P i v → Fx T W c₀ c (M ++ O) (cEnv scope (cellsFrom nn scope.names cl) L env) (upd (cNames scope m) x v) → Ext T V c₁ c → Up O c₁.h (M ++ O) c.h → J M i ys c →
        (∀ c' t' y, Ext T V c c' → J M (i + 1) (ys ++ [y]) c' → Q' y ⟨c'.h, c'.g, d, t', os⟩) → wpAny (model prog w) A (eval elt (cEnv scope (cellsFrom nn scope.names cl) L env)) Q' E' ⟨c.h, c.g, d, t, os⟩)
    (hRR : ∀ M D L c' t' ys, Fx T W c₀ c' O env m → Ext T V c₁ c' → Up O c₁.h O c'.h → c₁.h.get? D = none → D ∉ O → LsO c'.h D ys.toArray → ys.length = n → J M n ys c' → L ∈ M → L ≠ D → c₁.h.get? L = none → L ∉ T → L ∉ O → (∃ ml, c'.h.Ns L ml) →
        RR (.ref D) L (.ok .next) ⟨c'.h, c'.g, d, t', os⟩) :
    wpAny (model prog w) A (pyIter xv) (fun it s₂ => wpAny (model prog w) A (newList []) (fun acc s₃ => wpAny (model prog w) A (newFunctionEnv scope env.globals cl [] env.qual none .none (some env)) (fun cenv s₄ =>
      codeAny (model prog w) A (.compStart (.ListComp elt [⟨.Name x px, iter, [], 0⟩] scope pos) 0 it acc { cenv with scope := relabel scope env }) (RR acc cenv.locals) s₄) E s₃) E s₂) E ⟨c₁.h, c₁.g, d, t₁, os⟩ := by
  refine hit _ _ _ fun c₂ I fp St e₂ hI hIT Wk hIo st₀ hfp hg => ?_
  have F₂ := F₁.go e₂.nil
  have hTl₂ : ∀ b ∈ T, ∃ o, c₂.h.get? b = some o := fun b hb => F₂.low b (F₂.tin b hb)
  obtain ⟨F₃, u₃, hD⟩ := F₂.push (o := { cls := .type "list", dict := none, data := .seq ([] : List Value).toArray }) rfl
  refine wpAny_newObj_type ?_ (by show (0 : Nat) ≤ sizeLine; exact Nat.zero_le _)
  obtain ⟨oI, eI⟩ := hIo 0 _ st₀
  have F₃' := F₃.more (a := I) ⟨oI, Heap.get?_push_of_some _ eI⟩
  generalize hc₃ : (⟨c₂.h.push { cls := .type "list", dict := none, data := .seq ([] : List Value).toArray }, c₂.g⟩ : Cr) = c₃ at F₃ F₃' u₃
  have k₃ : ∀ b o, c₂.h.get? b = some o → c₃.h.get? b = some o := by subst hc₃; exact fun b o e => Heap.get?_push_of_some _ e
  have g₃ : c₃.g = c₂.g := by subst hc₃; rfl
  have list₃ : LsO c₃.h c₂.h.objs.size ([] : List Value).toArray := by subst hc₃; exact ⟨_, Heap.get?_push_size _ rfl⟩
  have e₃ : Ext T [] c₂ c₃ := by subst hc₃; exact Ext.push
  show wpAny _ _ _ _ _ ⟨c₂.h.push { cls := .type "list", dict := none, data := .seq ([] : List Value).toArray }, c₂.g, d, _, os⟩
  have hst : ∀ tt, (⟨c₂.h.push { cls := .type "list", dict := none, data := .seq ([] : List Value).toArray }, c₂.g, d, tt, os⟩ : Shared) = ⟨c₃.h, c₃.g, d, tt, os⟩ := by subst hc₃; exact fun _ => rfl
  rw [hst]
  refine comp_env F₃' hk hcl hok fun c₄ nn L cells hcells hfresh hown F₄ e₄ u₄ hg₄ hns hL => ?_
  subst hcells
  obtain ⟨hx1, hx2⟩ := hx nn L
  -- the addresses in play
  have sizeNe : ∀ b o, c₁.h.get? b = some o → b ≠ c₂.h.objs.size := fun b o e => by
    obtain ⟨o', e'⟩ := e₂.there b o e
    exact ne_of_none size_none e'
  have hDn : c₁.h.get? c₂.h.objs.size = none := by
    cases q : c₁.h.get? c₂.h.objs.size with
    | none => rfl
    | some o => exact absurd rfl (sizeNe _ o q)
  have hLn : c₁.h.get? L = none := by
    cases q : c₁.h.get? L with
    | none => rfl
    | some o =>
      obtain ⟨o', e'⟩ := e₂.there L o q
      rw [k₃ L o' e'] at hL; cases hL
  have hDI : c₂.h.objs.size ≠ I := Ne.symm (ne_of_none size_none eI)
  have hLI : L ≠ I := fun q => by rw [q, k₃ I oI eI] at hL; cases hL
  have hLD : L ≠ c₂.h.objs.size := fun q => by obtain ⟨o, e⟩ := list₃; rw [q, e] at hL; cases hL
  have c₁new : ∀ b, c₃.h.get? b = none → c₁.h.get? b = none := fun b e => by
    cases q : c₁.h.get? b with
    | none => rfl
    | some o => obtain ⟨o', e'⟩ := e₂.there b o q; rw [k₃ b o' e'] at e; cases e
  have hDT : c₂.h.objs.size ∉ T := fun q => by obtain ⟨o, e⟩ := hTl₂ _ q; rw [size_none] at e; cases e
  have hDO : c₂.h.objs.size ∉ O := F₂.fresh size_none
  have hDown : ∀ b ∈ ownOf (cEnv scope (cellsFrom nn scope.names cl) L env), b ≠ I ∧ b ≠ c₂.h.objs.size ∧ (c₁.h.get? b = none ∨ b ∈ O) ∧ b ∉ T ∧ b ∉ V := fun b hb => by
    have hT := (F₄.new b hb).2.1
    rcases hown b hb with z | z
    · refine ⟨fun q => by rw [q, k₃ I oI eI] at z; (cases z), fun q => by (obtain ⟨o, e⟩ := list₃); (rw [q, e] at z); (cases z), .inl (c₁new b z), hT, fun q => ?_⟩
      obtain ⟨o, e⟩ := F₁.low b (hV b q).2.2.1
      rw [c₁new b z] at e; cases e
    · obtain ⟨o, e⟩ := F₁.low b (F₁.own b z)
      exact ⟨ne_of_none hI e, sizeNe b o e, .inr (F₁.own b z), hT, fun q => (hV b q).2.1 z⟩
  have hVI : ∀ b ∈ V, b ≠ I ∧ b ≠ c₂.h.objs.size := fun b hb => by
    obtain ⟨o, e⟩ := F₁.low b (hV b hb).2.2.1
    exact ⟨ne_of_none hI e, sizeNe b o e⟩
  have hC₀D : c₀.h.get? c₂.h.objs.size = none := by
    cases q : c₀.h.get? c₂.h.objs.size with
    | none => rfl
    | some o => obtain ⟨o', e'⟩ := F₂.ext.there _ o q; rw [size_none] at e'; cases e'
  have hC₀I : c₀.h.get? I = none := by
    cases q : c₀.h.get? I with
    | none => rfl
    | some o => obtain ⟨o', e'⟩ := F₁.ext.there _ o q; rw [hI] at e'; cases e'
  generalize hDd : c₂.h.objs.size = D at *
  generalize hce : cEnv scope (cellsFrom nn scope.names cl) L env = cenv at *
  have hMO : (ownOf cenv ++ [I, D]) ++ O = ownOf cenv ++ (I :: D :: O) := by simp
  generalize hMM : ownOf cenv ++ [I, D] = M at hMO
  have hM : ∀ b ∈ M, c₁.h.get? b = none ∨ b ∈ O := fun b hb => by
    subst hMM
    rcases List.mem_append.mp hb with hb | hb
    · exact (hDown b hb).2.2.1
    · rcases List.mem_cons.mp hb with rfl | hb
      · exact .inl hI
      · rw [List.mem_singleton.mp hb]; exact .inl hDn
  have hVM : ∀ b ∈ V, b ∉ M := fun b hb q => by
    subst hMM
    rcases List.mem_append.mp q with q | q
    · exact (hDown b q).2.2.2.2 hb
    · rcases List.mem_cons.mp q with q | q
      · exact (hVI b hb).1 q
      · exact (hVI b hb).2 (List.mem_singleton.mp q)
  have hDM : D ∈ M ∧ I ∈ M ∧ ∀ b ∈ ownOf cenv, b ∈ M := by subst hMM; exact ⟨by simp, by simp, fun b hb => List.mem_append_left _ hb⟩
  have hlocal : cenv.locals = L := by subst hce; rfl
  rw [← hMO] at F₄
  have upM : Up O c₁.h (M ++ O) c₄.h := fun b o e => by
    obtain ⟨o₂, q₂⟩ := e₂.there b o e.2
    refine ⟨fun q => ?_, e₄.heap b o (fun q => e.1 (F₁.tin b q)) (by simp) (e₃.heap b o (fun q => e.1 (F₁.tin b q)) (by simp) (e₂.heap b o (fun q => e.1 (F₁.tin b q)) (by simp) e.2))⟩
    rcases List.mem_append.mp q with q | q
    · rcases hM b q with z | z
      · rw [e.2] at z; cases z
      · exact e.1 z
    · exact e.1 q
  have ext₄ : Ext T [] c₁ c₄ := (e₂.trans e₃).trans e₄
  have list₄ : LsO c₄.h D ([] : List Value).toArray := list_ext list₃ e₄ hDT (by simp)
  have st₄ : St 0 c₄.h := Wk.frame 0 _ _ st₀ fun b hb o e => by
    rcases hfp b hb with rfl | ⟨_, hbT, _⟩
    · exact e₄.heap _ o hIT (by simp) (e₃.heap _ o hIT (by simp) e)
    · exact e₄.heap _ o hbT (by simp) (e₃.heap _ o hbT (by simp) e)
  have upOf : ∀ cc : Cr, Ext T V c₁ cc → Up O c₁.h (M ++ O) cc.h := fun cc ec b o e => by
    refine ⟨fun q => ?_, ec.heap b o (fun q => e.1 (F₁.tin b q)) (fun q => e.1 (hV b q).2.2.1) e.2⟩
    rcases List.mem_append.mp q with q | q
    · rcases hM b q with z | z
      · rw [e.2] at z; cases z
      · exact e.1 z
    · exact e.1 q
  have fpD : ∀ b ∈ fp, b ≠ D ∧ b ∉ T ∧ b ∉ V ∧ (b = I ∨ ∃ o, c₁.h.get? b = some o) := fun b hb => by
    rcases hfp b hb with rfl | ⟨⟨o, e⟩, h1, h2⟩
    · exact ⟨Ne.symm hDI, hIT, fun q => (hVI _ q).1 rfl, .inl rfl⟩
    · exact ⟨sizeNe b o e, h1, h2, .inr ⟨o, e⟩⟩
  let Inv : Nat → Shared → Prop := fun k s => ∃ i ys c t mm, k = n - i ∧ i ≤ n ∧ s = ⟨c.h, c.g, d, t, os⟩ ∧ Fx T W c₀ c (M ++ O) cenv mm ∧ (∀ v y, upd mm x v y = upd (cNames scope m) x v y) ∧ St i c.h ∧ LsO c.h D ys.toArray ∧ ys.length = i ∧ Ext T V c₁ c ∧ J M i ys c
  have loop : codeAny (model prog w) A (.compLoop (.ListComp elt [⟨.Name x px, iter, [], 0⟩] scope pos) 0 (.ref I) (.ref D) cenv) (RR (.ref D) L) ⟨c₄.h, c₄.g, d, t₁, os⟩ := by
    refine codeAny_compLoop_list Inv (fun k s hI' => ?_) (n - 0) ⟨0, [], c₄, t₁, cNames scope m, rfl, Nat.zero_le _, rfl, F₄, fun _ _ => rfl, st₄, list₄, rfl, ext₄.nil, hJ0 M c₄ ext₄ hM hVM upM⟩
    obtain ⟨i, ys, c, t, mm, rfl, hi, rfl, F, hmm, st, hl, hlen, ex, hJ⟩ := hI'
    by_cases hlt : i < n
    · refine Wk.item i _ _ _ hlt st fun v h' tk hP st' hk' => ?_
      have eI' : Ext T [I] c ⟨h', c.g⟩ := Ext.butk (fun b o ne e => hk' b o (by simpa using ne) e) hIT (by simp) (hIo _ _ st')
      have F' := (F.goL eI' (fun b hb => by rw [List.mem_singleton.mp hb]; exact ⟨.inl hC₀I, fun q => (hDown I q).1 rfl, List.mem_append_left _ hDM.2.1⟩)).1
      have J' := hJs M i ys c ⟨h', c.g⟩ hJ (fun b o hb hbT e => hk' b o (fun q => hb (by rw [List.mem_singleton.mp q]; exact hDM.2.1)) e)
      have l' := list_ext hl eI' hDT (by simpa using hDI)
      have ex' : Ext T V c₁ ⟨h', c.g⟩ := ex.absorb eI' fun b hb => by rw [List.mem_singleton.mp hb]; exact .inl hI
      refine wpAny_assign_Name (fx_store F' (fun c₅ t₅ a hloc F₅ u₅ e₅ hg₅ => ?_) hx1 hx2)
      have ha₃ : c₃.h.get? a = none := hfresh x a hloc hfree
      have ha₁ := c₁new a ha₃
      have haI : a ≠ I := (hDown a hloc.own).1
      have haD : a ≠ D := (hDown a hloc.own).2.1
      have st₅ : St (i + 1) c₅.h := Wk.frame _ _ _ st' fun b hb o e => e₅.heap b o (fpD b hb).2.1 (fun q => by
        have q := List.mem_singleton.mp q
        rcases (fpD b hb).2.2.2 with z | ⟨o', z⟩
        · exact haI (q ▸ z)
        · rw [q, ha₁] at z; cases z) e
      have l₅ := list_ext l' e₅ hDT (by simpa using Ne.symm haD)
      have J₅ := hJs M i ys _ c₅ J' (fun b o hb hbT e => e₅.heap b o hbT (fun q => hb (by rw [List.mem_singleton.mp q]; exact hDM.2.2 a hloc.own)) e)
      have ex₅ : Ext T V c₁ c₅ := ex'.absorb e₅ fun b hb => by rw [List.mem_singleton.mp hb]; exact .inl ha₁
      have F₅' : Fx T W c₀ c₅ (M ++ O) (cEnv scope (cellsFrom nn scope.names cl) L env) (upd (cNames scope m) x v) := by rw [hce]; exact F₅.names (hmm v)
      have call := helt M i v ys nn L c₅ t₅ (fun y s₃ => wpAny (model prog w) (A.under (.compLoop (.ListComp elt [⟨.Name x px, iter, [], 0⟩] scope pos) 0 (.ref I) (.ref D) cenv)) (PySem.call (.builtin "list.append") [.ref D, y]) (fun _ s₄ => ∃ m, m < n - i ∧ Inv m s₄) (notedBy (model prog w) A cenv fun e s' => RR (.ref D) L (.error e) s') s₃) (notedBy (model prog w) A cenv fun e s' => RR (.ref D) L (.error e) s') hM hVM hlt hP F₅' ex₅ (upOf _ ex₅) J₅ (fun c₆ t₆ y e₆ J₆ => ?_)
      · rw [hce] at call; exact call
      have l₆ := list_ext l₅ e₆ hDT (fun q => (hVI D q).2 rfl)
      refine x_append (T := T) (W := [D]) l₆ hDT (by simp) (by omega) (fun c₇ l₇ e₇ sb₇ hg₇ => ?_)
      have F₆ := (F₅.goL e₆ fun b hb => ⟨(hV b hb).1, fun q => (hDown b q).2.2.2.2 hb, List.mem_append_right _ (hV b hb).2.2.1⟩).1
      have F₇ := (F₆.goL e₇ (fun b hb => by rw [List.mem_singleton.mp hb]; exact ⟨.inl hC₀D, fun q => (hDown D q).2.1 rfl, List.mem_append_left _ hDM.1⟩)).1
      refine ⟨n - (i + 1), by omega, i + 1, ys ++ [y], c₇, t₆, _, rfl, hlt, rfl, F₇, fun v' z => ?_, Wk.frame _ _ _ st₅ fun b hb o e => ?_, l₇, by simp [hlen], (ex₅.trans e₆).absorb e₇ (fun b hb => by rw [List.mem_singleton.mp hb]; exact .inl hDn), hJs M _ _ c₆ _ J₆ (fun b o hb hbT e => e₇.heap b o hbT (fun q => hb (by rw [List.mem_singleton.mp q]; exact hDM.1)) e)⟩
      · by_cases q : z = x
        · simp [upd, q]
        · have := hmm v' z
          simpa [upd, q] using this
      · exact e₇.heap b o (fpD b hb).2.1 (by simpa using (fpD b hb).1) (e₆.heap b o (fpD b hb).2.1 (fpD b hb).2.2.1 e)
    · obtain rfl : i = n := Nat.le_antisymm hi (Nat.not_lt.mp hlt)
      refine Wk.done _ _ _ st fun h' tk hk' => ?_
      obtain ⟨ml, hns', _⟩ := F.vars.loc
      rw [hlocal] at hns'
      have hLown : L ∈ ownOf cenv := by rw [← hlocal]; exact List.mem_cons_self ..
      have hLT : L ∉ T := (hDown L hLown).2.2.2.1
      have kk : ∀ b o, b ∉ [I] → c.h.get? b = some o → h'.get? b = some o := fun b o hb e => hk' b o hb e
      have ex'' : Ext T V c₁ ⟨h', c.g⟩ := ex.lose kk fun b hb => by
        rw [List.mem_singleton.mp hb]; exact ⟨hI, hIT⟩
      obtain ⟨Fo, uo⟩ := F₁.goL ex'' fun b hb => ⟨(hV b hb).1, (hV b hb).2.1, (hV b hb).2.2.1⟩
      have lD : LsO h' D ys.toArray := by
        obtain ⟨o, e⟩ := hl
        exact ⟨o, kk D _ (by simp [hDI]) e⟩
      refine hRR M D L ⟨h', c.g⟩ _ ys Fo ex'' uo hDn hDO lD hlen (hJs M _ _ c _ hJ fun b o hb hbT e => kk b o (fun q => hb (by rw [List.mem_singleton.mp q]; exact hDM.2.1)) e) (hDM.2.2 L hLown) hLD hLn hLT (fun q => ?_) ⟨ml, hns'.at' fun o e => hk' L o (by simpa using hLI) e⟩
      obtain ⟨o, e⟩ := F₁.low L q
      rw [hLn] at e; cases e
  have goal := codeAny_compStart_list (prog := prog) (w := w) (A := A) (rest := []) loop (Wk.self 0 _ _ _ st₄ loop)
  subst hce
  exact goal

theorem comp_rule {elt iter : Expr} {x : Str} {px : Pos} {scope : Scope} {pos : Pos} {cl : List (Str × Addr)} {Q : Value → Shared → Prop} (J : List Addr → Nat → List Value → Cr → Prop)
    (hcl : closL env.cells scope.names [] = some cl) (hok : scopeOk scope env = true) (hk : scope.kind = .function) (hfree : scope.names.lookup x ≠ some .free)
    (hnames : ∀ y ∈ scope.names, y.2 = .local → scope.names.lookup y.1 = some .local)
    (hx : ∀ nn L, isVar (cEnv scope (cellsFrom nn scope.names cl) L env) x = true ∧ ((cEnv scope (cellsFrom nn scope.names cl) L env).kindOf x == some .free) = false)
    (h : wpAny (model prog w) A (eval iter env) (fun xv s₁ => ∃ c₁ t₁ n P, s₁ = ⟨c₁.h, c₁.g, d, t₁, os⟩ ∧ Fx T W c₀ c₁ O env m ∧ IterIn prog w A T V d os xv c₁ n P ∧ n ≤ sizeLine ∧
      (∀ b ∈ V, (c₀.h.get? b = none ∨ b ∈ W) ∧ b ∉ ownOf env ∧ b ∈ O ∧ b ∉ T) ∧
      (∀ M i ys c c', J M i ys c → (∀ b o, b ∉ M → b ∉ T → c.h.get? b = some o → c'.h.get? b = some o) → J M i ys c') ∧
      (∀ M c₂, Ext T [] c₁ c₂ → (∀ b ∈ M, c₁.h.get? b = none ∨ b ∈ O) → (∀ b ∈ V, b ∉ M) → Up O c₁.h (M ++ O) c₂.h → J M 0 [] c₂) ∧
      (∀ M i v ys nn L c t Q' E', (∀ b ∈ M, c₁.h.get? b = none ∨ b ∈ O) → (∀ b ∈ V, b ∉ M) → i < n → P i v → Fx T W c₀ c (M ++ O) (cEnv scope (cellsFrom nn scope.names cl) L env) (upd (cNames scope m) x v) → Ext T V c₁ c → Up O c₁.h (M ++ O) c.h → J M i ys c →
        (∀ c' t' y, Ext T V c c' → J M (i + 1) (ys ++ [y]) c' → Q' y ⟨c'.h, c'.g, d, t', os⟩) → wpAny (model prog w) A (eval elt (cEnv scope (cellsFrom nn scope.names cl) L env)) Q' E' ⟨c.h, c.g, d, t, os⟩) ∧
      (∀ M D c' t' ys, Fx T W c₀ c' O env m → Ext T V c₁ c' → Up O c₁.h O c'.h → c₁.h.get? D = none → D ∉ O → LsO c'.h D ys.toArray → ys.length = n → J M n ys c' → Q (.ref D) ⟨c'.h, c'.g, d, t', os⟩)) E ⟨c.h, c.g, d, t, os⟩)
    (hs : ∀ x, foldedSetIterable iter env x = pure x := by intro _; rfl) :
    wpAny (model prog w) A (eval (.ListComp elt [⟨.Name x px, iter, [], 0⟩] scope pos) env) Q E ⟨c.h, c.g, d, t, os⟩ := by
  rw [eval_ListComp]
  refine wpAny_comprehension_free (use := none) rfl hs (closL_closureFor hcl) hk hnames (wpAny_mono h (fun xv s₁ h₁ => ?_) fun _ _ e => e)
  obtain ⟨c₁, t₁, n, P, rfl, F₁, hit, hsz, hV, hJs, hJ0, helt, hQ⟩ := h₁
  refine comp_core J hcl hok hk hfree hx F₁ hit hsz hV hJs hJ0 helt fun M D L c' t' ys F' ex u hD hDO hl hlen hJ hLM hLD hLn hLT hLO hns => ?_
  obtain ⟨ml, hns⟩ := hns
  refine ⟨ml, hns, fun h'' sb => ?_⟩
  have kk : ∀ b o, b ∉ [L] → c'.h.get? b = some o → h''.get? b = some o := fun b o hb e => (sb.2 b (by simpa using hb)).trans e
  have ex'' : Ext T V c₁ ⟨h'', c'.g⟩ := ex.lose kk fun b hb => by rw [List.mem_singleton.mp hb]; exact ⟨hLn, hLT⟩
  obtain ⟨Fo, uo⟩ := F₁.goL ex'' fun b hb => ⟨(hV b hb).1, (hV b hb).2.1, (hV b hb).2.2.1⟩
  refine hQ M D ⟨h'', c'.g⟩ t' ys Fo ex'' uo hD hDO (list_but hl sb (Ne.symm hLD)) hlen (hJs M _ _ c' _ hJ fun b o hb hbT e => kk b o (fun q => hb (by rw [List.mem_singleton.mp q]; exact hLM)) e)

/-- a comprehension stored in a local name, on its line -/
theorem comp_assign {elt iter : Expr} {x y : Str} {px py : Pos} {scope : Scope} {pos spos : Pos} {cl : List (Str × Addr)} {Q : Flow → Shared → Prop} (J : List Addr → Nat → List Value → Cr → Prop)
    (hsw : swapsWith (.ListComp elt [⟨.Name x px, iter, [], 0⟩] scope pos) (some (.Name y py)) spos.line env = pure true)
    (hcl : closL env.cells scope.names [] = some cl) (hok : scopeOk scope env = true) (hk : scope.kind = .function) (hfree : scope.names.lookup x ≠ some .free)
    (hnames : ∀ y ∈ scope.names, y.2 = .local → scope.names.lookup y.1 = some .local)
    (hx : ∀ nn L, isVar (cEnv scope (cellsFrom nn scope.names cl) L env) x = true ∧ ((cEnv scope (cellsFrom nn scope.names cl) L env).kindOf x == some .free) = false)
    (hy : isVar env y = true) (hyf : (env.kindOf y == some .free) = false)
    (h : wpAny (model prog w) A (eval iter env) (fun xv s₁ => ∃ c₁ t₁ n P, s₁ = ⟨c₁.h, c₁.g, d, t₁, os⟩ ∧ Fx T W c₀ c₁ O env m ∧ IterIn prog w A T V d os xv c₁ n P ∧ n ≤ sizeLine ∧
      (∀ b ∈ V, (c₀.h.get? b = none ∨ b ∈ W) ∧ b ∉ ownOf env ∧ b ∈ O ∧ b ∉ T) ∧
      (∀ M i ys c c', J M i ys c → (∀ b o, b ∉ M → b ∉ T → c.h.get? b = some o → c'.h.get? b = some o) → J M i ys c') ∧
      (∀ M c₂, Ext T [] c₁ c₂ → (∀ b ∈ M, c₁.h.get? b = none ∨ b ∈ O) → (∀ b ∈ V, b ∉ M) → Up O c₁.h (M ++ O) c₂.h → J M 0 [] c₂) ∧
      (∀ M i v ys nn L c t Q' E', (∀ b ∈ M, c₁.h.get? b = none ∨ b ∈ O) → (∀ b ∈ V, b ∉ M) → i < n → P i v → Fx T W c₀ c (M ++ O) (cEnv scope (cellsFrom nn scope.names cl) L env) (upd (cNames scope m) x v) → Ext T V c₁ c → Up O c₁.h (M ++ O) c.h → J M i ys c →
        (∀ c' t' y, Ext T V c c' → J M (i + 1) (ys ++ [y]) c' → Q' y ⟨c'.h, c'.g, d, t', os⟩) → wpAny (model prog w) A (eval elt (cEnv scope (cellsFrom nn scope.names cl) L env)) Q' E' ⟨c.h, c.g, d, t, os⟩) ∧
      (∀ M D a c' t' ys, Fx T W c₀ c' O env (upd m y (.ref D)) → Loc env y a → Ext T (a :: V) c₁ c' → Up O c₁.h O c'.h → c₁.h.get? D = none → D ∉ O → LsO c'.h D ys.toArray → ys.length = n → (∃ cj, J M n ys cj ∧ Up (M ++ O) cj.h (M ++ O) c'.h ∧ (∀ b o, b ≠ a → b ∉ M → b ∉ T → cj.h.get? b = some o → c'.h.get? b = some o)) → Q .next ⟨c'.h, c'.g, d, t', os⟩)) E ⟨c.h, c.g, d, t, os⟩)
    (hs : ∀ x, foldedSetIterable iter env x = pure x := by intro _; rfl) :
    wpAny (model prog w) A (exec (.Assign [.Name y py] (.ListComp elt [⟨.Name x px, iter, [], 0⟩] scope pos) spos) env) Q E ⟨c.h, c.g, d, t, os⟩ := by
  rw [exec_Assign_Name_used _ _ _ _ hsw]
  refine wpAny_bind (wpAny_standAt (wpAny_bind ?_))
  show wpAny _ A (do let _ ← comprehension (.ListComp elt [⟨.Name x px, iter, [], 0⟩] scope pos) scope env _ (newList []) false (eval iter env) (some (assign (.Name y py) env))) _ _ _
  refine wpAny_bind (wpAny_mono (wpAny_comprehension_free (use := some (assign (.Name y py) env)) (Q := fun _ s' => Q .next s') rfl hs (closL_closureFor hcl) hk hnames
    (wpAny_mono h (fun xv s₁ h₁ => ?_) fun _ _ e => e)) (fun _ s' hq => wpAny_pure (wpAny_pure hq)) fun _ _ e => e)
  obtain ⟨c₁, t₁, n, P, rfl, F₁, hit, hsz, hV, hJs, hJ0, helt, hQ⟩ := h₁
  refine comp_core J hcl hok hk hfree hx F₁ hit hsz hV hJs hJ0 helt fun M D L c' t' ys F' ex u hD hDO hl hlen hJ hLM hLD hLn hLT hLO hns => ?_
  obtain ⟨ml, hns⟩ := hns
  show wpAny _ A (assign (.Name y py) env (.ref D)) _ _ _
  refine wpAny_assign_Name (fx_store F' (fun c₂ t₂ a hloc F₂ u₂ e₂ hg₂ => ?_) hy hyf)
  have haO : a ∈ O := F'.own a hloc.own
  have haL : L ≠ a := fun q => hLO (q ▸ haO)
  have haD : D ≠ a := fun q => hDO (q ▸ haO)
  obtain ⟨oL, es, ep, hLg, r⟩ := hns
  refine ⟨ml, ⟨oL, es, ep, e₂.heap L oL hLT (by simpa using haL) hLg, r⟩, fun h'' sb => ?_⟩
  have kk : ∀ b o, b ∉ [L] → c₂.h.get? b = some o → h''.get? b = some o := fun b o hb e => (sb.2 b (by simpa using hb)).trans e
  have hL0 : c₀.h.get? L = none := by
    cases q : c₀.h.get? L with
    | none => rfl
    | some o => obtain ⟨o', e'⟩ := F₁.ext.there L o q; rw [hLn] at e'; cases e'
  have ha1 : ∀ b, b ∈ ownOf env → b ≠ L := fun b hb q => hLO (q ▸ F'.own b hb)
  have F₃ : Fx T W c₀ ⟨h'', c₂.g⟩ O env (upd m y (.ref D)) := ⟨F₂.ext.lose kk fun b hb => by rw [List.mem_singleton.mp hb]; exact ⟨hL0, hLT⟩, F₂.vars.keeps fun b hb o e => kk b o (by simpa using ha1 b hb) e, F₂.own, F₂.tin, F₂.win, fun b hb => by
    obtain ⟨o, e⟩ := F₂.low b hb
    exact ⟨o, kk b o (by simp; rintro rfl; exact hLO hb) e⟩, F₂.new, fun P hP => by
    obtain ⟨vs, e, q⟩ := F₂.tab P hP
    exact ⟨vs, kk P _ (by simp; rintro rfl; exact hLT hP) e, q⟩⟩
  have e₃ : Ext T (a :: V) c₁ ⟨h'', c₂.g⟩ := ((ex.wide fun b hb => .tail _ hb).trans (e₂.wide (by simp))).lose kk fun b hb => by rw [List.mem_singleton.mp hb]; exact ⟨hLn, hLT⟩
  refine hQ M D a ⟨h'', c₂.g⟩ t₂ ys F₃ hloc e₃ (e₃.up F₁.tin fun b hb => ?_) hD hDO ?_ hlen ⟨c', hJ, fun b o e => ⟨e.1, ?_⟩, fun b o hba hbM hbT e => ?_⟩
  · rcases List.mem_cons.mp hb with rfl | hb
    · exact haO
    · exact (hV b hb).2.2.1
  · have hDT : D ∉ T := fun q => hDO (F₁.tin D q)
    have := list_ext hl e₂ hDT (by simpa using haD)
    obtain ⟨o, q⟩ := this
    exact ⟨o, kk D _ (by simpa using Ne.symm hLD) q⟩
  · have hbM : b ∉ M := fun q => e.1 (List.mem_append_left _ q)
    have hbO : b ∉ O := fun q => e.1 (List.mem_append_right _ q)
    exact kk b o (by simp; rintro rfl; exact hbM hLM) (u₂ b o ⟨hbO, e.2⟩).2
  · have hbL : b ≠ L := by rintro rfl; exact hbM hLM
    exact kk b o (by simpa using hbL) (e₂.heap b o hbT (by simpa using hba) e)
end
end Mine
end

section
open PySem PySem.W PySem.Calls PyProof.Rows
set_option Elab.async false
set_option linter.unusedSimpArgs false
set_option linter.unusedVariables false
namespace Mine

noncomputable def Ls (O : List Addr) (h : Heap) (l : Addr) (n : Nat) (R : Nat → Value → List Addr → Heap → Prop) : Prop := ∃ vs, Lst O h l vs ∧ vs.length = n ∧ ∀ k v, vs[k]? = some v → R k v O h
noncomputable def UpC (R : Nat → Value → List Addr → Heap → Prop) : Prop := ∀ k v O h O' h', R k v O h → Up O h O' h' → R k v O' h'
theorem Ls.up {O h l n R O' h'} (x : Ls O h l n R) (c : UpC R) (u : Up O h O' h') : Ls O' h' l n R := by
  obtain ⟨vs, a, b, e⟩ := x
  exact ⟨vs, a.up u, b, fun k v q => c _ _ _ _ _ _ (e k v q) u⟩
theorem Ls.mono {O h l n R R'} (x : Ls O h l n R) (f : ∀ k v, k < n → R k v O h → R' k v O h) : Ls O h l n R' := by
  obtain ⟨vs, a, b, e⟩ := x
  refine ⟨vs, a, b, fun k v q => f k v ?_ (e k v q)⟩
  have := (List.getElem?_eq_some_iff.mp q).1
  omega
noncomputable def Low (O : List Addr) (h : Heap) : Prop := ∀ b ∈ O, ∃ o, h.get? b = some o
/-- a wider mutable set, for what is made anew -/
structure Bg (O O₂ : List Addr) (h : Heap) : Prop where
  sub : ∀ b ∈ O, b ∈ O₂
  low : Low O₂ h
theorem Bg.go {T W O O₂ c c'} (B : Bg O O₂ c.h) (x : Ext T W c c') : Bg O O₂ c'.h := ⟨B.sub, fun b hb => by
  obtain ⟨o, e⟩ := B.low b hb
  exact x.there b o e⟩
theorem Bg.of {O O₂ h h'} (B : Bg O O₂ h) (x : ∀ b o, h.get? b = some o → ∃ o', h'.get? b = some o') : Bg O O₂ h' := ⟨B.sub, fun b hb => by
  obtain ⟨o, e⟩ := B.low b hb
  exact x b o e⟩
theorem Bg.more {O O₂ h} (B : Bg O O₂ h) {M : List Addr} (l : Low M h) : Bg (M ++ O) (M ++ O₂) h := ⟨fun b hb => by
  rcases List.mem_append.mp hb with q | q
  · exact List.mem_append_left _ q
  · exact List.mem_append_right _ (B.sub b q), fun b hb => by
  rcases List.mem_append.mp hb with q | q
  · exact l b q
  · exact B.low b q⟩
theorem Bg.less {O O₂ h h' O'} (B : Bg O O₂ h) (l : ∀ b ∈ O', b ∈ O₂) : Up O₂ h' O' h' := Up.less l
noncomputable def Kp (V : List Addr) (h h' : Heap) : Prop := ∀ b ∈ V, ∀ o, h.get? b = some o → h'.get? b = some o
noncomputable def UpS (V : List Addr) (S : Nat → List Addr → Heap → Prop) : Prop := ∀ i O h O' h', S i O h → Up O h O' h' → Kp V h h' → S i O' h'

section
variable {prog : Program} {w : World} {A : Around} {E : Value → Shared → Prop} {c c₀ : Cr} {d : Drawn} {t : Nat} {os : OsState} {env : Env} {m : Str → Option Value} {T W O O₂ V : List Addr}

structure CompIn (prog : Program) (w : World) (A : Around) (d : Drawn) (os : OsState) (c₀ c₁ : Cr) (T W V O O₂ : List Addr) (env : Env) (m : Str → Option Value) (xv : Value) (n : Nat) (P : Nat → Value → Prop) (elt : Expr) (x : Str) (scope : Scope) (cl : List (Str × Addr))
    (El : Nat → Value → List Addr → Heap → Prop) (S : Nat → List Addr → Heap → Prop) : Prop where
  F : Fx T W c₀ c₁ O env m
  it : IterIn prog w A T V d os xv c₁ n P
  sz : n ≤ sizeLine
  v : ∀ b ∈ V, (c₀.h.get? b = none ∨ b ∈ W) ∧ b ∉ ownOf env ∧ b ∈ O ∧ b ∉ T
  big : Bg O O₂ c₁.h
  up : UpC El
  upS : UpS V S
  s0 : S 0 O₂ c₁.h
  elt : ∀ M i v nn L c t Q' E', (∀ b ∈ M, c₁.h.get? b = none ∨ b ∈ O) → (∀ b ∈ V, b ∉ M) → i < n → P i v → Fx T W c₀ c (M ++ O) (cEnv scope (cellsFrom nn scope.names cl) L env) (upd (cNames scope m) x v) → Ext T V c₁ c → Up O c₁.h (M ++ O) c.h → Up O₂ c₁.h (M ++ O₂) c.h →
        Bg (M ++ O) (M ++ O₂) c.h → S i (M ++ O₂) c.h →
        (∀ c' t' y, Ext T V c c' → El i y (M ++ O₂) c'.h → S (i + 1) (M ++ O₂) c'.h → Q' y ⟨c'.h, c'.g, d, t', os⟩) → wpAny (model prog w) A (eval elt (cEnv scope (cellsFrom nn scope.names cl) L env)) Q' E' ⟨c.h, c.g, d, t, os⟩


theorem comp_list {elt iter : Expr} {x : Str} {px : Pos} {scope : Scope} {pos : Pos} {cl : List (Str × Addr)} {Q : Value → Shared → Prop} (El : Nat → Value → List Addr → Heap → Prop) (S : Nat → List Addr → Heap → Prop)
    (h : wpAny (model prog w) A (eval iter env) (fun xv s₁ => ∃ c₁ t₁ n P, s₁ = ⟨c₁.h, c₁.g, d, t₁, os⟩ ∧ CompIn prog w A d os c₀ c₁ T W V O O₂ env m xv n P elt x scope cl El S ∧
      (∀ D c' t', c₁.h.get? D = none → Fx T W c₀ c' O env m → Ext T V c₁ c' → Up O c₁.h O c'.h → Up O₂ c₁.h O₂ c'.h → Bg O O₂ c'.h → Ls O₂ c'.h D n El → S n O₂ c'.h → Q (.ref D) ⟨c'.h, c'.g, d, t', os⟩)) E ⟨c.h, c.g, d, t, os⟩)
    (hs : ∀ x, foldedSetIterable iter env x = pure x := by intro _; rfl)
    (hcl : closL env.cells scope.names [] = some cl := by rfl) (hok : scopeOk scope env = true := by rfl) (hk : scope.kind = .function := by rfl) (hfree : scope.names.lookup x ≠ some .free := by decide)
    (hnames : ∀ y ∈ scope.names, y.2 = .local → scope.names.lookup y.1 = some .local := by decide)
    (hx : ∀ nn L, isVar (cEnv scope (cellsFrom nn scope.names cl) L env) x = true ∧ ((cEnv scope (cellsFrom nn scope.names cl) L env).kindOf x == some .free) = false := by exact fun _ _ => ⟨rfl, rfl⟩) :
    wpAny (model prog w) A (eval (.ListComp elt [⟨.Name x px, iter, [], 0⟩] scope pos) env) Q E ⟨c.h, c.g, d, t, os⟩ := by
  refine comp_rule (V := V) (O := O) (W := W) (T := T) (c₀ := c₀) (m := m) (fun M i ys c => ys.length = i ∧ (∀ k y, ys[k]? = some y → El k y (M ++ O₂) c.h) ∧ S i (M ++ O₂) c.h ∧ (∀ b ∈ V, b ∉ M) ∧ (∀ b ∈ V, b ∉ T) ∧ (∀ b ∈ T, b ∈ O₂) ∧ (∀ b ∈ V, b ∈ O₂)) hcl hok hk hfree hnames hx (wpAny_mono h (fun xv s₁ h₁ => ?_) fun _ _ e => e) hs
  obtain ⟨c₁, t₁, n, P, rfl, I, hQ⟩ := h₁
  have tO₂ : ∀ b ∈ T, b ∈ O₂ := fun b hb => I.big.sub b (I.F.tin b hb)
  have vO₂ : ∀ b ∈ V, b ∈ O₂ := fun b hb => I.big.sub b (I.v b hb).2.2.1
  have upM : ∀ M cc, (∀ b ∈ M, c₁.h.get? b = none ∨ b ∈ O) → Ext T V c₁ cc → Up O₂ c₁.h (M ++ O₂) cc.h := fun M cc hM ex b o e => ⟨fun q => by
    rcases List.mem_append.mp q with q | q
    · rcases hM b q with z | z
      · rw [e.2] at z; cases z
      · exact e.1 (I.big.sub b z)
    · exact e.1 q, ex.heap b o (fun q => e.1 (tO₂ b q)) (fun q => e.1 (vO₂ b q)) e.2⟩
  refine ⟨c₁, t₁, n, P, rfl, I.F, I.it, I.sz, I.v, ?_, ?_, ?_, ?_⟩
  · rintro M i ys c c' ⟨h1, h2, h3, h4, h5, h6, h7⟩ k
    have u : Up (M ++ O₂) c.h (M ++ O₂) c'.h := fun b o e => ⟨e.1, k b o (fun q => e.1 (List.mem_append_left _ q)) (fun q => e.1 (List.mem_append_right _ (h6 b q))) e.2⟩
    exact ⟨h1, fun k y e => I.up _ _ _ _ _ _ (h2 k y e) u, I.upS _ _ _ _ _ h3 u (fun b hb o e => k b o (h4 b hb) (h5 b hb) e), h4, h5, h6, h7⟩
  · intro M c₂ ex hM hVM u
    refine ⟨rfl, by simp, I.upS _ _ _ _ _ I.s0 (upM M c₂ hM ex.nil) (fun b hb o e => ex.heap b o (I.v b hb).2.2.2 (by simp) e), hVM, fun b hb => (I.v b hb).2.2.2, tO₂, vO₂⟩
  · rintro M i v ys nn L c t Q' E' hM hVM hi hP F ex u ⟨h1, h2, h3, h4, h5, h6, h7⟩ hq
    have lowM : Bg (M ++ O) (M ++ O₂) c.h := ⟨fun b hb => by
      rcases List.mem_append.mp hb with q | q
      · exact List.mem_append_left _ q
      · exact List.mem_append_right _ (I.big.sub b q), fun b hb => by
      rcases List.mem_append.mp hb with q | q
      · exact F.low b (List.mem_append_left _ q)
      · obtain ⟨o, e⟩ := I.big.low b q
        exact ex.there b o e⟩
    refine I.elt M i v nn L c t Q' E' hM hVM hi hP F ex u (upM M c hM ex) lowM h3 fun c' t' y e' hy hS => hq c' t' y e' ⟨by simp [h1], fun k z hz => ?_, hS, h4, h5, h6, h7⟩
    rcases Nat.lt_or_ge k ys.length with q | q
    · rw [List.getElem?_append_left q] at hz
      exact I.up _ _ _ _ _ _ (h2 k z hz) (e'.up (fun b hb => List.mem_append_right _ (h6 b hb)) fun b hb => List.mem_append_right _ (h7 b hb))
    · rw [List.getElem?_append_right q] at hz
      have : k - ys.length = 0 := by
        rcases Nat.eq_zero_or_pos (k - ys.length) with z | z
        · exact z
        · rw [List.getElem?_eq_none (by simp; omega)] at hz; cases hz
      rw [this] at hz
      simp at hz
      subst hz
      have : k = i := by omega
      subst this
      exact hy
  · rintro M D c' t' ys F ex u hD hDO hl hlen ⟨h1, h2, h3, h4, h5, h6, h7⟩
    have less : Up (M ++ O₂) c'.h O₂ c'.h := Up.less fun b hb => List.mem_append_right _ hb
    exact hQ D c' t' hD F ex u (ex.up tO₂ vO₂) (I.big.go ex) ⟨ys, ⟨fun q => (by obtain ⟨o, e⟩ := I.big.low D q; rw [hD] at e; cases e), hl⟩, hlen, fun k y e => I.up _ _ _ _ _ _ (h2 k y e) less⟩ (I.upS _ _ _ _ _ h3 less fun _ _ _ e => e)

theorem comp_list_assign {elt iter : Expr} {x y : Str} {px py : Pos} {scope : Scope} {pos spos : Pos} {cl : List (Str × Addr)} {Q : Flow → Shared → Prop} (El : Nat → Value → List Addr → Heap → Prop) (S : Nat → List Addr → Heap → Prop)
    (h : wpAny (model prog w) A (eval iter env) (fun xv s₁ => ∃ c₁ t₁ n P, s₁ = ⟨c₁.h, c₁.g, d, t₁, os⟩ ∧ CompIn prog w A d os c₀ c₁ T W V O O₂ env m xv n P elt x scope cl El S ∧
      (∀ D c' t', c₁.h.get? D = none → Fx T W c₀ c' O env (upd m y (.ref D)) → Up O c₁.h O c'.h → Up O₂ c₁.h O₂ c'.h → Bg O O₂ c'.h → Ls O₂ c'.h D n El → S n O₂ c'.h → Q .next ⟨c'.h, c'.g, d, t', os⟩)) E ⟨c.h, c.g, d, t, os⟩)
    (hs : ∀ x, foldedSetIterable iter env x = pure x := by intro _; rfl)
    (hcl : closL env.cells scope.names [] = some cl := by rfl) (hok : scopeOk scope env = true := by rfl) (hk : scope.kind = .function := by rfl) (hfree : scope.names.lookup x ≠ some .free := by decide)
    (hnames : ∀ y ∈ scope.names, y.2 = .local → scope.names.lookup y.1 = some .local := by decide)
    (hx : ∀ nn L, isVar (cEnv scope (cellsFrom nn scope.names cl) L env) x = true ∧ ((cEnv scope (cellsFrom nn scope.names cl) L env).kindOf x == some .free) = false := by exact fun _ _ => ⟨rfl, rfl⟩)
    (hy : isVar env y = true := by rfl) (hyf : (env.kindOf y == some .free) = false := by rfl) (hsw : swapsWith (.ListComp elt [⟨.Name x px, iter, [], 0⟩] scope pos) (some (.Name y py)) spos.line env = pure true := by rfl) :
    wpAny (model prog w) A (exec (.Assign [.Name y py] (.ListComp elt [⟨.Name x px, iter, [], 0⟩] scope pos) spos) env) Q E ⟨c.h, c.g, d, t, os⟩ := by
  refine comp_assign (V := V) (O := O) (W := W) (T := T) (c₀ := c₀) (m := m) (fun M i ys c => ys.length = i ∧ (∀ k y, ys[k]? = some y → El k y (M ++ O₂) c.h) ∧ S i (M ++ O₂) c.h ∧ (∀ b ∈ V, b ∉ M) ∧ (∀ b ∈ V, b ∉ T) ∧ (∀ b ∈ T, b ∈ O₂) ∧ (∀ b ∈ V, b ∈ O₂)) hsw hcl hok hk hfree hnames hx hy hyf (wpAny_mono h (fun xv s₁ h₁ => ?_) fun _ _ e => e) hs
  obtain ⟨c₁, t₁, n, P, rfl, I, hQ⟩ := h₁
  have tO₂ : ∀ b ∈ T, b ∈ O₂ := fun b hb => I.big.sub b (I.F.tin b hb)
  have vO₂ : ∀ b ∈ V, b ∈ O₂ := fun b hb => I.big.sub b (I.v b hb).2.2.1
  have upM : ∀ M cc, (∀ b ∈ M, c₁.h.get? b = none ∨ b ∈ O) → Ext T V c₁ cc → Up O₂ c₁.h (M ++ O₂) cc.h := fun M cc hM ex b o e => ⟨fun q => by
    rcases List.mem_append.mp q with q | q
    · rcases hM b q with z | z
      · rw [e.2] at z; cases z
      · exact e.1 (I.big.sub b z)
    · exact e.1 q, ex.heap b o (fun q => e.1 (tO₂ b q)) (fun q => e.1 (vO₂ b q)) e.2⟩
  refine ⟨c₁, t₁, n, P, rfl, I.F, I.it, I.sz, I.v, ?_, ?_, ?_, ?_⟩
  · rintro M i ys c c' ⟨h1, h2, h3, h4, h5, h6, h7⟩ k
    have u : Up (M ++ O₂) c.h (M ++ O₂) c'.h := fun b o e => ⟨e.1, k b o (fun q => e.1 (List.mem_append_left _ q)) (fun q => e.1 (List.mem_append_right _ (h6 b q))) e.2⟩
    exact ⟨h1, fun k y e => I.up _ _ _ _ _ _ (h2 k y e) u, I.upS _ _ _ _ _ h3 u (fun b hb o e => k b o (h4 b hb) (h5 b hb) e), h4, h5, h6, h7⟩
  · intro M c₂ ex hM hVM u
    refine ⟨rfl, by simp, I.upS _ _ _ _ _ I.s0 (upM M c₂ hM ex.nil) (fun b hb o e => ex.heap b o (I.v b hb).2.2.2 (by simp) e), hVM, fun b hb => (I.v b hb).2.2.2, tO₂, vO₂⟩
  · rintro M i v ys nn L c t Q' E' hM hVM hi hP F ex u ⟨h1, h2, h3, h4, h5, h6, h7⟩ hq
    have lowM : Bg (M ++ O) (M ++ O₂) c.h := ⟨fun b hb => by
      rcases List.mem_append.mp hb with q | q
      · exact List.mem_append_left _ q
      · exact List.mem_append_right _ (I.big.sub b q), fun b hb => by
      rcases List.mem_append.mp hb with q | q
      · exact F.low b (List.mem_append_left _ q)
      · obtain ⟨o, e⟩ := I.big.low b q
        exact ex.there b o e⟩
    refine I.elt M i v nn L c t Q' E' hM hVM hi hP F ex u (upM M c hM ex) lowM h3 fun c' t' y e' hy hS => hq c' t' y e' ⟨by simp [h1], fun k z hz => ?_, hS, h4, h5, h6, h7⟩
    rcases Nat.lt_or_ge k ys.length with q | q
    · rw [List.getElem?_append_left q] at hz
      exact I.up _ _ _ _ _ _ (h2 k z hz) (e'.up (fun b hb => List.mem_append_right _ (h6 b hb)) fun b hb => List.mem_append_right _ (h7 b hb))
    · rw [List.getElem?_append_right q] at hz
      have : k - ys.length = 0 := by
        rcases Nat.eq_zero_or_pos (k - ys.length) with z | z
        · exact z
        · rw [List.getElem?_eq_none (by simp; omega)] at hz; cases hz
      rw [this] at hz
      simp at hz
      subst hz
      have : k = i := by omega
      subst this
      exact hy
  · rintro M D a c' t' ys F hloc ex u hD hDO hl hlen ⟨cj, ⟨h1, h2, h3, h4, h5, h6, h7⟩, uj, kj⟩
    have haO : a ∈ O := F.own a hloc.own
    have haO₂ : a ∈ O₂ := I.big.sub a haO
    have less : Up (M ++ O₂) cj.h O₂ c'.h := fun b o e => ⟨fun q => e.1 (List.mem_append_right _ q), kj b o (by rintro rfl; exact e.1 (List.mem_append_right _ haO₂)) (fun q => e.1 (List.mem_append_left _ q)) (fun q => e.1 (List.mem_append_right _ (tO₂ b q))) e.2⟩
    have vO' : ∀ b ∈ a :: V, b ∈ O₂ := fun b hb => by
      rcases List.mem_cons.mp hb with rfl | hb
      · exact haO₂
      · exact vO₂ b hb
    exact hQ D c' t' hD F u (ex.up tO₂ vO') (I.big.go ex) ⟨ys, ⟨fun q => (by obtain ⟨o, e⟩ := I.big.low D q; rw [hD] at e; cases e), hl⟩, hlen, fun k y e => I.up _ _ _ _ _ _ (h2 k y e) less⟩
      (I.upS _ _ _ _ _ h3 less fun b hb o e => kj b o (by rintro rfl; exact (I.v b hb).2.1 hloc.own) (h4 b hb) (h5 b hb) e)

/-! loops -/
theorem Up.cons {O h h'} (I : Addr) (u : Up O h O h') : Up (I :: O) h (I :: O) h' := fun b o e => ⟨e.1, (u b o ⟨fun q => e.1 (.tail _ q), e.2⟩).2⟩
theorem Up.wide {O O₂ h h'} (u : Up O h O h') (s : ∀ b ∈ O, b ∈ O₂) : Up O₂ h O₂ h' := fun b o e => ⟨e.1, (u b o ⟨fun q => e.1 (s b q), e.2⟩).2⟩
structure ForIn (prog : Program) (w : World) (A : Around) (d : Drawn) (os : OsState) (c₀ c₁ : Cr) (T W V O O₂ : List Addr) (env : Env) (m : Str → Option Value) (xv : Value) (n : Nat) (P : Nat → Value → Prop) (body : List Stmt) (x : Str)
    (S : Nat → (Str → Option Value) → List Addr → Heap → Prop) : Prop where
  F : Fx T W c₀ c₁ O env m
  it : IterIn prog w A T O d os xv c₁ n P
  v : ∀ b ∈ V, b ∉ ownOf env ∧ b ∈ O ∧ b ∉ T
  big : Bg O O₂ c₁.h
  up : ∀ i mm O h O' h', S i mm O h → Up O h O' h' → Kp V h h' → S i mm O' h'
  s0 : S 0 m O₂ c₁.h
  turn : ∀ I i v c mm t R E', c₁.h.get? I = none → I ∉ O₂ → (∃ o, c.h.get? I = some o) → i < n → P i v → Fx T W c₀ c O env (upd mm x v) → Up O c₁.h O c.h → Up O₂ c₁.h (I :: O₂) c.h → Bg O (I :: O₂) c.h → S i mm (I :: O₂) c.h →
      (∀ c' t' mm', Fx T W c₀ c' O env mm' → Up O c.h O c'.h → S (i + 1) mm' (I :: O₂) c'.h → R Flow.next ⟨c'.h, c'.g, d, t', os⟩) →
      wpAny (model prog w) A (execs body env) R E' ⟨c.h, c.g, d, t, os⟩
theorem for_rule {iter : Expr} {body : List Stmt} {x : Str} {px pos : Pos} {Q : Flow → Shared → Prop} (S : Nat → (Str → Option Value) → List Addr → Heap → Prop) (hx : isVar env x = true) (hxf : (env.kindOf x == some .free) = false)
    (h : wpAny (model prog w) A (eval iter env) (fun xv s₁ => ∃ c₁ t₁ n P, s₁ = ⟨c₁.h, c₁.g, d, t₁, os⟩ ∧ ForIn prog w A d os c₀ c₁ T W V O O₂ env m xv n P body x S ∧
      (∀ c' t' mm, Fx T W c₀ c' O env mm → Up O c₁.h O c'.h → Up O₂ c₁.h O₂ c'.h → Bg O O₂ c'.h → S n mm O₂ c'.h → Q .next ⟨c'.h, c'.g, d, t', os⟩)) E ⟨c.h, c.g, d, t, os⟩)
    (hs : ∀ x, foldedSetIterable iter env x = pure x := by intro _; rfl) :
    wpAny (model prog w) A (exec (.For (.Name x px) iter body [] pos) env) Q E ⟨c.h, c.g, d, t, os⟩ := by
  refine wpAny_For (wpAny_mono h (fun xv s₁ h₁ => ?_) fun _ _ e => e) hs
  obtain ⟨c₁, t₁, n, P, rfl, FI, hQ⟩ := h₁
  obtain ⟨F₁, hit, hv, big, up, s0, turn⟩ := FI
  refine hit _ _ _ fun c₂ I fp St e₂ hI hIT Wk hIo st₀ hfp hg => ?_
  have F₂ := F₁.go e₂.nil
  have hIO₂ : I ∉ O₂ := fun q => by obtain ⟨o, e⟩ := big.low I q; rw [hI] at e; cases e
  have hIO : I ∉ O := fun q => hIO₂ (big.sub I q)
  have tO₂ : ∀ b ∈ T, b ∈ O₂ := fun b hb => big.sub b (F₁.tin b hb)
  have hIown : I ∉ ownOf env := fun q => hIO (F₁.own I q)
  have hI0 : c₀.h.get? I = none := by
    cases q : c₀.h.get? I with
    | none => rfl
    | some o => obtain ⟨o', e'⟩ := F₁.ext.there I o q; rw [hI] at e'; cases e'
  have vKeep : Kp V c₁.h c₂.h := fun b hb o e => e₂.heap b o (hv b hb).2.2 (by simp) e
  have u₂ : Up O c₁.h O c₂.h := F₁.upE e₂.nil
  have upI : ∀ cc : Heap, (∀ b o, b ∉ O → c₁.h.get? b = some o → cc.get? b = some o) → Up O₂ c₁.h (I :: O₂) cc := fun cc k b o e => ⟨fun q => by
    rcases List.mem_cons.mp q with rfl | q
    · have := e.2; rw [hI] at this; cases this
    · exact e.1 q, k b o (fun q => e.1 (big.sub b q)) e.2⟩
  have c₁there : ∀ cc : Cr, Ext T W c₀ cc → True := fun _ _ => trivial
  let Inv : Nat → Shared → Prop := fun k s => ∃ i c t mm, k = n - i ∧ i ≤ n ∧ s = ⟨c.h, c.g, d, t, os⟩ ∧ Fx T W c₀ c O env mm ∧ St i c.h ∧ Up O c₁.h O c.h ∧ (∃ o, c.h.get? I = some o) ∧ Bg O (I :: O₂) c.h ∧ S i mm (I :: O₂) c.h
  refine codeAny_forLoop Inv (fun k s hI' => ?_) (n - 0) ⟨0, c₂, t₁, m, rfl, Nat.zero_le _, rfl, F₂, st₀, u₂, hIo _ _ st₀, ⟨fun b hb => .tail _ (big.sub b hb), fun b hb => ?_⟩, up _ _ _ _ _ _ s0 (upI _ fun b o hb e => (u₂ b o ⟨hb, e⟩).2) vKeep⟩
  · obtain ⟨i, c, t, mm, rfl, hi, rfl, F, st, u, hIe, bg, hS⟩ := hI'
    by_cases hlt : i < n
    · refine Wk.item i _ _ _ hlt st fun v h' tk hP st' hk' => ?_
      have eI' : Ext T [I] c ⟨h', c.g⟩ := Ext.butk (fun b o ne e => hk' b o (by simpa using ne) e) hIT (by simp) (hIo _ _ st')
      have F' : Fx T W c₀ ⟨h', c.g⟩ O env mm := ⟨F.ext.absorb eI' fun b hb => .inl (by rw [List.mem_singleton.mp hb]; exact hI0), F.vars.keeps fun b hb o e => hk' b o (by simp; rintro rfl; exact hIown hb) e, F.own, F.tin, F.win, fun b hb => by
        obtain ⟨o, e⟩ := F.low b hb
        exact eI'.there b o e, F.new, eI'.tab F.tab⟩
      have uI : Up (I :: O₂) c.h (I :: O₂) h' := fun b o e => ⟨e.1, hk' b o (by simp; rintro rfl; exact e.1 (List.mem_cons_self ..)) e.2⟩
      have S' := up _ _ _ _ _ _ hS uI fun b hb o e => hk' b o (by simp; rintro rfl; exact hIO (hv b hb).2.1) e
      have u' : Up O c₁.h O h' := fun b o e => ⟨e.1, hk' b o (by simp; rintro rfl; (have := e.2); (rw [hI] at this); cases this) (u b o e).2⟩
      refine wpAny_assign_Name (fx_store F' (fun c₅ t₅ a hloc F₅ u₅ e₅ hg₅ => ?_) hx hxf)
      have haO : a ∈ O := F.own a hloc.own
      have u₅' : Up (I :: O₂) h' (I :: O₂) c₅.h := (u₅.wide big.sub).cons I
      have S₅ := up _ _ _ _ _ _ S' u₅' fun b hb o e => e₅.heap b o (hv b hb).2.2 (by simp; rintro rfl; exact (hv _ hb).1 hloc.own) e
      have bg₅ : Bg O (I :: O₂) c₅.h := bg.of fun b o e => by
        obtain ⟨o', e'⟩ := eI'.there b o e
        exact e₅.there b o' e'
      obtain ⟨oI, eI⟩ := hIo _ _ st'
      refine turn I i v c₅ mm t₅ _ _ hI hIO₂ ⟨oI, e₅.heap I oI hIT (by simp; rintro rfl; exact hIown hloc.own) eI⟩ hlt hP F₅ (u'.trans u₅) (upI _ fun b o hb e => (u₅ b o (u' b o ⟨hb, e⟩)).2) bg₅ S₅ fun c₆ t₆ mm' F₆ u₆ S₆ => ?_
      have st₅ : St (i + 1) c₅.h := Wk.frame _ _ _ st' fun b hb o e => by
        rcases hfp b hb with rfl | ⟨_, hbT, hbO⟩
        · exact e₅.heap _ o hIT (by simp; rintro rfl; exact hIown hloc.own) e
        · exact e₅.heap _ o hbT (by simp; rintro rfl; exact hbO haO) e
      have st₆ : St (i + 1) c₆.h := Wk.frame _ _ _ st₅ fun b hb o e => by
        rcases hfp b hb with rfl | ⟨_, hbT, hbO⟩
        · exact (u₆ _ o ⟨hIO, e⟩).2
        · exact (u₆ _ o ⟨hbO, e⟩).2
      obtain ⟨oI₅, eI₅⟩ := hIo _ _ st₅
      exact ⟨n - (i + 1), by omega, i + 1, c₆, t₆, mm', rfl, hlt, rfl, F₆, st₆, (u'.trans u₅).trans u₆, hIo _ _ st₆, ⟨bg₅.sub, fun b hb => by
        rcases List.mem_cons.mp hb with rfl | hb
        · exact hIo _ _ st₆
        · by_cases q : b ∈ O
          · exact F₆.low b q
          · obtain ⟨o, e⟩ := bg₅.low b (.tail _ hb)
            exact ⟨o, (u₆ b o ⟨q, e⟩).2⟩⟩, S₆⟩
    · obtain rfl : i = n := Nat.le_antisymm hi (Nat.not_lt.mp hlt)
      refine Wk.done _ _ _ st fun h' tk hk' => wpAny_execs_nil ?_
      have kk : ∀ b o, b ∉ [I] → c.h.get? b = some o → h'.get? b = some o := fun b o hb e => hk' b o hb e
      have F' : Fx T W c₀ ⟨h', c.g⟩ O env mm := ⟨F.ext.lose kk fun b hb => by rw [List.mem_singleton.mp hb]; exact ⟨hI0, hIT⟩, F.vars.keeps fun b hb o e => kk b o (by simp; rintro rfl; exact hIown hb) e, F.own, F.tin, F.win, fun b hb => by
        obtain ⟨o, e⟩ := F.low b hb
        exact ⟨o, kk b o (by simp; rintro rfl; exact hIO hb) e⟩, F.new, fun P hP => by
        obtain ⟨vs, e, q⟩ := F.tab P hP
        exact ⟨vs, kk P _ (by simp; rintro rfl; exact hIT hP) e, q⟩⟩
      have u' : Up O c₁.h O h' := fun b o e => ⟨e.1, kk b o (by simp; rintro rfl; (have := e.2); (rw [hI] at this); cases this) (u b o e).2⟩
      refine hQ ⟨h', c.g⟩ _ mm F' u' (u'.wide big.sub) ⟨big.sub, fun b hb => ?_⟩ (up _ _ _ _ _ _ hS (fun b o e => ⟨fun q => e.1 (.tail _ q), kk b o (by simp; rintro rfl; exact e.1 (List.mem_cons_self ..)) e.2⟩) fun b hb o e => kk b o (by simp; rintro rfl; exact hIO (hv b hb).2.1) e)
      obtain ⟨o, e⟩ := bg.low b (.tail _ hb)
      exact ⟨o, kk b o (by simp; rintro rfl; exact hIO₂ hb) e⟩
  · rcases List.mem_cons.mp hb with rfl | hb
    · exact hIo _ _ st₀
    · obtain ⟨o, e⟩ := big.low b hb
      exact e₂.there b o e
end
end Mine
end

section
open PySem PySem.W PySem.Calls PyProof.Rows
set_option Elab.async false
set_option maxRecDepth 100000
namespace Mine
noncomputable def T0 : List Addr := [318, 360]
noncomputable def KK (P : Params) : Frag := (hd.heap_1 P).filter fun p => !(T0.contains p.1)
theorem lookup_filter (q : Addr → Bool) (a : Addr) (hq : q a = true) : ∀ l : Frag, (l.filter fun p => q p.1).lookup a = l.lookup a
  | [] => rfl
  | (b, o) :: r => by
    rw [List.filter_cons]
    by_cases hb : a = b
    · subst hb; simp [hq]
    · have : (a == b) = false := by simpa using hb
      split
      · rw [List.lookup_cons, List.lookup_cons, this, lookup_filter q a hq r]
      · rw [List.lookup_cons, this, lookup_filter q a hq r]
theorem kk_lookup {P : Params} {a : Addr} {o : Option Obj} (h : (hd.heap_1 P).lookup a = o) (hq : (!(T0.contains a)) = true) : (KK P).lookup a = o :=
  (lookup_filter (fun a => !(T0.contains a)) a hq _).trans h
set_option maxHeartbeats 4000000
theorem reg : PySem.Challenge.rw_yd0003_04 = PySem.Challenge.rw_yd0003_04 ∧ hd.heap_1 = hd.heap_1 := by k_fill; exact ⟨rfl, rfl⟩
end Mine
end

section
open PySem PySem.W PySem.Calls PyProof.Rows
set_option Elab.async false
set_option maxRecDepth 100000
namespace Mine
theorem reg3 : PySem.Challenge.rw_yd0003_04 = PySem.Challenge.rw_yd0003_04 ∧ hd.heap_1 = hd.heap_1 := by k_fill; exact ⟨rfl, rfl⟩
theorem kf_ns3 (P : Params) : ∃ c d es n sl, (KK P).lookup 3 = some ⟨c, d, .dict es n, sl⟩ ∧ (es.toList.all fun e => match e.key with | .str _ _ => true | _ => false) = true :=
  ⟨_, _, _, _, _, kk_lookup (by k_is) rfl, by kernel_rfl⟩
theorem kf_ns0 (P : Params) : ∃ c d es n sl, (KK P).lookup 0 = some ⟨c, d, .dict es n, sl⟩ ∧ (es.toList.all fun e => match e.key with | .str _ _ => true | _ => false) = true :=
  ⟨_, _, _, _, _, kk_lookup (by k_is) rfl, by kernel_rfl⟩
theorem kf_ns2 (P : Params) : (KK P).lookup 2 = some ⟨.none, none, .dict #[] 0, #[]⟩ := kk_lookup (by k_is) rfl
theorem strKeys_of {es : Array DictEntry} (h : (es.toList.all fun e => match e.key with | .str _ _ => true | _ => false) = true) : StrKeys es := fun e he => by
  have := List.all_eq_true.mp h e (Array.mem_toList_iff.mpr he)
  split at this
  · rename_i n t q; exact ⟨n, t, q⟩
  · cases this

/-- the written part stands, off O -/
noncomputable def Wd (P : Params) (O : List Addr) (h : Heap) : Prop := ∀ a o, (KK P).lookup a = some o → At O h a o
theorem Wd.up {P O h O' h'} (x : Wd P O h) (u : Up O h O' h') : Wd P O' h' := fun a o e => (x a o e).up u
theorem Wd.k {P O h} (x : Wd P O h) : (KK P).In h := fun a o e => (x a o e).2
theorem Wd.lim {P O h} (x : Wd P O h) : h.NoLimit := ⟨fun _ => none, ⟨_, _, _, (x _ _ (kf_ns2 P)).2, rfl, by intro e he; simp at he, fun _ => rfl⟩, rfl⟩
theorem Wd.g {P O h} (x : Wd P O h) : ∃ mg, h.Ns 3 mg := let ⟨_, _, _, _, _, e, k⟩ := kf_ns3 P; ⟨_, _, _, _, (x _ _ e).2, rfl, strKeys_of k, fun _ => rfl⟩
theorem Wd.b {P O h} (x : Wd P O h) : ∃ mb, h.Ns 0 mb := let ⟨_, _, _, _, _, e, k⟩ := kf_ns0 P; ⟨_, _, _, _, (x _ _ e).2, rfl, strKeys_of k, fun _ => rfl⟩
theorem ns_find {K : Frag} {h : Heap} {mg : Str → Option Value} {a : Addr} {n : Str} {v : Option Value} (X : K.In h) (G : h.Ns a mg) (e : nsIn K a n = some v) : mg n = v := by
  obtain ⟨o, es, ep, ho, hd, _, hf⟩ := G
  unfold nsIn at e
  split at e
  · rename_i c d es' n' sl q
    have := X _ _ q
    rw [ho] at this
    cases this
    cases hd
    rw [← hf]
    unfold nsFind findBy
    rw [← Array.find?_toList]
    split at e
    · rename_i en he; cases e; rw [he]; rfl
    · rename_i he
      rw [he]
      split at e
      · cases e
      · cases e; rfl
  · cases e

section
variable {prog : Program} {w : World} {A : Around} {E : Value → Shared → Prop} {hp : Heap} {g : Array GenState} {d : Drawn} {t : Nat} {os : OsState} {O : List Addr} {env : Env}
theorem gl_name {x : Str} {pos : Pos} {v : Value} {Q : Value → Shared → Prop} (X : Wd w.params O hp) (e : nsIn (KK w.params) 3 x = some (some v)) (h : Q v ⟨hp, g, d, t, os⟩)
    (hk : env.scope.kind = .function := by rfl) (hg : env.globals = 3 := by rfl) (hx : env.kindOf x = some .globalImplicit := by rfl) (hd : (x == ("__debug__" : Str)) = false := by decide) :
    wpAny (model prog w) A (eval (.Name x pos) env) Q E ⟨hp, g, d, t, os⟩ := by
  obtain ⟨mg, G⟩ := X.g
  exact Name_function_global hk hx (loadGlobal_global (hg ▸ G) (ns_find X.k G e) h) hd
theorem bi_name {x : Str} {pos : Pos} {v : Value} {Q : Value → Shared → Prop} (X : Wd w.params O hp) (e : nsIn (KK w.params) 3 x = some none) (eb : nsIn (KK w.params) 0 x = some (some v)) (h : Q v ⟨hp, g, d, t, os⟩)
    (hk : env.scope.kind = .function := by rfl) (hg : env.globals = 3 := by rfl) (hb : env.builtins = 0 := by rfl) (hx : env.kindOf x = some .globalImplicit := by rfl) (hd : (x == ("__debug__" : Str)) = false := by decide) :
    wpAny (model prog w) A (eval (.Name x pos) env) Q E ⟨hp, g, d, t, os⟩ := by
  obtain ⟨mg, G⟩ := X.g
  obtain ⟨mb, B⟩ := X.b
  exact Name_function_global hk hx (loadGlobal_builtin (hg ▸ G) (ns_find X.k G e) (hb ▸ B) (ns_find X.k B eb) h) hd
end

theorem nb_len (P : Params) : nsIn (KK P) 3 "len" = some none := by kernel_rfl
theorem bb_len (P : Params) : nsIn (KK P) 0 "len" = some (some (.builtin "len")) := by kernel_rfl
end Mine
end

section
open PySem PySem.W PySem.Calls PyProof.Rows
set_option Elab.async false
set_option maxRecDepth 100000
set_option linter.unusedSimpArgs false
set_option linter.unusedVariables false
namespace Mine
/-! instances: the words of a dict -/
inductive EsAre : List DictEntry → List (Str × Value) → Prop
  | nil : EsAre [] []
  | cons (hsh : Int) (tk : Tok) {n v es fs} : EsAre es fs → EsAre (⟨hsh, .str n tk, v⟩ :: es) ((n, v) :: fs)
noncomputable def putF (name : Str) (v : Value) : List (Str × Value) → List (Str × Value)
  | [] => [(name, v)]
  | (n, u) :: r => if n == name then (n, v) :: r else (n, u) :: putF name v r
theorem EsAre.get {es fs} (h : EsAre es fs) (name : Str) : getL name es = some (fs.lookup name) := by
  have key : ∀ {es fs}, EsAre es fs → (es.find? (·.key.isStr name)).map (·.val) = fs.lookup name ∧ es.any (·.refKey) = false := by
    intro es fs h
    induction h with
    | nil => exact ⟨rfl, rfl⟩
    | @cons hsh tk n v es fs _ ih =>
      have e : (Value.str n tk).isStr name = (n == name) := rfl
      refine ⟨?_, by rw [List.any_cons, ih.2]; rfl⟩
      rw [List.find?_cons, List.lookup_cons]
      by_cases q : n = name
      · subst q; simp [e]
      · have q1 : (n == name) = false := by simpa using q
        have q2 : (name == n) = false := by simpa using Ne.symm q
        simp only [e, q1, q2]
        exact ih.1
  obtain ⟨h1, h2⟩ := key h
  unfold getL
  cases q : es.find? (·.key.isStr name) with
  | none => rw [q] at h1; simp [← h1, h2]
  | some e => rw [q] at h1; simp [← h1]
theorem EsAre.put {es fs} (h : EsAre es fs) (name : Str) (hsh : Int) (tk : Tok) (v : Value) : EsAre (putL name hsh (.str name tk) v es) (putF name v fs) := by
  induction h with
  | nil => exact .cons hsh tk .nil
  | @cons hs tk' n u es fs h ih =>
    have e : (Value.str n tk').isStr name = (n == name) := rfl
    unfold putL putF
    simp only [e]
    by_cases q : (n == name) = true
    · rw [if_pos q, if_pos q]; exact .cons hs tk' h
    · rw [if_neg q, if_neg q]; exact .cons hs tk' ih
theorem EsAre.len {es fs} (h : EsAre es fs) : es.length = fs.length := by
  induction h with
  | nil => rfl
  | cons _ _ _ ih => simp [ih]

noncomputable def Dic (h : Heap) (dx : Addr) (fs : List (Str × Value)) : Prop := ∃ es n, h.get? dx = some (dictOf es n) ∧ EsAre es fs
structure InD (O : List Addr) (h : Heap) (x C dx : Addr) (fs : List (Str × Value)) : Prop where
  ob : At O h x (instObj C dx)
  dc : Dic h dx fs
noncomputable def Ins (O : List Addr) (h : Heap) (x C : Addr) (fs : List (Str × Value)) : Prop := ∃ dx, dx ∉ O ∧ InD O h x C dx fs
theorem Dic.up {O h O' h' dx fs} (x : Dic h dx fs) (n : dx ∉ O) (u : Up O h O' h') : Dic h' dx fs ∧ dx ∉ O' := by
  obtain ⟨es, k, e, r⟩ := x
  obtain ⟨a, b⟩ := u dx _ ⟨n, e⟩
  exact ⟨⟨es, k, b, r⟩, a⟩
theorem Ins.up {O h O' h' x C fs} (I : Ins O h x C fs) (u : Up O h O' h') : Ins O' h' x C fs := by
  obtain ⟨dx, n, a, b⟩ := I
  exact ⟨dx, (b.up n u).2, a.up u, (b.up n u).1⟩
theorem InD.at {O h x C dx fs} (I : InD O h x C dx fs) : ∃ es n, InstAt h x (instObj C dx) C (some (dictOf es n)) ∧ EsAre es fs := by
  obtain ⟨a, es, n, e, r⟩ := I
  exact ⟨es, n, ⟨a.2, rfl, rfl, e⟩, r⟩
theorem Ins.at {O h x C fs} (I : Ins O h x C fs) : ∃ dx es n, InstAt h x (instObj C dx) C (some (dictOf es n)) ∧ EsAre es fs := by
  obtain ⟨dx, _, I⟩ := I
  exact ⟨dx, I.at⟩

noncomputable def ownOk (K : Frag) (C : Addr) (name : Str) : Bool := plainGet K C name && hasDictIn K C && (match findIn K (.ref C) name with | some attr => noGet K attr | none => false)
noncomputable def methOk (K : Frag) (C : Addr) (name : Str) (f : Addr) : Bool := plainGet K C name && findIn K (.ref C) name == some (some (.ref f)) && typeIn K (.ref f) == some (.type "function") && keepIn K (.ref f)
noncomputable def setOk (K : Frag) (C : Addr) (name : Str) : Bool := findIn K (.ref C) "__setattr__" == some (some (.builtin "object.__setattr__")) && plainOver K C && takerIn K C name == some none && hasDictIn K C

section
variable {prog : Program} {w : World} {A : Around} {E : Value → Shared → Prop} {hp : Heap} {g : Array GenState} {d : Drawn} {t : Nat} {os : OsState} {O : List Addr} {K : Frag} {x C dx : Addr} {fs : List (Str × Value)} {name : Str} {env : Env}
theorem x_getD {v : Value} {Q : Value → Shared → Prop} {b : Bool} (X : K.In hp) (I : InD O hp x C dx fs) (hk : ownOk K C name = true) (hl : fs.lookup name = some v) (hh : handedIn v = true) (h : Q v ⟨hp, g, d, t + 1, os⟩) :
    wpAny (model prog w) A (getAttr (.ref x) name b) Q E ⟨hp, g, d, t, os⟩ := by
  obtain ⟨es, n, J, r⟩ := I.at
  unfold ownOk at hk
  rw [Bool.and_eq_true, Bool.and_eq_true] at hk
  obtain ⟨⟨h1, h2⟩, h3⟩ := hk
  split at h3
  · rename_i attr q
    exact get_value (s := ⟨hp, g, d, t, os⟩) X J (plainGet_of h1).1 (findObj_own h2 q h3 (by rw [lookIn_dict, r.get, hl])) hh h
  · cases h3
theorem x_get {v : Value} {Q : Value → Shared → Prop} {b : Bool} (X : Wd w.params O hp) (I : Ins O hp x C fs) (h : Q v ⟨hp, g, d, t + 1, os⟩) (hl : fs.lookup name = some v := by rfl) (hk : ownOk (KK w.params) C name = true := by kernel_rfl) (hh : handedIn v = true := by rfl) :
    wpAny (model prog w) A (getAttr (.ref x) name b) Q E ⟨hp, g, d, t, os⟩ := by
  obtain ⟨dx, _, I⟩ := I
  exact x_getD X.k I hk hl hh h
theorem x_getM {f : Addr} {pl : Sem Bool} {Q : Value × List Value → Shared → Prop} (X : Wd w.params O hp) (I : Ins O hp x C fs) (h : Q (.ref f, [.ref x]) ⟨hp, g, d, t, os⟩) (hl : fs.lookup name = none := by rfl) (hk : methOk (KK w.params) C name f = true := by kernel_rfl) :
    wpAny (model prog w) A (getMethod (.ref x) name pl) Q E ⟨hp, g, d, t, os⟩ := by
  obtain ⟨dx, es, n, J, r⟩ := I.at
  unfold methOk at hk
  simp only [Bool.and_eq_true, beq_iff_eq] at hk
  obtain ⟨⟨⟨h1, h2⟩, h3⟩, h4⟩ := hk
  exact method_fn (s := ⟨hp, g, d, t, os⟩) X.k J (plainGet_of h1).1 (plainGet_of h1).2 h2 h3 (by show (lookIn name _).map _ = _; rw [lookIn_dict, r.get, hl]; rfl) h
theorem x_set {c : Cr} {v : Value} {Q : Unit → Shared → Prop} {T W : List Addr} (X : K.In c.h) (I : InD O c.h x C dx fs) (hT : dx ∉ T) (hW : dx ∈ W) (hn : fs.length ≤ 900) (hx : x ≠ dx)
    (h : ∀ c' t', InD O c'.h x C dx (putF name v fs) → Heap.SameBut dx c.h c'.h → Ext T W c c' → c'.g = c.g → Q () ⟨c'.h, c'.g, d, t', os⟩) (hk : setOk K C name = true) :
    wpAny (model prog w) A (setAttr (.ref x) name v) Q E ⟨c.h, c.g, d, t, os⟩ := by
  obtain ⟨es, n, J, r⟩ := I.at
  unfold setOk at hk
  simp only [Bool.and_eq_true, beq_iff_eq] at hk
  obtain ⟨⟨⟨h1, h2⟩, h3⟩, h4⟩ := hk
  obtain ⟨cd, hc, hd'⟩ := any_some h4
  refine set_plain (s := ⟨c.h, c.g, d, t, os⟩) X J h1 (osa_open (s := ⟨c.h, c.g, d, t + 1, os⟩) X J h2 h3 fun b => ?_)
  have hxo := I.ob.2
  have hl := r.get name
  refine wpAny_bind (wpAny_pure (wpAny_bind (wpAny_bind (wpAny_loadPart (s := ⟨c.h, c.g, d, t + 1, os⟩) hxo (wpAny_bind ((looks_clsIn X hc).here ?_))))))
  rw [hd']
  refine wpAny_pure (a := some dx) (wpAny_bind (wpAny_pure (wpAny_bind ?_)))
  unfold nsSet
  have D := J.dict
  dsimp only at D
  refine wpAny_bind (wpAny_bind (wpAny_askSetting (wpAny_pure (wpAny_bind (wpAny_mkText (wpAny_bind (wpAny_loadPart D ?_)))))))
  dsimp only
  have c' : (!es.toArray.any (·.key.isStr name) && es.toArray.any (·.refKey)) = false := by
    unfold getL at hl
    rw [← Array.any_toList, ← Array.any_toList]
    show (!es.any _ && es.any _) = false
    split at hl
    · rename_i en he
      rw [List.any_eq_true.mpr ⟨en, List.mem_of_find?_eq_some he, List.find?_some he⟩]; rfl
    · split at hl
      · cases hl
      · rename_i z; rw [Bool.not_eq_true] at z; rw [z, Bool.and_false]
  rw [aRefKeyMayBeTheName_at, c']
  refine wpAny_updatePart D ?_
  dsimp only
  have hsz : dx < c.h.objs.size := Heap.lt_size D
  have e' : Obj.putName name (PyData.keyHash w.params name) (.str name (t + 1)) v (dictOf es n) = dictOf (putL name (PyData.keyHash w.params name) (.str name (t + 1)) v es) (putN name es n) := putName_dict ..
  have D' : (c.h.update dx (Obj.putName name (PyData.keyHash w.params name) (.str name (t + 1)) v)).get? dx = some (dictOf (putL name (PyData.keyHash w.params name) (.str name (t + 1)) v es) (putN name es n)) := by
    rw [← e']; exact Heap.get?_update_self _ D (by rw [e']; rfl)
  have r' := r.put name (PyData.keyHash w.params name) (t + 1) v
  have hle : (putL name (PyData.keyHash w.params name) (.str name (t + 1)) v es).length ≤ 901 := by
    have h1 : ∀ (l : List DictEntry), (putL name (PyData.keyHash w.params name) (.str name (t + 1)) v l).length ≤ l.length + 1 := fun l => by
      induction l with
      | nil => simp [putL]
      | cons a l ih => unfold putL; split <;> simp; omega
    have := h1 es
    have := r.len
    omega
  have sb : Heap.SameBut dx c.h (c.h.update dx (Obj.putName name (PyData.keyHash w.params name) (.str name (t + 1)) v)) := Heap.SameBut.update ..
  refine wpAny_bind (wpAny_lookBehind D' (pastItsLine_dict (by rw [List.size_toArray, sizeLine_eq]; omega)) ?_)
  exact wpAny_pure (h ⟨c.h.update dx (Obj.putName name (PyData.keyHash w.params name) (.str name (t + 1)) v), c.g⟩ _ ⟨⟨I.ob.1, (sb.2 x hx).trans I.ob.2⟩, ⟨_, _, D', r'⟩⟩ sb (Ext.but sb hT hW ⟨_, D'⟩) rfl)
end
end Mine
end

section
open PySem PySem.W PySem.Calls PyProof.Rows
set_option Elab.async false
set_option maxRecDepth 100000
set_option linter.unusedSimpArgs false
set_option linter.unusedVariables false
namespace Mine
noncomputable abbrev Tup (O : List Addr) (h : Heap) (a : Addr) (vs : List Value) : Prop := a ∉ O ∧ h.IsTuple a vs.toArray
theorem Tup.up {O h a vs O' h'} (x : Tup O h a vs) (u : Up O h O' h') : Tup O' h' a vs := by
  obtain ⟨n, o, e, r⟩ := x
  exact ⟨(u a o ⟨n, e⟩).1, o, (u a o ⟨n, e⟩).2, r⟩
theorem Bg.off {O O₂ h b} (B : Bg O O₂ h) (e : h.get? b = none) : b ∉ O₂ := fun q => by obtain ⟨o, e'⟩ := B.low b q; rw [e] at e'; cases e'
theorem Bg.up {O O₂ h h'} (B : Bg O O₂ h) (u : Up O h O h') : Up O₂ h O₂ h' := u.wide B.sub

section
variable {prog : Program} {w : World} {A : Around} {E : Value → Shared → Prop} {c : Cr} {hp : Heap} {g : Array GenState} {d : Drawn} {t : Nat} {os : OsState} {O : List Addr} {K : Frag} {x C dx : Addr} {fs : List (Str × Value)} {name : Str} {env : Env}
theorem x_list {elts : List Expr} {pos : Pos} {Q : Value → Shared → Prop}
    (h : wpAny (model prog w) A (spliced (backTo pos (starEach elts env))) (fun vs s₁ => ∃ c t₁, s₁ = ⟨c.h, c.g, d, t₁, os⟩ ∧ vs.length ≤ sizeLine ∧ ∀ c' l, (∀ T W, Ext T W c c') → LsO c'.h l vs.toArray → c.h.get? l = none → Q (.ref l) ⟨c'.h, c'.g, d, t₁, os⟩) E ⟨hp, g, d, t, os⟩) :
    wpAny (model prog w) A (eval (.List elts pos) env) Q E ⟨hp, g, d, t, os⟩ := by
  refine wpAny_List_spliced (wpAny_mono h (fun vs s₁ h₁ => ?_) fun _ _ e => e)
  obtain ⟨c, t₁, rfl, hz, k⟩ := h₁
  exact ⟨hz, k ⟨_, c.g⟩ _ (fun _ _ => Ext.push) ⟨_, Heap.get?_push_size _ rfl⟩ size_none⟩
theorem x_tuple {elts : List Expr} {x1} {pos : Pos} {Q : Value → Shared → Prop}
    (h : wpAny (model prog w) A (spliced (backTo pos (starEach elts env))) (fun vs s₁ => ∃ c t₁, s₁ = ⟨c.h, c.g, d, t₁, os⟩ ∧ vs.length ≤ sizeLine ∧ ∀ c' l, (∀ T W, Ext T W c c') → c'.h.IsTuple l vs.toArray → c.h.get? l = none → Q (.ref l) ⟨c'.h, c'.g, d, t₁, os⟩) E ⟨hp, g, d, t, os⟩) :
    wpAny (model prog w) A (eval (.Tuple elts x1 pos) env) Q E ⟨hp, g, d, t, os⟩ := by
  refine wpAny_Tuple_spliced (wpAny_mono h (fun vs s₁ h₁ => ?_) fun _ _ e => e)
  obtain ⟨c, t₁, rfl, hz, k⟩ := h₁
  exact ⟨hz, k ⟨_, c.g⟩ _ (fun _ _ => Ext.push) ⟨_, Heap.get?_push_size _ rfl, rfl, _, rfl⟩ size_none⟩
theorem x_itemT {value slice : Expr} {a : Addr} {l : List Value} {k : Int} {u : Tok} {x : Value} {Q : Value → Shared → Prop} (hl : hp.IsTuple a l.toArray)
    (h0 : 0 ≤ k) (hfit : k < 2 ^ 63) (hx : l[k.toNat]? = some x) (h : Q x ⟨hp, g, d, t, os⟩)
    (hs : subscripted slice false (.ref a) (.int k u) = operate [.ref a, .int k u] (getItem (.ref a) (.int k u)) := by with_unfolding_all rfl) :
    wpAny (model prog w) A (subscriptTail value slice (.ref a) (.int k u)) Q E ⟨hp, g, d, t, os⟩ := by
  have hlt : k.toNat < l.length := (List.getElem?_eq_some_iff.mp hx).1
  refine tail_any (s := ⟨hp, g, d, t, os⟩) (T := "tuple") (by obtain ⟨o, a, b, c⟩ := hl; exact ⟨o, a, b⟩) F.slot_tuple_getitem.lookup (getItem_tuple (s := ⟨hp, g, d, t, os⟩) (j := k.toNat) hl (by omega) hfit ?_ (by simpa using hx) h) hs
  exact seqIndex_of h0 (by simp; omega)
theorem x_lenT {l : Addr} {items : List Value} {Q : Value → Shared → Prop} (hl : hp.IsTuple l items.toArray) (hfit : (items.length : Int) < 2 ^ 63)
    (h : Q (.int items.length (t + 1)) ⟨hp, g, d, t + 1 + 1, os⟩) : wpAny (model prog w) A (call (.builtin "len") [.ref l]) Q E ⟨hp, g, d, t, os⟩ :=
  PyProof.Rows.len_tuple (s := ⟨hp, g, d, t, os⟩) (Q := Q) hl (by simpa using hfit) (by simpa using h)

/-! calls -/
theorem cwK1 {pos : Pos} {f : Value} {first : List Value} {e : Expr} {Q : Value → Shared → Prop} (hk : keepIn (KK w.params) f = true)
    (h : wpAny (model prog w) A (eval e env) (fun v s₁ => (KK w.params).In s₁.heap ∧ wpAny (model prog w) A (call f (first ++ [v])) Q E s₁) E ⟨hp, g, d, t, os⟩) (X : (KK w.params).In hp)
    (he : starEach [e] env = [(false, eval e env)] := by rfl) : wpAny (model prog w) A (callWith pos f first (backTo pos (starEach [e] env)) []) Q E ⟨hp, g, d, t, os⟩ :=
  callWith_K X hk (args_cons (wpAny_mono h (fun v s₁ h₁ => args_nil h₁) fun _ _ e => e) he) he (by rfl)
theorem cwK2 {pos : Pos} {f : Value} {first : List Value} {e e' : Expr} {Q : Value → Shared → Prop} (hk : keepIn (KK w.params) f = true)
    (h : wpAny (model prog w) A (eval e env) (fun v s₁ => wpAny (model prog w) A (eval e' env) (fun v' s₁ => (KK w.params).In s₁.heap ∧ wpAny (model prog w) A (call f (first ++ [v, v'])) Q E s₁) E s₁) E ⟨hp, g, d, t, os⟩) (X : (KK w.params).In hp)
    (he : starEach [e, e'] env = (false, eval e env) :: starEach [e'] env := by rfl) (he' : starEach [e'] env = [(false, eval e' env)] := by rfl) : wpAny (model prog w) A (callWith pos f first (backTo pos (starEach [e, e'] env)) []) Q E ⟨hp, g, d, t, os⟩ :=
  callWith_K X hk (args_cons (wpAny_mono h (fun v s₁ h₁ => args_cons (wpAny_mono h₁ (fun v s₁ h₁ => args_nil h₁) fun _ _ e => e) he') fun _ _ e => e) he) he (by rw [he']; rfl)
theorem cwK0 {pos : Pos} {f : Value} {first : List Value} {Q : Value → Shared → Prop} (hk : keepIn (KK w.params) f = true) (X : (KK w.params).In hp)
    (h : wpAny (model prog w) A (call f (first ++ [])) Q E ⟨hp, g, d, t, os⟩) : wpAny (model prog w) A (callWith pos f first (backTo pos (starEach [] env)) []) Q E ⟨hp, g, d, t, os⟩ :=
  callWith_K0 X hk h

/-! an object that is called -/
noncomputable def icOk (K : Frag) (C f : Addr) : Bool := findIn K (.ref C) "__call__" == some (some (.ref f)) && isFn K (.ref f) && fnIn K f
theorem ic_call {f : Addr} {a : Args} {R : Result → Shared → Prop} (X : Wd w.params O hp) (I : Ins O hp x C fs) (hk : icOk (KK w.params) C f = true) (hq : codeAny (model prog w) A (.call (.ref f) { a with pos := .ref x :: a.pos }) R ⟨hp, g, d, t, os⟩) :
    codeAny (model prog w) A (.call (.ref x) a) R ⟨hp, g, d, t, os⟩ := by
  obtain ⟨dx, es, n, J, r⟩ := I.at
  unfold icOk at hk
  simp only [Bool.and_eq_true, beq_iff_eq] at hk
  exact kco_code (s := ⟨hp, g, d, t, os⟩) X.k J rfl hk.1.1 hk.1.2 hk.2 hq
theorem Ins.stay {h h' : Heap} {O O'} {ox od} (I : InstAt h x ox C (some od)) (J : Ins O h x C fs) (u : Up O h O' h') (hd : ox.dict ≠ none) : InstAt h' x ox C (some od) := by
  obtain ⟨dx, n, ob, es, k, e, r⟩ := J
  obtain ⟨h1, h2, h3, h4⟩ := I
  have := ob.2
  rw [h1] at this
  cases this
  dsimp only at h4
  rw [e] at h4
  cases h4
  exact ⟨(u x _ ob).2, rfl, rfl, (u dx _ ⟨n, e⟩).2⟩
theorem cwI_of {f : Addr} {pos : Pos} {Q : Value → Shared → Prop} {args : List (Bool × Sem Value)} {kws : List (Option Str × Sem Value)} (X : Wd w.params O hp) (I : Ins O hp x C fs) (hk : icOk (KK w.params) C f = true) (hplain : (args.any (·.1) || kws.any (·.1.isNone)) = false)
    (h : wpAny (model prog w) A (evalArgs (.ref x) true args kws) (fun a s₁ => (∃ O', Wd w.params O' s₁.heap ∧ Up O hp O' s₁.heap) ∧ codeAny (model prog w) A (.call (.ref f) ⟨.ref x :: a.pos, a.kw⟩) (fun r s' => match r with | .ok (.ret v) => Q v s' | .ok _ => False | .error e => E e s') s₁) E ⟨hp, g, d, t, os⟩) :
    wpAny (model prog w) A (callWith pos (.ref x) [] args kws) Q E ⟨hp, g, d, t, os⟩ := by
  obtain ⟨dx, n, I'⟩ := id I
  obtain ⟨es, n, J, r⟩ := I'.at
  have hk' := hk
  unfold icOk at hk
  simp only [Bool.and_eq_true, beq_iff_eq] at hk
  refine kco_callWith_of (K := KK w.params) (C := C) (ox := instObj C dx) (od := some (dictOf es n)) hplain rfl (wpAny_mono h (fun a s₁ h₁ => ?_) fun _ _ e => e)
  obtain ⟨⟨O', X', u⟩, hc⟩ := h₁
  have J' := I.stay J u (by simp)
  exact ⟨⟨X'.k, J'⟩, wpAny_call (kco_code X'.k J' rfl hk.1.1 hk.1.2 hk.2 hc)⟩
theorem cwI1 {f : Addr} {pos : Pos} {e : Expr} {Q : Value → Shared → Prop} (X : Wd w.params O hp) (I : Ins O hp x C fs) (hk : icOk (KK w.params) C f = true)
    (h : wpAny (model prog w) A (eval e env) (fun v s₁ => (∃ O', Wd w.params O' s₁.heap ∧ Up O hp O' s₁.heap) ∧ codeAny (model prog w) A (.call (.ref f) ⟨[.ref x, v], []⟩) (fun r s' => match r with | .ok (.ret v) => Q v s' | .ok _ => False | .error e => E e s') s₁) E ⟨hp, g, d, t, os⟩)
    (he : starEach [e] env = [(false, eval e env)] := by rfl) : wpAny (model prog w) A (callWith pos (.ref x) [] (backTo pos (starEach [e] env)) []) Q E ⟨hp, g, d, t, os⟩ := by
  refine cwI_of X I hk (by rw [he]; rfl) ?_
  have := wpAny_mono h (fun v s₁ h₁ => h₁) (fun _ _ e => e)
  have z : wpAny (model prog w) A (spliced (backTo pos (starEach [e] env))) (fun vs s₁ => (∃ O', Wd w.params O' s₁.heap ∧ Up O hp O' s₁.heap) ∧ codeAny (model prog w) A (.call (.ref f) ⟨.ref x :: vs, []⟩) (fun r s' => match r with | .ok (.ret v) => Q v s' | .ok _ => False | .error e => E e s') s₁) E ⟨hp, g, d, t, os⟩ :=
    args_cons (wpAny_mono h (fun v s₁ h₁ => args_nil h₁) fun _ _ e => e) he
  rw [he] at z ⊢
  exact evalArgs_plain z
theorem cwI1k {f : Addr} {pos p : Pos} {e value : Expr} {kn : Str} {Q : Value → Shared → Prop} (X : Wd w.params O hp) (I : Ins O hp x C fs) (hk : icOk (KK w.params) C f = true)
    (h : wpAny (model prog w) A (eval e env) (fun v s₁ => wpAny (model prog w) A (eval value env) (fun v' s₂ => (∃ O', Wd w.params O' s₂.heap ∧ Up O hp O' s₂.heap) ∧ codeAny (model prog w) A (.call (.ref f) ⟨[.ref x, v], [(kn, v')]⟩) (fun r s' => match r with | .ok (.ret v) => Q v s' | .ok _ => False | .error e => E e s') s₂) E s₁) E ⟨hp, g, d, t, os⟩)
    (he : starEach [e] env = [(false, eval e env)] := by rfl) : wpAny (model prog w) A (callWith pos (.ref x) [] (backTo pos (starEach [e] env)) (backToKw pos (keywordEach [⟨some kn, value, p⟩] env))) Q E ⟨hp, g, d, t, os⟩ := by
  refine cwI_of X I hk (by rw [he]; rfl) (evalArgs_kw2 (by rfl) (args_cons (wpAny_mono h (fun v s₁ h₁ => args_nil (kwAll_cons (wpAny_mono h₁ (fun v' s₂ h₂ => kwAll_nil h₂) fun _ _ e => e))) fun _ _ e => e) he) he)
/-- a def or a class, with one word named -/
theorem cwK1k {pos p : Pos} {f : Value} {first : List Value} {e value : Expr} {kn : Str} {Q : Value → Shared → Prop} (X : (KK w.params).In hp) (hk : keepIn (KK w.params) f = true)
    (h : wpAny (model prog w) A (eval e env) (fun v s₁ => wpAny (model prog w) A (eval value env) (fun v' s₁ => (KK w.params).In s₁.heap ∧ wpAny (model prog w) A (call f (first ++ [v]) [(kn, v')]) Q E s₁) E s₁) E ⟨hp, g, d, t, os⟩)
    (he : starEach [e] env = [(false, eval e env)] := by rfl) : wpAny (model prog w) A (callWith pos f first (backTo pos (starEach [e] env)) (backToKw pos (keywordEach [⟨some kn, value, p⟩] env))) Q E ⟨hp, g, d, t, os⟩ :=
  callWith_KW X hk (by rfl) (args_cons (wpAny_mono h (fun v s₁ h₁ => args_nil (kwAll_cons (wpAny_mono h₁ (fun v' s₂ h₂ => kwAll_nil h₂) fun _ _ e => e))) fun _ _ e => e) he) (by rw [he]; rfl) he
theorem cwK2k {pos p : Pos} {f : Value} {first : List Value} {e e' value : Expr} {kn : Str} {Q : Value → Shared → Prop} (X : (KK w.params).In hp) (hk : keepIn (KK w.params) f = true)
    (h : wpAny (model prog w) A (eval e env) (fun v s₁ => wpAny (model prog w) A (eval e' env) (fun v₁ s₁ => wpAny (model prog w) A (eval value env) (fun v' s₁ => (KK w.params).In s₁.heap ∧ wpAny (model prog w) A (call f (first ++ [v, v₁]) [(kn, v')]) Q E s₁) E s₁) E s₁) E ⟨hp, g, d, t, os⟩)
    (he : starEach [e, e'] env = (false, eval e env) :: starEach [e'] env := by rfl) (he' : starEach [e'] env = [(false, eval e' env)] := by rfl) : wpAny (model prog w) A (callWith pos f first (backTo pos (starEach [e, e'] env)) (backToKw pos (keywordEach [⟨some kn, value, p⟩] env))) Q E ⟨hp, g, d, t, os⟩ :=
  callWith_KW X hk (by rfl) (args_cons (wpAny_mono h (fun v s₁ h₁ => args_cons (wpAny_mono h₁ (fun v s₁ h₁ => args_nil (kwAll_cons (wpAny_mono h₁ (fun v' s₂ h₂ => kwAll_nil h₂) fun _ _ e => e))) fun _ _ e => e) he') fun _ _ e => e) he) (by rw [he, he']; rfl) he

/-! an object is made -/
noncomputable def mkOk (K : Frag) (C f : Addr) : Bool := makesIn K C && findIn K (.ref C) "__init__" == some (some (.ref f)) && typeIn K (.ref f) == some (.type "function")
theorem x_make {rest : List Value} {kw : List (Str × Value)} {fI : Addr} {R : Result → Shared → Prop} (X : (KK w.params).In c.h) (hk : mkOk (KK w.params) C fI = true)
    (h : ∀ c' x dx, (∀ T W, Ext T W c c') → c.h.get? x = none → c.h.get? dx = none → x ≠ dx → (∀ O, x ∉ O → InD O c'.h x C dx []) → c'.g = c.g →
      codeAny (model prog w) (A.under (.builtin "type.__call__" ⟨.ref C :: rest, kw⟩)) (.call (.ref fI) ⟨.ref x :: rest, kw⟩) (fun r s' => match r with | .ok (.ret v) => v = .none ∧ R (.ok (.ret (.ref x))) s' | .ok _ => False | .error e => R (.error e) s') ⟨c'.h, c'.g, d, t, os⟩) :
    codeAny (model prog w) A (.call (.ref C) ⟨rest, kw⟩) R ⟨c.h, c.g, d, t, os⟩ := by
  unfold mkOk at hk
  simp only [Bool.and_eq_true, beq_iff_eq] at hk
  refine make_core (makes_of X hk.1.1) (looks_findIn X hk.1.2) (fun self => bind_fn X self hk.2) (.inl rfl) ?_
  have e1 : c.h.get? (c.h.objs.size + 1) = none := Heap.get?_none_of_le (Nat.le_succ _)
  have ix : ((c.h.push emptyDict).push (instObj C c.h.objs.size)).get? (c.h.objs.size + 1) = some (instObj C c.h.objs.size) := by
    have := Heap.get?_push_size (c.h.push emptyDict) (o := instObj C c.h.objs.size) rfl
    rwa [Heap.size_push] at this
  have id : ((c.h.push emptyDict).push (instObj C c.h.objs.size)).get? c.h.objs.size = some (dictOf [] 0) := Heap.get?_push_of_some _ (Heap.get?_push_size _ rfl)
  exact h ⟨(c.h.push emptyDict).push (instObj C c.h.objs.size), c.g⟩ (c.h.objs.size + 1) c.h.objs.size (fun _ _ => Ext.of_keep fun b o e => Heap.get?_push_of_some _ (Heap.get?_push_of_some _ e)) e1 size_none (Nat.succ_ne_self _)
    (fun O hx => ⟨⟨hx, ix⟩, ⟨[], 0, id, .nil⟩⟩) rfl
end
end Mine
end

section
open PySem PySem.W PySem.Calls PyProof.Rows
set_option Elab.async false
set_option maxRecDepth 100000
set_option linter.unusedSimpArgs false
set_option linter.unusedVariables false
namespace Mine
/-! the part of the text below a dict of it, that the library's frames ask for -/
noncomputable def K1 (P : Params) : Frag := (KK P).filter fun p => decide (p.1 < 374)
theorem reg7 : PySem.Challenge.rw_yd0003_04 = PySem.Challenge.rw_yd0003_04 ∧ hd.heap_1 = hd.heap_1 := by k_fill; exact ⟨rfl, rfl⟩
theorem kf_ns374 (P : Params) : ∃ c d es n sl, (KK P).lookup 374 = some ⟨c, d, .dict es n, sl⟩ ∧ (es.toList.all fun e => match e.key with | .str _ _ => true | _ => false) = true :=
  ⟨_, _, _, _, _, kk_lookup (by k_is) rfl, by kernel_rfl⟩
theorem lookup_lt {K : Frag} {a : Addr} {o : Obj} : ∀ {l : Frag}, (l.filter fun p => decide (p.1 < 374)).lookup a = some o → l.lookup a = some o ∧ a < 374
  | (b, ob) :: r, h => by
    rw [List.filter_cons] at h
    by_cases hb : b < 374
    · rw [if_pos (by simpa using hb), List.lookup_cons] at h
      rw [List.lookup_cons]
      by_cases q : (a == b) = true
      · rw [q] at h ⊢; exact ⟨h, by rw [show a = b by simpa using q]; exact hb⟩
      · rw [show (a == b) = false by simpa using q] at h ⊢
        exact lookup_lt (K := K) h
    · rw [if_neg (by simpa using hb)] at h
      have := lookup_lt (K := K) h
      rw [List.lookup_cons]
      have ne : (a == b) = false := by
        simp; rintro rfl; exact hb this.2
      rw [ne]; exact this
noncomputable def cut (h : Heap) : Heap := { h with objs := h.objs.extract 0 374 }
theorem cut_get (h : Heap) (b : Nat) : (cut h).get? b = if b < 374 then h.get? b else none := by
  have e : (h.objs.extract 0 374)[b]? = if b < 374 then h.objs[b]? else none := by
    rw [Array.getElem?_extract]
    by_cases q : b < 374
    · by_cases r : b < h.objs.size
      · rw [if_pos (by omega), if_pos q, Nat.zero_add]
      · rw [if_neg (by omega), if_pos q]
        exact (Array.getElem?_eq_none (by omega)).symm
    · rw [if_neg (by omega), if_neg q]
  unfold cut Heap.get?
  dsimp only
  rw [e]
  by_cases q : b < 374
  · rw [if_pos q, if_pos q]
  · rw [if_neg q, if_neg q]
theorem frK {P : Params} {O h} (X : Wd P O h) : ∃ m, Fr (cut h) 374 h m ∧ (K1 P).In (cut h) := by
  obtain ⟨c, d, es, n, sl, e, k⟩ := kf_ns374 P
  refine ⟨_, ⟨⟨_, _, _, (X _ _ e).2, rfl, strKeys_of k, fun _ => rfl⟩, fun b o q => ?_, ?_⟩, fun a o q => ?_⟩
  · rw [cut_get] at q
    split at q
    · exact q
    · cases q
  · show (h.objs.extract 0 374).size ≤ 374
    rw [Array.size_extract]
    omega
  · obtain ⟨q1, q2⟩ := lookup_lt (K := K1 P) q
    rw [cut_get, if_pos q2]
    exact (X _ _ q1).2

section
variable {prog : Program} {w : World} {A : Around} {E : Value → Shared → Prop} {c : Cr} {hp : Heap} {g : Array GenState} {d : Drawn} {t : Nat} {os : OsState} {O : List Addr} {K : Frag} {x C dx : Addr} {fs : List (Str × Value)} {name : Str} {env : Env}
noncomputable def binOk (K : Frag) (C : Addr) (n : Str) (f : Addr) : Bool := selfFirst K C && findIn K (.ref C) n == some (some (.ref f)) && isFn K (.ref f)
/-- a binary operation of two of one class -/
theorem x_bin {op : Operator} {y f : Addr} {fs' : List (Str × Value)} {Q : Value → Shared → Prop} (X : Wd w.params O hp) (I : Ins O hp x C fs) (J : Ins O hp y C fs') (hk : binOk (K1 w.params) C (PySem.dunder op.info.2) f = true)
    (h : wpAny (model prog w) A (call (.ref f) [.ref x, .ref y]) (PySem.W.CmpBack Q) E ⟨hp, g, d, t, os⟩) : wpAny (model prog w) A (binaryOp op (.ref x) (.ref y)) Q E ⟨hp, g, d, t, os⟩ := by
  obtain ⟨m, F, X₀⟩ := frK X
  obtain ⟨dx, es, n, I', r⟩ := I.at
  obtain ⟨dy, es', n', J', r'⟩ := J.at
  unfold binOk at hk
  simp only [Bool.and_eq_true, beq_iff_eq] at hk
  exact binop_K (s := ⟨hp, g, d, t, os⟩) F X₀ I' J'.type hk.1.1 hk.1.2 hk.2 h
noncomputable def subOk (K : Frag) (C : Addr) (f : Addr) : Bool := findIn K (.ref C) "__getitem__" == some (some (.ref f)) && fnIn K f && isFn K (.ref f)
theorem x_sub_ {value slice : Expr} {i : Value} {f : Addr} {Q : Value → Shared → Prop} (X : Wd w.params O hp) (I : Ins O hp x C fs) (hk : subOk (K1 w.params) C f = true)
    (h : wpAny (model prog w) A.in1 (call (.ref f) [.ref x, i]) Q E ⟨hp, g, d, t, os⟩) (hsl : subscripted slice true (.ref x) i = runValue (.builtin "lifetime.subscript" ⟨[.ref x, i], []⟩) := by with_unfolding_all rfl) :
    wpAny (model prog w) A (subscriptTail value slice (.ref x) i) Q E ⟨hp, g, d, t, os⟩ := by
  obtain ⟨m, F, X₀⟩ := frK X
  obtain ⟨dx, es, n, I', r⟩ := I.at
  unfold subOk at hk
  simp only [Bool.and_eq_true, beq_iff_eq] at hk
  exact sub_K (s := ⟨hp, g, d, t, os⟩) F X₀ I' hk.1.1 hk.1.2 hk.2 h hsl
noncomputable def eqOk (K : Frag) (C : Addr) (f : Addr) : Bool := findIn K (.ref C) (cmpInfo .Eq).2.1 == some (some (.ref f)) && isFn K (.ref f)
theorem x_eqI {y f : Addr} {fs' : List (Str × Value)} {Q : Value → Shared → Prop} (hu : A.units < cLine) (X : Wd w.params O hp) (I : Ins O hp x C fs) (J : Ins O hp y C fs') (hk : eqOk (K1 w.params) C f = true)
    (h : wpAny (model prog w) A (call (.ref f) [.ref x, .ref y]) (PySem.W.CmpBack Q) E ⟨hp, g, d, t, os⟩) : wpAny (model prog w) A (compareOp .Eq (.ref x) (.ref y)) Q E ⟨hp, g, d, t, os⟩ := by
  obtain ⟨m, F, X₀⟩ := frK X
  obtain ⟨dx, es, n, I', r⟩ := I.at
  obtain ⟨dy, es', n', J', r'⟩ := J.at
  unfold eqOk at hk
  simp only [Bool.and_eq_true, beq_iff_eq] at hk
  have hn : notFirst (K1 w.params) C (.ref C) = true := by unfold notFirst; simp
  exact cmp_K (op := .Eq) (s := ⟨hp, g, d, t, os⟩) hu F X₀ I' J'.type hn hk.1 hk.2 h

/-! isinstance, type -/
theorem x_type {Q : Value → Shared → Prop} (I : Ins O hp x C fs) (h : Q (.ref C) ⟨hp, g, d, t, os⟩) : wpAny (model prog w) A (call (.type "type") [.ref x]) Q E ⟨hp, g, d, t, os⟩ := by
  obtain ⟨dx, es, n, I', r⟩ := I.at
  exact kto_own (s := ⟨hp, g, d, t, os⟩) I' h
noncomputable def clsOk (K : Frag) (D : Addr) : Bool := plainGet K D "__class__" && hasDictIn K D && findIn K (.ref D) "__class__" == some (some (.builtin "object.__class__")) &&
  specialIn K (.builtin "object.__class__") "__get__" == some (some (.builtin "getset_descriptor.__get__")) && takesIn K (.builtin "object.__class__") == some true && mroIn K D (.type "object") == some true
theorem x_isI {b : Bool} {cv : Value} {Q : Value → Shared → Prop} (X : Wd w.params O hp) (I : Ins O hp x C fs) (hk : clsOk (KK w.params) C = true) (e : kitOne (KK w.params) (.ref C) cv = some b) (h : ∀ t', Q (.bool b) ⟨hp, g, d, t', os⟩) :
    wpAny (model prog w) A (call (.builtin "isinstance") [.ref x, cv]) Q E ⟨hp, g, d, t, os⟩ := by
  obtain ⟨dx, es, n, I', r⟩ := I.at
  unfold clsOk at hk
  simp only [Bool.and_eq_true, beq_iff_eq] at hk
  obtain ⟨⟨⟨⟨⟨h1, h2⟩, h3⟩, h4⟩, h5⟩, h6⟩ := hk
  exact kia_one (K := KK w.params) (s := ⟨hp, g, d, t, os⟩) (kitx_own (K := KK w.params) (x := x) (ox := instObj C dx) (od := dictOf es n) h1 h2 h3 h4 h5 h6) X.k I' e (fun z => by cases z) h
theorem x_isInt {b : Bool} {cv : Value} {i : Int} {u : Tok} {Q : Value → Shared → Prop} (X : Wd w.params O hp) (e : kitOne (KK w.params) (.type "int") cv = some b) (h : ∀ t', Q (.bool b) ⟨hp, g, d, t', os⟩) :
    wpAny (model prog w) A (call (.builtin "isinstance") [.int i u, cv]) Q E ⟨hp, g, d, t, os⟩ :=
  kia_one (K := KK w.params) (s := ⟨hp, g, d, t, os⟩) kitx_int X.k trivial e (fun z => by cases z) h
theorem x_isList {b : Bool} {cv : Value} {l : Addr} {vs : List Value} {Q : Value → Shared → Prop} (X : Wd w.params O hp) (hl : LsO hp l vs.toArray) (e : kitOne (KK w.params) (.type "list") cv = some b) (h : ∀ t', Q (.bool b) ⟨hp, g, d, t', os⟩) :
    wpAny (model prog w) A (call (.builtin "isinstance") [.ref l, cv]) Q E ⟨hp, g, d, t, os⟩ :=
  kia_one (K := KK w.params) (s := ⟨hp, g, d, t, os⟩) kitx_list X.k (by obtain ⟨o, a, b, _⟩ := hl.isL; exact ⟨o, a, b⟩) e (fun z => by cases z) h
theorem x_isTup {b : Bool} {cv : Value} {l : Addr} {vs : List Value} {Q : Value → Shared → Prop} (X : Wd w.params O hp) (hl : hp.IsTuple l vs.toArray) (e : kitOne (KK w.params) (.type "tuple") cv = some b) (h : ∀ t', Q (.bool b) ⟨hp, g, d, t', os⟩) :
    wpAny (model prog w) A (call (.builtin "isinstance") [.ref l, cv]) Q E ⟨hp, g, d, t, os⟩ :=
  kia_one (K := KK w.params) (s := ⟨hp, g, d, t, os⟩) kitx_tuple X.k (by obtain ⟨o, a, b, _⟩ := hl; exact ⟨o, a, b⟩) e (fun z => by cases z) h
end

/-! what holds of the written part -/
section
variable (P : Params)
theorem ok_cls220 : clsOk (KK P) 220 = true := by kernel_rfl
theorem ok_cls331 : clsOk (KK P) 331 = true := by kernel_rfl
theorem is_220 : kitOne (KK P) (.ref 220) (.ref 220) = some true := by kernel_rfl
theorem is_331 : kitOne (KK P) (.ref 331) (.ref 331) = some true := by kernel_rfl
theorem is_int220 : kitOne (KK P) (.type "int") (.ref 220) = some false := by kernel_rfl
theorem is_intint : kitOne (KK P) (.type "int") (.type "int") = some true := by kernel_rfl
theorem is_listint : kitOne (KK P) (.type "list") (.type "int") = some false := by kernel_rfl
theorem is_listlist : kitOne (KK P) (.type "list") (.type "list") = some true := by kernel_rfl
theorem is_tuptup : kitOne (KK P) (.type "tuple") (.type "tuple") = some true := by kernel_rfl
theorem ok_add331 : binOk (K1 P) 331 (PySem.dunder Operator.Add.info.2) 297 = true := by kernel_rfl
theorem ok_sub331 : binOk (K1 P) 331 (PySem.dunder Operator.Sub.info.2) 309 = true := by kernel_rfl
theorem ok_mm331 : binOk (K1 P) 331 (PySem.dunder Operator.MatMult.info.2) 321 = true := by kernel_rfl
theorem ok_add220 : binOk (K1 P) 220 (PySem.dunder Operator.Add.info.2) 137 = true := by kernel_rfl
theorem ok_sub220 : binOk (K1 P) 220 (PySem.dunder Operator.Sub.info.2) 163 = true := by kernel_rfl
theorem ok_mul220 : binOk (K1 P) 220 (PySem.dunder Operator.Mult.info.2) 182 = true := by kernel_rfl
theorem ok_item331 : subOk (K1 P) 331 282 = true := by kernel_rfl
theorem ok_eq331 : eqOk (K1 P) 331 287 = true := by kernel_rfl
theorem ok_eq220 : eqOk (K1 P) 220 210 = true := by kernel_rfl
theorem ok_call59 : icOk (KK P) 59 56 = true := by kernel_rfl
theorem ok_call375 : icOk (KK P) 375 365 = true := by kernel_rfl
theorem ok_mk59 : mkOk (KK P) 59 35 = true := by kernel_rfl
theorem ok_mk220 : mkOk (KK P) 220 77 = true := by kernel_rfl
theorem ok_mk331 : mkOk (KK P) 331 239 = true := by kernel_rfl
theorem ok_mk375 : mkOk (KK P) 375 349 = true := by kernel_rfl
theorem ok_own59q : ownOk (KK P) 59 "q" = true := by kernel_rfl
theorem ok_own59n : ownOk (KK P) 59 "n" = true := by kernel_rfl
theorem ok_own220p : ownOk (KK P) 220 "parent" = true := by kernel_rfl
theorem ok_own220c : ownOk (KK P) 220 "coeffs" = true := by kernel_rfl
theorem ok_own331p : ownOk (KK P) 331 "parent" = true := by kernel_rfl
theorem ok_own331d : ownOk (KK P) 331 "_data" = true := by kernel_rfl
theorem ok_own331t : ownOk (KK P) 331 "_transpose" = true := by kernel_rfl
theorem ok_set59q : setOk (KK P) 59 "q" = true := by kernel_rfl
theorem ok_set59n : setOk (KK P) 59 "n" = true := by kernel_rfl
theorem ok_set220p : setOk (KK P) 220 "parent" = true := by kernel_rfl
theorem ok_set220c : setOk (KK P) 220 "coeffs" = true := by kernel_rfl
theorem ok_set331p : setOk (KK P) 331 "parent" = true := by kernel_rfl
theorem ok_set331d : setOk (KK P) 331 "_data" = true := by kernel_rfl
theorem ok_set331t : setOk (KK P) 331 "_transpose" = true := by kernel_rfl
theorem ok_set375r : setOk (KK P) 375 "ring" = true := by kernel_rfl
theorem nb_isinstance : nsIn (KK P) 3 "isinstance" = some none := by kernel_rfl
theorem bb_isinstance : nsIn (KK P) 0 "isinstance" = some (some (.builtin "isinstance")) := by kernel_rfl
theorem nb_type : nsIn (KK P) 3 "type" = some none := by kernel_rfl
theorem bb_type : nsIn (KK P) 0 "type" = some (some (.type "type")) := by kernel_rfl
theorem nb_range : nsIn (KK P) 3 "range" = some none := by kernel_rfl
theorem bb_range : nsIn (KK P) 0 "range" = some (some (.type "range")) := by kernel_rfl
theorem nb_zip : nsIn (KK P) 3 "zip" = some none := by kernel_rfl
theorem bb_zip : nsIn (KK P) 0 "zip" = some (some (.type "zip")) := by kernel_rfl
theorem nb_list : nsIn (KK P) 3 "list" = some none := by kernel_rfl
theorem bb_list : nsIn (KK P) 0 "list" = some (some (.type "list")) := by kernel_rfl
theorem nb_int : nsIn (KK P) 3 "int" = some none := by kernel_rfl
theorem bb_int : nsIn (KK P) 0 "int" = some (some (.type "int")) := by kernel_rfl
theorem nb_tuple : nsIn (KK P) 3 "tuple" = some none := by kernel_rfl
theorem bb_tuple : nsIn (KK P) 0 "tuple" = some (some (.type "tuple")) := by kernel_rfl
theorem nb_all : nsIn (KK P) 3 "all" = some none := by kernel_rfl
theorem bb_all : nsIn (KK P) 0 "all" = some (some (.builtin "all")) := by kernel_rfl
theorem nb_sum : nsIn (KK P) 3 "sum" = some none := by kernel_rfl
theorem bb_sum : nsIn (KK P) 0 "sum" = some (some (.builtin "sum")) := by kernel_rfl
theorem nb_abs : nsIn (KK P) 3 "abs" = some none := by kernel_rfl
theorem bb_abs : nsIn (KK P) 0 "abs" = some (some (.builtin "abs")) := by kernel_rfl
theorem g_poly : nsIn (KK P) 3 "GenericPolynomial" = some (some (.ref 220)) := by kernel_rfl
theorem g_matrix : nsIn (KK P) 3 "GenericMatrix" = some (some (.ref 331)) := by kernel_rfl
theorem g_ring : nsIn (KK P) 3 "GenericPolynomialRing" = some (some (.ref 59)) := by kernel_rfl
theorem g_module : nsIn (KK P) 3 "GenericModule" = some (some (.ref 375)) := by kernel_rfl
theorem g_draw : nsIn (KK P) 3 "_law_draw" = some (some (.ref 386)) := by kernel_rfl
theorem g_grid : nsIn (KK P) 3 "_law_grid" = some (some (.ref 391)) := by kernel_rfl
theorem g_stored : nsIn (KK P) 3 "_law_stored" = some (some (.ref 396)) := by kernel_rfl
theorem g_holds : nsIn (KK P) 3 "_law_holds" = some (some (.ref 401)) := by kernel_rfl
theorem g_scaled : nsIn (KK P) 3 "_law_scaled" = some (some (.ref 406)) := by kernel_rfl
theorem g_plain : nsIn (KK P) 3 "_law_plain" = some (some (.ref 411)) := by kernel_rfl
end
end Mine
end

section
open PySem PySem.W PySem.Calls PyProof.Rows
set_option Elab.async false
set_option maxRecDepth 100000
set_option linter.unusedSimpArgs false
set_option linter.unusedVariables false
namespace Mine
section
variable {prog : Program} {w : World} {A : Around} {E : Value → Shared → Prop} {c : Cr} {hp : Heap} {g : Array GenState} {d : Drawn} {t : Nat} {os : OsState} {O : List Addr} {K : Frag} {x C dx : Addr} {fs : List (Str × Value)} {name : Str} {env : Env}
theorem x_addL {l b : Addr} {vs ws : List Value} {Q : Value → Shared → Prop} (hl : LsO c.h l vs.toArray) (hb : LsO c.h b ws.toArray) (hsz : vs.length + ws.length ≤ sizeLine)
    (h : ∀ c' l', (∀ T W, Ext T W c c') → LsO c'.h l' (vs ++ ws).toArray → c.h.get? l' = none → c'.g = c.g → Q (.ref l') ⟨c'.h, c'.g, d, t, os⟩) :
    wpAny (model prog w) A (binaryOp .Add (.ref l) (.ref b)) Q E ⟨c.h, c.g, d, t, os⟩ := by
  obtain ⟨⟨cls, dd, data, sl⟩, ho, hc, n, hd⟩ := hl.isL
  obtain ⟨⟨cls2, dd2, data2, sl2⟩, ho2, hc2, n2, hd2⟩ := hb.isL
  simp only at hc hd hc2 hd2
  subst hc hd hc2 hd2
  have e : vs.toArray ++ ws.toArray = (vs ++ ws).toArray := by simp
  refine concat_meets (s := ⟨c.h, c.g, d, t, os⟩) ⟨_, ho, rfl⟩ ⟨_, ho2, rfl⟩ noFill_list_add seq_list_add PySem.F.slot_list_add PySem.F.entry_list_add (PySem.F.args_list_add_2 _ _) (list_addW l b vs.toArray ws.toArray n n2 dd dd2 sl sl2 (by simpa using hsz)) ⟨ho, ho2, ?_⟩
  rw [e]
  exact h ⟨_, c.g⟩ _ (fun _ _ => Ext.push) ⟨_, Heap.get?_push_size _ rfl⟩ size_none rfl
theorem x_range1 {n : Nat} {u : Tok} {Q : Value → Shared → Prop} (hn : n < 2 ^ 62)
    (h : ∀ c' r t', (∀ T W, Ext T W c c') → (∀ T V A, A.handled = none → (∀ b ∈ T, ∃ o, c'.h.get? b = some o) → IterIn prog w A T V d os (.ref r) c' n (fun i v => ∃ t, v = .int ((i : Nat) : Int) t)) → Q (.ref r) ⟨c'.h, c'.g, d, t', os⟩) :
    wpAny (model prog w) A (call (.type "range") [.int n u]) Q E ⟨c.h, c.g, d, t, os⟩ := by
  refine PySem.call_range_1 (s := ⟨c.h, c.g, d, t, os⟩) (h ⟨c.h.push { cls := .type "range", data := .fields #[.int 0 t, .int n u, .int 1 (t + 1)] }, c.g⟩ c.h.objs.size _ (fun _ _ => Ext.push) fun T V A hh hT => ?_)
  have hs : Builtin.Range.rangeSize 0 (n : Int) 1 = ((n : Nat) : Int) := by
    rw [rangeSize_one]; split <;> omega
  have := iter_range (prog := prog) (w := w) (A := A) (d := d) (os := os) (T := T) (V := V) (c := ⟨c.h.push { cls := .type "range", data := .fields #[.int 0 t, .int n u, .int 1 (t + 1)] }, c.g⟩) hh (IsRange.new c.h 0 n 1 t u (t + 1)) (small_one (by decide) (by decide) (by omega) (by omega)) hs hT
  simpa using this
theorem x_range2 {a b : Int} {u v : Tok} {Q : Value → Shared → Prop} (ha : -(2 ^ 62) ≤ a) (ha' : a < 2 ^ 62) (hb : -(2 ^ 62) ≤ b) (hb' : b < 2 ^ 62)
    (h : ∀ c' r t', (∀ T W, Ext T W c c') → (∀ T V A, A.handled = none → (∀ b ∈ T, ∃ o, c'.h.get? b = some o) → IterIn prog w A T V d os (.ref r) c' (b - a).toNat (fun i v => ∃ t, v = .int (a + (i : Nat)) t)) → Q (.ref r) ⟨c'.h, c'.g, d, t', os⟩) :
    wpAny (model prog w) A (call (.type "range") [.int a u, .int b v]) Q E ⟨c.h, c.g, d, t, os⟩ := by
  refine PySem.call_range_2 (s := ⟨c.h, c.g, d, t, os⟩) (h ⟨c.h.push { cls := .type "range", data := .fields #[.int a u, .int b v, .int 1 t] }, c.g⟩ c.h.objs.size _ (fun _ _ => Ext.push) fun T V A hh hT => ?_)
  have hs : Builtin.Range.rangeSize a b 1 = (((b - a).toNat : Nat) : Int) := by
    rw [rangeSize_one]; split <;> omega
  exact iter_range (prog := prog) (w := w) (A := A) (d := d) (os := os) (T := T) (V := V) (c := ⟨c.h.push { cls := .type "range", data := .fields #[.int a u, .int b v, .int 1 t] }, c.g⟩) hh (IsRange.new c.h a b 1 u v t) (small_one ha ha' hb hb') hs hT
/-- one argument to a type -/
theorem cwT1 {pos : Pos} {T : String} {e : Expr} {Q : Value → Shared → Prop}
    (h : wpAny (model prog w) A (eval e env) (fun v s₁ => wpAny (model prog w) A (call (.type T) [v]) Q E s₁) E ⟨hp, g, d, t, os⟩)
    (he : starEach [e] env = [(false, eval e env)] := by rfl) : wpAny (model prog w) A (callWith pos (.type T) [] (backTo pos (starEach [e] env)) []) Q E ⟨hp, g, d, t, os⟩ :=
  PyProof.Rows.callWith_type1 (args_cons (wpAny_mono h (fun v s₁ h₁ => args_nil h₁) fun _ _ e => e) he) he (by rfl)
theorem cwT2 {pos : Pos} {T : String} {e e' : Expr} {Q : Value → Shared → Prop}
    (h : wpAny (model prog w) A (eval e env) (fun v s₁ => wpAny (model prog w) A (eval e' env) (fun v' s₁ => wpAny (model prog w) A (call (.type T) [v, v']) Q E s₁) E s₁) E ⟨hp, g, d, t, os⟩)
    (he : starEach [e, e'] env = (false, eval e env) :: starEach [e'] env := by rfl) (he' : starEach [e'] env = [(false, eval e' env)] := by rfl) : wpAny (model prog w) A (callWith pos (.type T) [] (backTo pos (starEach [e, e'] env)) []) Q E ⟨hp, g, d, t, os⟩ :=
  PyProof.Rows.callWith_type1 (args_cons (wpAny_mono h (fun v s₁ h₁ => args_cons (wpAny_mono h₁ (fun v s₁ h₁ => args_nil h₁) fun _ _ e => e) he') fun _ _ e => e) he) he (by rw [he']; rfl)
theorem cwB1 {pos : Pos} {T : String} {e : Expr} {Q : Value → Shared → Prop}
    (h : wpAny (model prog w) A (eval e env) (fun v s₁ => wpAny (model prog w) A (call (.builtin T) [v]) Q E s₁) E ⟨hp, g, d, t, os⟩)
    (he : starEach [e] env = [(false, eval e env)] := by rfl) : wpAny (model prog w) A (callWith pos (.builtin T) [] (backTo pos (starEach [e] env)) []) Q E ⟨hp, g, d, t, os⟩ :=
  PyProof.Rows.callWith_builtin1 (args_cons (wpAny_mono h (fun v s₁ h₁ => args_nil h₁) fun _ _ e => e) he) he (by rfl)
theorem cwB2 {pos : Pos} {T : String} {e e' : Expr} {Q : Value → Shared → Prop}
    (h : wpAny (model prog w) A (eval e env) (fun v s₁ => wpAny (model prog w) A (eval e' env) (fun v' s₁ => wpAny (model prog w) A (call (.builtin T) [v, v']) Q E s₁) E s₁) E ⟨hp, g, d, t, os⟩)
    (he : starEach [e, e'] env = (false, eval e env) :: starEach [e'] env := by rfl) (he' : starEach [e'] env = [(false, eval e' env)] := by rfl) : wpAny (model prog w) A (callWith pos (.builtin T) [] (backTo pos (starEach [e, e'] env)) []) Q E ⟨hp, g, d, t, os⟩ :=
  PyProof.Rows.callWith_builtin1 (args_cons (wpAny_mono h (fun v s₁ h₁ => args_cons (wpAny_mono h₁ (fun v s₁ h₁ => args_nil h₁) fun _ _ e => e) he') fun _ _ e => e) he) he (by rw [he']; rfl)
end
end Mine
end

section
open PySem PySem.W PySem.Calls PyProof.Rows
set_option Elab.async false
set_option maxRecDepth 100000
set_option linter.unusedSimpArgs false
set_option linter.unusedVariables false
namespace Mine
structure Sx (P : Params) (T W : List Addr) (c₀ c : Cr) (O O₂ : List Addr) (env : Env) (m : Str → Option Value) : Prop where
  F : Fx T W c₀ c O env m
  X : Wd P O c.h
  B : Bg O O₂ c.h
section
variable {P : Params} {T W O O₂ : List Addr} {c₀ c c' : Cr} {env : Env} {m : Str → Option Value}
theorem Sx.go (S : Sx P T W c₀ c O O₂ env m) (e : Ext T W c c') : Sx P T W c₀ c' O O₂ env m := ⟨S.F.go e, S.X.up (S.F.upE e), S.B.go e⟩
theorem Sx.up (S : Sx P T W c₀ c O O₂ env m) (e : Ext T W c c') : Up O c.h O c'.h := S.F.upE e
theorem Sx.up2 (S : Sx P T W c₀ c O O₂ env m) (e : Ext T W c c') : Up O₂ c.h O₂ c'.h := S.B.up (S.F.upE e)
/-- own things turn, or what is mutable there -/
theorem Sx.goL {V : List Addr} (S : Sx P T W c₀ c O O₂ env m) (x : Ext T V c c') (h : ∀ b ∈ V, (c₀.h.get? b = none ∨ b ∈ W) ∧ b ∉ ownOf env ∧ b ∈ O) : Sx P T W c₀ c' O O₂ env m ∧ Up O c.h O c'.h ∧ Up O₂ c.h O₂ c'.h := by
  obtain ⟨a, b⟩ := S.F.goL x h
  exact ⟨⟨a, S.X.up b, S.B.go x⟩, b, S.B.up b⟩
theorem Sx.gd (S : Sx P T W c₀ c O O₂ env m) {V : List Addr} (h : ∀ b ∈ V, b ∈ O ∧ b ∉ T) : Gd T V O c.h := ⟨S.F.tin, h, S.F.low, S.F.tab⟩
theorem Sx.gd0 (S : Sx P T W c₀ c O O₂ env m) : Gd T [] O c.h := S.gd (by simp)
/-- for a call: only what it may turn need be mutable -/
theorem Sx.gdT (S : Sx P T W c₀ c O O₂ env m) : Gd T [] T c.h := ⟨fun _ h => h, by simp, fun b hb => S.F.low b (S.F.tin b hb), S.F.tab⟩
theorem Sx.xT (S : Sx P T W c₀ c O O₂ env m) : Wd P T c.h := S.X.up (Up.less S.F.tin)
theorem Sx.bT (S : Sx P T W c₀ c O O₂ env m) : Bg T O₂ c.h := ⟨fun b hb => S.B.sub b (S.F.tin b hb), S.B.low⟩
theorem Sx.uT (S : Sx P T W c₀ c O O₂ env m) : Up O c.h T c.h := Up.less S.F.tin
end
section
variable {prog : Program} {w : World} {A : Around} {E : Value → Shared → Prop} {c c₀ : Cr} {d : Drawn} {t : Nat} {os : OsState} {env : Env} {m : Str → Option Value} {T W O O₂ : List Addr}
theorem sx_store {x : Str} {v : Value} {Q : Unit → Shared → Prop} (S : Sx w.params T W c₀ c O O₂ env m)
    (h : ∀ c' t' a, Loc env x a → Sx w.params T W c₀ c' O O₂ env (upd m x v) → Up O c.h O c'.h → Up O₂ c.h O₂ c'.h → Ext T [a] c c' → Q () ⟨c'.h, c'.g, d, t', os⟩) (hx : isVar env x = true := by rfl) (hf : (env.kindOf x == some .free) = false := by rfl) :
    wpAny (model prog w) A (storeName env x v) Q E ⟨c.h, c.g, d, t, os⟩ :=
  fx_store S.F (fun c' t' a hl F u e _ => h c' t' a hl ⟨F, S.X.up u, S.B.go e⟩ u (S.B.up u) e) hx hf
theorem fn_in {name qual : Str} {params : Arguments} {body : List Stmt} {scope : Scope} {dV kV doc pm cdv ct oc : Value} {an od : Option Addr} {osl : Array (Option Value)} {f : Addr} {args : Args} (binds : List (Str × Value)) {R : Result → Shared → Prop}
    (hroom : A.depth < recursionLimit) (G : Gd T W O c.h) (X : Wd w.params O c.h) (B : Bg O O₂ c.h)
    (ho : (KK w.params).lookup f = some ⟨oc, od, .func (fnOf name qual params body scope dV kV doc pm an cdv ct), osl⟩) (hcd : codeIn (KK w.params) cdv qual = true)
    (hbind : BindsTo ⟨c.h, c.g, d, t, os⟩ (fnOf name qual params body scope dV kV doc pm an cdv ct) args binds)
    (hkind : (binds.all fun y => scope.names.lookup y.1 == some .local || scope.names.lookup y.1 == some .cell) = true)
    (hnd : ((cellsFrom 0 scope.names []).map (·.1)).Nodup) (hco : scope.isCoroutine = false) (hgen : scope.isGenerator = false) (hk : scope.kind = .function)
    (h : ∀ env c₁ t₁ O' O₂', env = envOfC qual scope c.h.objs.size f cdv → Sx w.params T W c c₁ O' O₂' env (bindM binds fun _ => none) → Up O c.h O' c₁.h → Up O₂ c.h O₂' c₁.h → (∀ b ∈ O₂, b ∈ O₂') → (∀ b ∈ O, b ∈ O') → Ext T [] c c₁ →
      wpAny (model prog w) (A.deeper env) (execs body env) (fun fl s' => R (.ok (.ret (match fl with | .ret v => v | _ => .none))) s')
        (fun e s' => wpAny (model prog w) (A.deeper env) (leaving env e) (fun _ s'' => R (.error e) s'') (fun e' s'' => R (.error e') s'') s') ⟨c₁.h, c₁.g, d, t₁, os⟩) :
    codeAny (model prog w) A (.call (.ref f) args) R ⟨c.h, c.g, d, t, os⟩ := by
  refine fn_code hroom G X.k X.lim ho hcd hbind hkind hnd hco hgen hk fun env c₁ t₁ he F u e => ?_
  have own : Low (ownOf env) c₁.h := fun b hb => F.low b (List.mem_append_left _ hb)
  refine h env c₁ t₁ (ownOf env ++ O) (ownOf env ++ O₂) he ⟨F, X.up u, (B.go e).more own⟩ u (fun b o q => ⟨fun z => ?_, e.heap b o (fun z => q.1 (B.sub b (G.tin b z))) (by simp) q.2⟩) (fun b hb => List.mem_append_right _ hb) (fun b hb => List.mem_append_right _ hb) e
  rcases List.mem_append.mp z with z | z
  · have := (F.new b z).1; rw [q.2] at this; cases this
  · exact q.1 z
end
end Mine
end

section
open PySem PySem.W PySem.Calls PyProof.Rows
set_option Elab.async false
set_option maxRecDepth 100000
set_option linter.unusedSimpArgs false
set_option linter.unusedVariables false
namespace Mine
section
variable {prog : Program} {w : World} {A : Around} {E : Value → Shared → Prop} {c c₀ : Cr} {d : Drawn} {t : Nat} {os : OsState} {env : Env} {m : Str → Option Value} {T W O O₂ : List Addr}
noncomputable abbrev CompTurn (prog : Program) (w : World) (A : Around) (d : Drawn) (os : OsState) (c₀ c₁ : Cr) (T W V O O₂ : List Addr) (env : Env) (m : Str → Option Value) (n : Nat) (P : Nat → Value → Prop) (elt : Expr) (x : Str) (scope : Scope) (cl : List (Str × Addr))
    (El : Nat → Value → List Addr → Heap → Prop) (Sv : Nat → List Addr → Heap → Prop) : Prop :=
  ∀ M i v nn L c t Q' E', (∀ b ∈ M, c₁.h.get? b = none ∨ b ∈ O) → (∀ b ∈ V, b ∉ M) → i < n → P i v → Sx w.params T W c₀ c (M ++ O) (M ++ O₂) (cEnv scope (cellsFrom nn scope.names cl) L env) (upd (cNames scope m) x v) → Ext T V c₁ c → Up O c₁.h (M ++ O) c.h → Up O₂ c₁.h (M ++ O₂) c.h → Sv i (M ++ O₂) c.h →
        (∀ c' t' y, Ext T V c c' → El i y (M ++ O₂) c'.h → Sv (i + 1) (M ++ O₂) c'.h → Q' y ⟨c'.h, c'.g, d, t', os⟩) → wpAny (model prog w) A (eval elt (cEnv scope (cellsFrom nn scope.names cl) L env)) Q' E' ⟨c.h, c.g, d, t, os⟩

theorem sx_comp {elt iter : Expr} {x : Str} {px : Pos} {scope : Scope} {pos : Pos} {cl : List (Str × Addr)} {Q : Value → Shared → Prop} (S₀ : Sx w.params T W c₀ c O O₂ env m) (V : List Addr) (El : Nat → Value → List Addr → Heap → Prop) (Sv : Nat → List Addr → Heap → Prop)
    (h : wpAny (model prog w) A (eval iter env) (fun xv s₁ => ∃ c₁ t₁ n P, s₁ = ⟨c₁.h, c₁.g, d, t₁, os⟩ ∧ Sx w.params T W c₀ c₁ O O₂ env m ∧ IterIn prog w A T V d os xv c₁ n P ∧ n ≤ sizeLine ∧ (∀ b ∈ V, (c₀.h.get? b = none ∨ b ∈ W) ∧ b ∉ ownOf env ∧ b ∈ O ∧ b ∉ T) ∧ UpC El ∧ UpS V Sv ∧ Sv 0 O₂ c₁.h ∧
      CompTurn prog w A d os c₀ c₁ T W V O O₂ env m n P elt x scope cl El Sv ∧
      (∀ D c' t', c₁.h.get? D = none → Sx w.params T W c₀ c' O O₂ env m → Ext T V c₁ c' → Up O c₁.h O c'.h → Up O₂ c₁.h O₂ c'.h → Ls O₂ c'.h D n El → Sv n O₂ c'.h → Q (.ref D) ⟨c'.h, c'.g, d, t', os⟩)) E ⟨c.h, c.g, d, t, os⟩)
    (hs : ∀ x, foldedSetIterable iter env x = pure x := by intro _; rfl)
    (hcl : closL env.cells scope.names [] = some cl := by rfl) (hok : scopeOk scope env = true := by rfl) (hk : scope.kind = .function := by rfl) (hfree : scope.names.lookup x ≠ some .free := by decide)
    (hnames : ∀ y ∈ scope.names, y.2 = .local → scope.names.lookup y.1 = some .local := by decide)
    (hx : ∀ nn L, isVar (cEnv scope (cellsFrom nn scope.names cl) L env) x = true ∧ ((cEnv scope (cellsFrom nn scope.names cl) L env).kindOf x == some .free) = false := by exact fun _ _ => ⟨rfl, rfl⟩) :
    wpAny (model prog w) A (eval (.ListComp elt [⟨.Name x px, iter, [], 0⟩] scope pos) env) Q E ⟨c.h, c.g, d, t, os⟩ := by
  refine comp_list (V := V) (O := O) (O₂ := O₂) (W := W) (T := T) (c₀ := c₀) (m := m) (cl := cl) El Sv (wpAny_mono h (fun xv s₁ h₁ => ?_) fun _ _ e => e) hs hcl hok hk hfree hnames hx
  obtain ⟨c₁, t₁, n, P, rfl, S, it, sz, hV, up, upS, s0, turn, done⟩ := h₁
  refine ⟨c₁, t₁, n, P, rfl, ⟨S.F, it, sz, hV, S.B, up, upS, s0, ?_⟩, fun D c' t' hD F e u u2 B l s => done D c' t' hD ⟨F, S.X.up u, B⟩ e u u2 l s⟩
  exact fun M i v nn L c t Q' E' hM hVM hi hP F e u u2 B s q => turn M i v nn L c t Q' E' hM hVM hi hP ⟨F, S.X.up u, B⟩ e u u2 s q

noncomputable abbrev CompTurn0 (prog : Program) (w : World) (A : Around) (d : Drawn) (os : OsState) (c₀ c₁ : Cr) (T W O O₂ : List Addr) (env : Env) (m : Str → Option Value) (n : Nat) (P : Nat → Value → Prop) (elt : Expr) (x : Str) (scope : Scope) (cl : List (Str × Addr))
    (El : Nat → Value → List Addr → Heap → Prop) : Prop :=
  ∀ M i v nn L c t Q' E', i < n → P i v → Sx w.params T W c₀ c (M ++ O) (M ++ O₂) (cEnv scope (cellsFrom nn scope.names cl) L env) (upd (cNames scope m) x v) → Ext T [] c₁ c → Up O c₁.h (M ++ O) c.h → Up O₂ c₁.h (M ++ O₂) c.h →
        (∀ c' t' y, Ext T [] c c' → El i y (M ++ O₂) c'.h → Q' y ⟨c'.h, c'.g, d, t', os⟩) → wpAny (model prog w) A (eval elt (cEnv scope (cellsFrom nn scope.names cl) L env)) Q' E' ⟨c.h, c.g, d, t, os⟩
theorem sx_comp0 {elt iter : Expr} {x : Str} {px : Pos} {scope : Scope} {pos : Pos} {cl : List (Str × Addr)} {Q : Value → Shared → Prop} (S₀ : Sx w.params T W c₀ c O O₂ env m) (El : Nat → Value → List Addr → Heap → Prop)
    (h : wpAny (model prog w) A (eval iter env) (fun xv s₁ => ∃ c₁ t₁ n P, s₁ = ⟨c₁.h, c₁.g, d, t₁, os⟩ ∧ Sx w.params T W c₀ c₁ O O₂ env m ∧ IterIn prog w A T [] d os xv c₁ n P ∧ n ≤ sizeLine ∧ UpC El ∧
      CompTurn0 prog w A d os c₀ c₁ T W O O₂ env m n P elt x scope cl El ∧
      (∀ D c' t', c₁.h.get? D = none → Sx w.params T W c₀ c' O O₂ env m → Ext T [] c₁ c' → Up O c₁.h O c'.h → Up O₂ c₁.h O₂ c'.h → Ls O₂ c'.h D n El → Q (.ref D) ⟨c'.h, c'.g, d, t', os⟩)) E ⟨c.h, c.g, d, t, os⟩)
    (hs : ∀ x, foldedSetIterable iter env x = pure x := by intro _; rfl)
    (hcl : closL env.cells scope.names [] = some cl := by rfl) (hok : scopeOk scope env = true := by rfl) (hk : scope.kind = .function := by rfl) (hfree : scope.names.lookup x ≠ some .free := by decide)
    (hnames : ∀ y ∈ scope.names, y.2 = .local → scope.names.lookup y.1 = some .local := by decide)
    (hx : ∀ nn L, isVar (cEnv scope (cellsFrom nn scope.names cl) L env) x = true ∧ ((cEnv scope (cellsFrom nn scope.names cl) L env).kindOf x == some .free) = false := by exact fun _ _ => ⟨rfl, rfl⟩) :
    wpAny (model prog w) A (eval (.ListComp elt [⟨.Name x px, iter, [], 0⟩] scope pos) env) Q E ⟨c.h, c.g, d, t, os⟩ := by
  refine sx_comp (O := O) (O₂ := O₂) (W := W) (T := T) (c₀ := c₀) (m := m) (cl := cl) S₀ [] El (fun _ _ _ => True) (wpAny_mono h (fun xv s₁ h₁ => ?_) fun _ _ e => e) hs hcl hok hk hfree hnames hx
  obtain ⟨c₁, t₁, n, P, rfl, S, it, sz, up, turn, done⟩ := h₁
  exact ⟨c₁, t₁, n, P, rfl, S, it, sz, by simp, up, fun _ _ _ _ _ _ _ _ => trivial, trivial, fun M i v nn L c t Q' E' _ _ hi hP S e u u2 _ q => turn M i v nn L c t Q' E' hi hP S e u u2 (fun c' t' y e y' => q c' t' y e y' trivial), fun D c' t' hD S e u u2 l _ => done D c' t' hD S e u u2 l⟩
theorem sx_compA {elt iter : Expr} {x y : Str} {px py : Pos} {scope : Scope} {pos spos : Pos} {cl : List (Str × Addr)} {Q : Flow → Shared → Prop} (S₀ : Sx w.params T W c₀ c O O₂ env m) (V : List Addr) (El : Nat → Value → List Addr → Heap → Prop) (Sv : Nat → List Addr → Heap → Prop)
    (h : wpAny (model prog w) A (eval iter env) (fun xv s₁ => ∃ c₁ t₁ n P, s₁ = ⟨c₁.h, c₁.g, d, t₁, os⟩ ∧ Sx w.params T W c₀ c₁ O O₂ env m ∧ IterIn prog w A T V d os xv c₁ n P ∧ n ≤ sizeLine ∧ (∀ b ∈ V, (c₀.h.get? b = none ∨ b ∈ W) ∧ b ∉ ownOf env ∧ b ∈ O ∧ b ∉ T) ∧ UpC El ∧ UpS V Sv ∧ Sv 0 O₂ c₁.h ∧
      CompTurn prog w A d os c₀ c₁ T W V O O₂ env m n P elt x scope cl El Sv ∧
      (∀ D c' t', c₁.h.get? D = none → Sx w.params T W c₀ c' O O₂ env (upd m y (.ref D)) → Up O c₁.h O c'.h → Up O₂ c₁.h O₂ c'.h → Ls O₂ c'.h D n El → Sv n O₂ c'.h → Q .next ⟨c'.h, c'.g, d, t', os⟩)) E ⟨c.h, c.g, d, t, os⟩)
    (hs : ∀ x, foldedSetIterable iter env x = pure x := by intro _; rfl)
    (hcl : closL env.cells scope.names [] = some cl := by rfl) (hok : scopeOk scope env = true := by rfl) (hk : scope.kind = .function := by rfl) (hfree : scope.names.lookup x ≠ some .free := by decide)
    (hnames : ∀ y ∈ scope.names, y.2 = .local → scope.names.lookup y.1 = some .local := by decide)
    (hx : ∀ nn L, isVar (cEnv scope (cellsFrom nn scope.names cl) L env) x = true ∧ ((cEnv scope (cellsFrom nn scope.names cl) L env).kindOf x == some .free) = false := by exact fun _ _ => ⟨rfl, rfl⟩)
    (hy : isVar env y = true := by rfl) (hyf : (env.kindOf y == some .free) = false := by rfl) (hsw : swapsWith (.ListComp elt [⟨.Name x px, iter, [], 0⟩] scope pos) (some (.Name y py)) spos.line env = pure true := by rfl) :
    wpAny (model prog w) A (exec (.Assign [.Name y py] (.ListComp elt [⟨.Name x px, iter, [], 0⟩] scope pos) spos) env) Q E ⟨c.h, c.g, d, t, os⟩ := by
  refine comp_list_assign (V := V) (O := O) (O₂ := O₂) (W := W) (T := T) (c₀ := c₀) (m := m) (cl := cl) El Sv (wpAny_mono h (fun xv s₁ h₁ => ?_) fun _ _ e => e) hs hcl hok hk hfree hnames hx hy hyf hsw
  obtain ⟨c₁, t₁, n, P, rfl, S, it, sz, hV, up, upS, s0, turn, done⟩ := h₁
  refine ⟨c₁, t₁, n, P, rfl, ⟨S.F, it, sz, hV, S.B, up, upS, s0, ?_⟩, fun D c' t' hD F u u2 B l s => done D c' t' hD ⟨F, S.X.up u, B⟩ u u2 l s⟩
  exact fun M i v nn L c t Q' E' hM hVM hi hP F e u u2 B s q => turn M i v nn L c t Q' E' hM hVM hi hP ⟨F, S.X.up u, B⟩ e u u2 s q
theorem sx_compA0 {elt iter : Expr} {x y : Str} {px py : Pos} {scope : Scope} {pos spos : Pos} {cl : List (Str × Addr)} {Q : Flow → Shared → Prop} (S₀ : Sx w.params T W c₀ c O O₂ env m) (El : Nat → Value → List Addr → Heap → Prop)
    (h : wpAny (model prog w) A (eval iter env) (fun xv s₁ => ∃ c₁ t₁ n P, s₁ = ⟨c₁.h, c₁.g, d, t₁, os⟩ ∧ Sx w.params T W c₀ c₁ O O₂ env m ∧ IterIn prog w A T [] d os xv c₁ n P ∧ n ≤ sizeLine ∧ UpC El ∧
      CompTurn0 prog w A d os c₀ c₁ T W O O₂ env m n P elt x scope cl El ∧
      (∀ D c' t', c₁.h.get? D = none → Sx w.params T W c₀ c' O O₂ env (upd m y (.ref D)) → Up O c₁.h O c'.h → Up O₂ c₁.h O₂ c'.h → Ls O₂ c'.h D n El → Q .next ⟨c'.h, c'.g, d, t', os⟩)) E ⟨c.h, c.g, d, t, os⟩)
    (hs : ∀ x, foldedSetIterable iter env x = pure x := by intro _; rfl)
    (hcl : closL env.cells scope.names [] = some cl := by rfl) (hok : scopeOk scope env = true := by rfl) (hk : scope.kind = .function := by rfl) (hfree : scope.names.lookup x ≠ some .free := by decide)
    (hnames : ∀ y ∈ scope.names, y.2 = .local → scope.names.lookup y.1 = some .local := by decide)
    (hx : ∀ nn L, isVar (cEnv scope (cellsFrom nn scope.names cl) L env) x = true ∧ ((cEnv scope (cellsFrom nn scope.names cl) L env).kindOf x == some .free) = false := by exact fun _ _ => ⟨rfl, rfl⟩)
    (hy : isVar env y = true := by rfl) (hyf : (env.kindOf y == some .free) = false := by rfl) (hsw : swapsWith (.ListComp elt [⟨.Name x px, iter, [], 0⟩] scope pos) (some (.Name y py)) spos.line env = pure true := by rfl) :
    wpAny (model prog w) A (exec (.Assign [.Name y py] (.ListComp elt [⟨.Name x px, iter, [], 0⟩] scope pos) spos) env) Q E ⟨c.h, c.g, d, t, os⟩ := by
  refine sx_compA (O := O) (O₂ := O₂) (W := W) (T := T) (c₀ := c₀) (m := m) (cl := cl) S₀ [] El (fun _ _ _ => True) (wpAny_mono h (fun xv s₁ h₁ => ?_) fun _ _ e => e) hs hcl hok hk hfree hnames hx hy hyf hsw
  obtain ⟨c₁, t₁, n, P, rfl, S, it, sz, up, turn, done⟩ := h₁
  exact ⟨c₁, t₁, n, P, rfl, S, it, sz, by simp, up, fun _ _ _ _ _ _ _ _ => trivial, trivial, fun M i v nn L c t Q' E' _ _ hi hP S e u u2 _ q => turn M i v nn L c t Q' E' hi hP S e u u2 (fun c' t' y e y' => q c' t' y e y' trivial), fun D c' t' hD S u u2 l _ => done D c' t' hD S u u2 l⟩

theorem sx_for {iter : Expr} {body : List Stmt} {x : Str} {px pos : Pos} {Q : Flow → Shared → Prop} (S₀ : Sx w.params T W c₀ c O O₂ env m) (V : List Addr) (Sv : Nat → (Str → Option Value) → List Addr → Heap → Prop)
    (h : wpAny (model prog w) A (eval iter env) (fun xv s₁ => ∃ c₁ t₁ n P, s₁ = ⟨c₁.h, c₁.g, d, t₁, os⟩ ∧ Sx w.params T W c₀ c₁ O O₂ env m ∧ IterIn prog w A T O d os xv c₁ n P ∧ (∀ b ∈ V, b ∉ ownOf env ∧ b ∈ O ∧ b ∉ T) ∧ (∀ i mm O h O' h', Sv i mm O h → Up O h O' h' → Kp V h h' → Sv i mm O' h') ∧ Sv 0 m O₂ c₁.h ∧
      (∀ I i v c mm t R E', c₁.h.get? I = none → I ∉ O₂ → (∃ o, c.h.get? I = some o) → i < n → P i v → Sx w.params T W c₀ c O (I :: O₂) env (upd mm x v) → Up O c₁.h O c.h → Up O₂ c₁.h (I :: O₂) c.h → Sv i mm (I :: O₂) c.h →
      (∀ c' t' mm', Sx w.params T W c₀ c' O (I :: O₂) env mm' → Up O c.h O c'.h → Sv (i + 1) mm' (I :: O₂) c'.h → R Flow.next ⟨c'.h, c'.g, d, t', os⟩) →
      wpAny (model prog w) A (execs body env) R E' ⟨c.h, c.g, d, t, os⟩) ∧
      (∀ c' t' mm, Sx w.params T W c₀ c' O O₂ env mm → Up O c₁.h O c'.h → Up O₂ c₁.h O₂ c'.h → Sv n mm O₂ c'.h → Q .next ⟨c'.h, c'.g, d, t', os⟩)) E ⟨c.h, c.g, d, t, os⟩)
    (hs : ∀ x, foldedSetIterable iter env x = pure x := by intro _; rfl) (hx : isVar env x = true := by rfl) (hxf : (env.kindOf x == some .free) = false := by rfl) :
    wpAny (model prog w) A (exec (.For (.Name x px) iter body [] pos) env) Q E ⟨c.h, c.g, d, t, os⟩ := by
  refine for_rule (V := V) (O := O) (O₂ := O₂) (W := W) (T := T) (c₀ := c₀) (m := m) Sv hx hxf (wpAny_mono h (fun xv s₁ h₁ => ?_) fun _ _ e => e) hs
  obtain ⟨c₁, t₁, n, P, rfl, S, it, hV, up, s0, turn, done⟩ := h₁
  refine ⟨c₁, t₁, n, P, rfl, ⟨S.F, it, hV, S.B, up, s0, ?_⟩, fun c' t' mm F u u2 B s => done c' t' mm ⟨F, S.X.up u, B⟩ u u2 s⟩
  exact fun I i v c mm t R E' hI hIO hIe hi hP F u u2 B s q => turn I i v c mm t R E' hI hIO hIe hi hP ⟨F, S.X.up u, B⟩ u u2 s fun c' t' mm' S' u' s' => q c' t' mm' S'.F u' s'
end
end Mine
end

section
open PySem PySem.W PySem.Calls PyProof.Rows
set_option Elab.async false
set_option maxRecDepth 100000
set_option linter.unusedSimpArgs false
set_option linter.unusedVariables false
namespace Mine
theorem Fx.mores {T W c₀ c O env m} (F : Fx T W c₀ c O env m) {L : List Addr} (l : Low L c.h) : Fx T W c₀ c (L ++ O) env m :=
  ⟨F.ext, F.vars, fun b hb => List.mem_append_right _ (F.own b hb), fun b hb => List.mem_append_right _ (F.tin b hb), fun b hb => List.mem_append_right _ (F.win b hb), fun b hb => by
    rcases List.mem_append.mp hb with hb | hb
    · exact l b hb
    · exact F.low b hb, F.new, F.tab⟩
/-- an iterable of pairs, opened -/
noncomputable def IterInT (prog : Program) (w : World) (A : Around) (T : List Addr) (d : Drawn) (os : OsState) (xv : Value) (c₁ : Cr) (n : Nat) (P : Nat → Array Value → Prop) : Prop :=
  ∀ (Q E : Value → Shared → Prop) (t : Nat), (∀ I fp wr St Mid, WalksT prog w A I fp wr n P St Mid → I ∈ wr → (∀ b ∈ wr, c₁.h.get? b = none ∨ b ∉ T) → St 0 c₁.h →
    Q (.ref I) ⟨c₁.h, c₁.g, d, t, os⟩) → wpAny (model prog w) A (pyIter xv) Q E ⟨c₁.h, c₁.g, d, t, os⟩

section
variable {prog : Program} {w : World} {A : Around} {E : Value → Shared → Prop} {c c₀ : Cr} {d : Drawn} {t : Nat} {os : OsState} {env : Env} {m : Str → Option Value} {T W O O₂ : List Addr}

theorem comp_coreZ {elt iter : Expr} {x y : Str} {px py tp : Pos} {kk : Nat} {scope : Scope} {pos : Pos} {cl : List (Str × Addr)} {RR : Value → Addr → Result → Shared → Prop} (J : List Addr → Nat → List Value → Cr → Prop) {c₁ c₂ : Cr} {t₁ n : Nat} {P : Nat → Array Value → Prop} {I : Addr} {fp wr : List Addr} {St : Nat → Heap → Prop} {Mid : Nat → Addr → Heap → Prop}
    (hh : A.handled = none) (hcl : closL env.cells scope.names [] = some cl) (hok : scopeOk scope env = true) (hk : scope.kind = .function) (hfree : scope.names.lookup x ≠ some .free) (hfree2 : scope.names.lookup y ≠ some .free)
    (hx : ∀ nn L, isVar (cEnv scope (cellsFrom nn scope.names cl) L env) x = true ∧ ((cEnv scope (cellsFrom nn scope.names cl) L env).kindOf x == some .free) = false)
    (hy : ∀ nn L, isVar (cEnv scope (cellsFrom nn scope.names cl) L env) y = true ∧ ((cEnv scope (cellsFrom nn scope.names cl) L env).kindOf y == some .free) = false)
    (F₁ : Fx T W c₀ c₁ O env m) (e₂ : Ext T [] c₁ c₂) (Wk : WalksT prog w A I fp wr n P St Mid) (hIwr : I ∈ wr) (hwr : ∀ b ∈ wr, c₁.h.get? b = none ∧ b ∉ T ∧ ∃ o, c₂.h.get? b = some o) (st₀ : St 0 c₂.h)
    (hwo : ∀ i h, St i h → ∀ b ∈ wr, ∃ o, h.get? b = some o)
    (hfp : ∀ b ∈ fp, b ∈ wr ∨ (c₁.h.get? b = none ∧ b ∉ T ∧ ∃ o, c₂.h.get? b = some o) ∨ ((∃ o, c₁.h.get? b = some o) ∧ b ∉ T)) (hsz : n ≤ sizeLine)
    (hJs : ∀ M i ys c c', J M i ys c → (∀ b o, b ∉ M → b ∉ T → c.h.get? b = some o → c'.h.get? b = some o) → J M i ys c')
    (hJ0 : ∀ M c₂, Ext T [] c₁ c₂ → (∀ b ∈ M, c₁.h.get? b = none ∨ b ∈ O) → Up O c₁.h (M ++ O) c₂.h → J M 0 [] c₂)
    (helt : ∀ M i v₁ v₂ ys nn L c t Q' E', (∀ b ∈ M, c₁.h.get? b = none ∨ b ∈ O) → i < n → P i #[v₁, v₂] → Fx T W c₀ c (M ++ O) (cEnv scope (cellsFrom nn scope.names cl) L env) (upd (upd (cNames scope m) x v₁) y v₂) → Ext T [] c₁ c → Up O c₁.h (M ++ O) c.h → J M i ys c →
        (∀ c' t' y, Ext T [] c c' → J M (i + 1) (ys ++ [y]) c' → Q' y ⟨c'.h, c'.g, d, t', os⟩) → wpAny (model prog w) A (eval elt (cEnv scope (cellsFrom nn scope.names cl) L env)) Q' E' ⟨c.h, c.g, d, t, os⟩)
    (hP : ∀ i vs, P i vs → ∃ v₁ v₂, vs = #[v₁, v₂])
    (hRR : ∀ M D L c' t' ys, Fx T W c₀ c' O env m → Ext T [] c₁ c' → Up O c₁.h O c'.h → c₁.h.get? D = none → D ∉ O → LsO c'.h D ys.toArray → ys.length = n → J M n ys c' → L ∈ M → L ≠ D → c₁.h.get? L = none → L ∉ T → L ∉ O → (∃ ml, c'.h.Ns L ml) →
        RR (.ref D) L (.ok .next) ⟨c'.h, c'.g, d, t', os⟩) :
    wpAny (model prog w) A (newList []) (fun acc s₃ => wpAny (model prog w) A (newFunctionEnv scope env.globals cl [] env.qual none .none (some env)) (fun cenv s₄ =>
      codeAny (model prog w) A (.compStart (.ListComp elt [⟨.Tuple [.Name x px, .Name y py] kk tp, iter, [], 0⟩] scope pos) 0 (.ref I) acc { cenv with scope := relabel scope env }) (RR acc cenv.locals) s₄) E s₃) E ⟨c₂.h, c₂.g, d, t₁, os⟩ := by
  have F₂ := F₁.go e₂.nil
  have hTl₂ : ∀ b ∈ T, ∃ o, c₂.h.get? b = some o := fun b hb => F₂.low b (F₂.tin b hb)
  obtain ⟨F₃, u₃, hD⟩ := F₂.push (o := { cls := .type "list", dict := none, data := .seq ([] : List Value).toArray }) rfl
  refine wpAny_newObj_type ?_ (by show (0 : Nat) ≤ sizeLine; exact Nat.zero_le _)
  have F₃' := F₃.mores (L := wr) (fun b hb => by obtain ⟨o, e⟩ := (hwr b hb).2.2; exact ⟨o, Heap.get?_push_of_some _ e⟩)
  generalize hc₃ : (⟨c₂.h.push { cls := .type "list", dict := none, data := .seq ([] : List Value).toArray }, c₂.g⟩ : Cr) = c₃ at F₃ F₃' u₃
  have k₃ : ∀ b o, c₂.h.get? b = some o → c₃.h.get? b = some o := by subst hc₃; exact fun b o e => Heap.get?_push_of_some _ e
  have list₃ : LsO c₃.h c₂.h.objs.size ([] : List Value).toArray := by subst hc₃; exact ⟨_, Heap.get?_push_size _ rfl⟩
  have e₃ : Ext T [] c₂ c₃ := by subst hc₃; exact Ext.push
  show wpAny _ _ _ _ _ ⟨c₂.h.push { cls := .type "list", dict := none, data := .seq ([] : List Value).toArray }, c₂.g, d, _, os⟩
  have hst : ∀ tt, (⟨c₂.h.push { cls := .type "list", dict := none, data := .seq ([] : List Value).toArray }, c₂.g, d, tt, os⟩ : Shared) = ⟨c₃.h, c₃.g, d, tt, os⟩ := by subst hc₃; exact fun _ => rfl
  rw [hst]
  refine comp_env F₃' hk hcl hok fun c₄ nn L cells hcells hfresh hown F₄ e₄ u₄ hg₄ hns hL => ?_
  subst hcells
  obtain ⟨hx1, hx2⟩ := hx nn L
  obtain ⟨hy1, hy2⟩ := hy nn L
  have sizeNe : ∀ b o, c₁.h.get? b = some o → b ≠ c₂.h.objs.size := fun b o e => by
    obtain ⟨o', e'⟩ := e₂.there b o e
    exact ne_of_none size_none e'
  have hDn : c₁.h.get? c₂.h.objs.size = none := by
    cases q : c₁.h.get? c₂.h.objs.size with
    | none => rfl
    | some o => exact absurd rfl (sizeNe _ o q)
  have c₁new : ∀ b, c₃.h.get? b = none → c₁.h.get? b = none := fun b e => by
    cases q : c₁.h.get? b with
    | none => rfl
    | some o => obtain ⟨o', e'⟩ := e₂.there b o q; rw [k₃ b o' e'] at e; cases e
  have hLn : c₁.h.get? L = none := c₁new L hL
  have wr₂ : ∀ b ∈ wr, b ≠ c₂.h.objs.size := fun b hb => by obtain ⟨o, e⟩ := (hwr b hb).2.2; exact ne_of_none size_none e
  have hLD : L ≠ c₂.h.objs.size := fun q => by obtain ⟨o, e⟩ := list₃; rw [q, e] at hL; cases hL
  have hDT : c₂.h.objs.size ∉ T := fun q => by obtain ⟨o, e⟩ := hTl₂ _ q; rw [size_none] at e; cases e
  have hDO : c₂.h.objs.size ∉ O := F₂.fresh size_none
  have hDown : ∀ b ∈ ownOf (cEnv scope (cellsFrom nn scope.names cl) L env), b ∉ wr ∧ b ≠ c₂.h.objs.size ∧ (c₁.h.get? b = none ∨ b ∈ O) ∧ b ∉ T ∧ (∀ o, c₁.h.get? b = some o → b ∈ ownOf env) := fun b hb => by
    have hT := (F₄.new b hb).2.1
    rcases hown b hb with z | z
    · refine ⟨fun q => by (obtain ⟨o, e⟩ := (hwr b q).2.2); (rw [k₃ b o e] at z); (cases z), fun q => by (obtain ⟨o, e⟩ := list₃); (rw [q, e] at z); (cases z), .inl (c₁new b z), hT, fun o q => by (rw [c₁new b z] at q); (cases q)⟩
    · obtain ⟨o, e⟩ := F₁.low b (F₁.own b z)
      exact ⟨fun q => by (rw [(hwr b q).1] at e); (cases e), sizeNe b o e, .inr (F₁.own b z), hT, fun _ _ => z⟩
  have hC₀ : ∀ b, c₁.h.get? b = none → c₀.h.get? b = none := fun b z => by
    cases q : c₀.h.get? b with
    | none => rfl
    | some o => obtain ⟨o', e'⟩ := F₁.ext.there _ o q; rw [z] at e'; cases e'
  generalize hDd : c₂.h.objs.size = D at *
  generalize hce : cEnv scope (cellsFrom nn scope.names cl) L env = cenv at *
  have hMO : (ownOf cenv ++ (wr ++ [D])) ++ O = ownOf cenv ++ (wr ++ D :: O) := by simp
  generalize hMM : ownOf cenv ++ (wr ++ [D]) = M at hMO
  have hM : ∀ b ∈ M, c₁.h.get? b = none ∨ b ∈ O := fun b hb => by
    subst hMM
    rcases List.mem_append.mp hb with hb | hb
    · exact (hDown b hb).2.2.1
    · rcases List.mem_append.mp hb with hb | hb
      · exact .inl (hwr b hb).1
      · rw [List.mem_singleton.mp hb]; exact .inl hDn
  have hDM : D ∈ M ∧ (∀ b ∈ wr, b ∈ M) ∧ ∀ b ∈ ownOf cenv, b ∈ M := by subst hMM; exact ⟨by simp, fun b hb => by simp [hb], fun b hb => List.mem_append_left _ hb⟩
  have hlocal : cenv.locals = L := by subst hce; rfl
  rw [← hMO] at F₄
  have upOf : ∀ cc : Cr, Ext T [] c₁ cc → Up O c₁.h (M ++ O) cc.h := fun cc ec b o e => by
    refine ⟨fun q => ?_, ec.heap b o (fun q => e.1 (F₁.tin b q)) (by simp) e.2⟩
    rcases List.mem_append.mp q with q | q
    · rcases hM b q with z | z
      · rw [e.2] at z; cases z
      · exact e.1 z
    · exact e.1 q
  have ext₄ : Ext T [] c₁ c₄ := (e₂.trans e₃).trans e₄
  have list₄ : LsO c₄.h D ([] : List Value).toArray := list_ext list₃ e₄ hDT (by simp)
  have fpT : ∀ b ∈ fp, b ∉ T ∧ b ≠ D ∧ ∃ o, c₃.h.get? b = some o := fun b hb => by
    rcases hfp b hb with z | ⟨z1, z2, o, z3⟩ | ⟨⟨o, z1⟩, z2⟩
    · obtain ⟨o, q⟩ := (hwr b z).2.2
      exact ⟨(hwr b z).2.1, wr₂ b z, o, k₃ b o q⟩
    · exact ⟨z2, hDd ▸ ne_of_none size_none z3, o, k₃ b o z3⟩
    · obtain ⟨o', q⟩ := e₂.there b o z1
      exact ⟨z2, sizeNe b o z1, o', k₃ b o' q⟩
  have st₄ : St 0 c₄.h := Wk.frame 0 _ _ st₀ fun b hb o e => e₄.heap b o (fpT b hb).1 (by simp) (e₃.heap b o (fpT b hb).1 (by simp) e)
  let Inv : Nat → Shared → Prop := fun k s => ∃ i ys c t mm, k = n - i ∧ i ≤ n ∧ s = ⟨c.h, c.g, d, t, os⟩ ∧ Fx T W c₀ c (M ++ O) cenv mm ∧ (∀ v v', upd (upd mm x v) y v' = upd (upd (cNames scope m) x v) y v') ∧ St i c.h ∧ LsO c.h D ys.toArray ∧ ys.length = i ∧ Ext T [] c₁ c ∧ J M i ys c
  have loop : codeAny (model prog w) A (.compLoop (.ListComp elt [⟨.Tuple [.Name x px, .Name y py] kk tp, iter, [], 0⟩] scope pos) 0 (.ref I) (.ref D) cenv) (RR (.ref D) L) ⟨c₄.h, c₄.g, d, t₁, os⟩ := by
    refine kcp_loop Inv (fun k s hI' => ?_) (n - 0) ⟨0, [], c₄, t₁, cNames scope m, rfl, Nat.zero_le _, rfl, F₄, fun _ _ => rfl, st₄, list₄, rfl, ext₄.nil, hJ0 M c₄ ext₄ hM (upOf _ ext₄)⟩
    obtain ⟨i, ys, c, t, mm, rfl, hi, rfl, F, hmm, st, hl, hlen, ex, hJ⟩ := hI'
    by_cases hlt : i < n
    · refine Wk.item i _ _ _ hlt st fun T' vals h' tk hPv hT' htup hMid hk' => ?_
      refine Wk.go _ _ _ i T' ⟨h', c.g, d, tk, os⟩ _ _ hMid fun h'' st' hk'' => ?_
      have htup' : h''.IsTuple T' vals := by
        obtain ⟨o, q, r⟩ := htup
        exact ⟨o, hk'' T' o (Wk.apart i T' h' hMid) q, r⟩
      obtain ⟨v₁, v₂, rfl⟩ := hP i vals hPv
      have kk2 : ∀ b o, b ∉ wr → c.h.get? b = some o → h''.get? b = some o := fun b o hb e => hk'' b o hb (hk' b o hb e)
      have eI' : Ext T wr c ⟨h'', c.g⟩ := ⟨fun b o _ hb e => kk2 b o hb e, fun b o e => by
        by_cases q : b ∈ wr
        · exact hwo _ _ st' b q
        · exact ⟨o, kk2 b o q e⟩, fun z P hP' => let ⟨vs, e, q⟩ := z P hP'; ⟨vs, kk2 P _ (fun q => (hwr P q).2.1 hP') e, q⟩, ⟨fun _ _ e => e, id⟩⟩
      have F' := (F.goL eI' (fun b hb => ⟨.inl (hC₀ b (hwr b hb).1), fun q => (hDown b q).1 hb, List.mem_append_left _ (hDM.2.1 b hb)⟩)).1
      have J' := hJs M i ys c ⟨h'', c.g⟩ hJ (fun b o hb hbT e => kk2 b o (fun q => hb (hDM.2.1 b q)) e)
      have l' := list_ext hl eI' hDT (fun q => wr₂ D q rfl)
      have ex' : Ext T [] c₁ ⟨h'', c.g⟩ := ex.absorb eI' fun b hb => .inl (hwr b hb).1
      refine wpAny_assign_Tuple (s := ⟨h'', c.g, d, tk, os⟩) hh htup' rfl rfl fun h₁ he₁ => ?_
      have kk3 : ∀ b o, h''.get? b = some o → h₁.get? b = some o := fun b o e => he₁ b o (Nat.ne_of_lt (Heap.lt_size e)) e
      have e1 : Ext T [] ⟨h'', c.g⟩ ⟨h₁, c.g⟩ := Ext.of_keep kk3
      have F1 := F'.go e1.nil
      have J1 := hJs M i ys _ ⟨h₁, c.g⟩ J' (fun b o hb hbT e => kk3 b o e)
      have l1 := list_ext l' e1 hDT (by simp)
      have ex1 := ex'.trans e1
      have st1 : St (i + 1) h₁ := Wk.frame _ _ _ st' fun b hb o e => kk3 b o e
      show wpAny _ _ (assignInOrder [assign (.Name x px) cenv, assign (.Name y py) cenv] [v₁, v₂]) _ _ _
      refine assignInOrder_cons (wpAny_assign_Name (fx_store F1 (fun c₅ t₅ a hloc F₅ u₅ e₅ hg₅ => ?_) hx1 hx2))
      have ha₃ : c₃.h.get? a = none := hfresh x a hloc hfree
      have ha₁ := c₁new a ha₃
      have st₅ : St (i + 1) c₅.h := Wk.frame _ _ _ st1 fun b hb o e => e₅.heap b o (fpT b hb).1 (by simp; rintro rfl; (obtain ⟨o', q⟩ := (fpT _ hb).2.2); (rw [ha₃] at q); cases q) e
      have l₅ := list_ext l1 e₅ hDT (by simpa using Ne.symm (hDown a hloc.own).2.1)
      have J₅ := hJs M i ys _ c₅ J1 (fun b o hb hbT e => e₅.heap b o hbT (fun q => hb (by rw [List.mem_singleton.mp q]; exact hDM.2.2 a hloc.own)) e)
      have ex₅ : Ext T [] c₁ c₅ := ex1.absorb e₅ fun b hb => by rw [List.mem_singleton.mp hb]; exact .inl ha₁
      refine assignInOrder_cons (wpAny_assign_Name (fx_store F₅ (fun c₅' t₅' a' hloc' F₅' u₅' e₅' hg₅' => ?_) hy1 hy2))
      have ha₃' : c₃.h.get? a' = none := hfresh y a' hloc' hfree2
      have ha₁' := c₁new a' ha₃'
      have st₅' : St (i + 1) c₅'.h := Wk.frame _ _ _ st₅ fun b hb o e => e₅'.heap b o (fpT b hb).1 (by simp; rintro rfl; (obtain ⟨o', q⟩ := (fpT _ hb).2.2); (rw [ha₃'] at q); cases q) e
      have l₅' := list_ext l₅ e₅' hDT (by simpa using Ne.symm (hDown a' hloc'.own).2.1)
      have J₅' := hJs M i ys _ c₅' J₅ (fun b o hb hbT e => e₅'.heap b o hbT (fun q => hb (by rw [List.mem_singleton.mp q]; exact hDM.2.2 a' hloc'.own)) e)
      have ex₅' : Ext T [] c₁ c₅' := ex₅.absorb e₅' fun b hb => by rw [List.mem_singleton.mp hb]; exact .inl ha₁'
      refine assignInOrder_nil ?_
      have FF : Fx T W c₀ c₅' (M ++ O) (cEnv scope (cellsFrom nn scope.names cl) L env) (upd (upd (cNames scope m) x v₁) y v₂) := by rw [hce]; exact hmm v₁ v₂ ▸ F₅'
      have call := helt M i v₁ v₂ ys nn L c₅' t₅' (fun y' s₃ => wpAny (model prog w) (A.under (.compLoop (.ListComp elt [⟨.Tuple [.Name x px, .Name y py] kk tp, iter, [], 0⟩] scope pos) 0 (.ref I) (.ref D) cenv)) (PySem.call (.builtin "list.append") [.ref D, y']) (fun _ s₄ => ∃ m, m < n - i ∧ Inv m s₄) (notedBy (model prog w) A cenv fun e s' => RR (.ref D) L (.error e) s') s₃) (notedBy (model prog w) A cenv fun e s' => RR (.ref D) L (.error e) s') hM hlt hPv FF ex₅' (upOf _ ex₅') J₅' (fun c₆ t₆ y' e₆ J₆ => ?_)
      · rw [hce] at call; exact call
      have l₆ := list_ext l₅' e₆ hDT (by simp)
      refine x_append (T := T) (W := [D]) l₆ hDT (by simp) (by omega) (fun c₇ l₇ e₇ sb₇ hg₇ => ?_)
      have F₆ := F₅'.go e₆.nil
      have F₇ := (F₆.goL e₇ (fun b hb => by rw [List.mem_singleton.mp hb]; exact ⟨.inl (hC₀ D hDn), fun q => (hDown D q).2.1 rfl, List.mem_append_left _ hDM.1⟩)).1
      refine ⟨n - (i + 1), by omega, i + 1, ys ++ [y'], c₇, t₆, _, rfl, hlt, rfl, F₇, fun v v' => ?_, Wk.frame _ _ _ st₅' fun b hb o e => ?_, l₇, by simp [hlen], (ex₅'.trans e₆).absorb e₇ (fun b hb => by rw [List.mem_singleton.mp hb]; exact .inl hDn), hJs M _ _ c₆ _ J₆ (fun b o hb hbT e => e₇.heap b o hbT (fun q => hb (by rw [List.mem_singleton.mp q]; exact hDM.1)) e)⟩
      · funext z
        by_cases q : z = y
        · simp [upd, q]
        · by_cases q' : z = x
          · simp [upd, q, q']
          · have := congrFun (hmm v v') z
            simpa [upd, q, q'] using this
      · exact e₇.heap b o (fpT b hb).1 (by simpa using (fpT b hb).2.1) (e₆.heap b o (fpT b hb).1 (by simp) e)
    · obtain rfl : i = n := Nat.le_antisymm hi (Nat.not_lt.mp hlt)
      refine Wk.done _ _ _ st fun h' tk hk' => ?_
      obtain ⟨ml, hns', _⟩ := F.vars.loc
      rw [hlocal] at hns'
      have hLown : L ∈ ownOf cenv := by rw [← hlocal]; exact List.mem_cons_self ..
      have hLT : L ∉ T := (hDown L hLown).2.2.2.1
      have ex'' : Ext T [] c₁ ⟨h', c.g⟩ := ex.lose hk' fun b hb => ⟨(hwr b hb).1, (hwr b hb).2.1⟩
      obtain ⟨Fo, uo⟩ := F₁.goL ex'' (by simp)
      have lD : LsO h' D ys.toArray := by
        obtain ⟨o, e⟩ := hl
        exact ⟨o, hk' D _ (fun q => wr₂ D q rfl) e⟩
      refine hRR M D L ⟨h', c.g⟩ _ ys Fo ex'' uo hDn hDO lD hlen (hJs M _ _ c _ hJ fun b o hb hbT e => hk' b o (fun q => hb (hDM.2.1 b q)) e) (hDM.2.2 L hLown) hLD hLn hLT (fun q => ?_) ⟨ml, hns'.at' fun o e => hk' L o (hDown L hLown).1 e⟩
      obtain ⟨o, e⟩ := F₁.low L q
      rw [hLn] at e; cases e
  have goal := codeAny_compStart_list (prog := prog) (w := w) (A := A) (rest := []) loop (Wk.self 0 _ _ _ st₄ loop)
  subst hce
  exact goal
end
end Mine
end

section
open PySem PySem.W PySem.Calls PyProof.Rows
set_option Elab.async false
set_option maxRecDepth 100000
set_option linter.unusedSimpArgs false
set_option linter.unusedVariables false
namespace Mine
noncomputable def ZipIn (prog : Program) (w : World) (T : List Addr) (c₁ c₂ : Cr) (z : Addr) (n : Nat) (P : Nat → Array Value → Prop) : Prop :=
  ∀ A, A.handled = none → ∃ fp wr St Mid, WalksT prog w A z fp wr n P St Mid ∧ z ∈ wr ∧ (∀ b ∈ wr, c₁.h.get? b = none ∧ b ∉ T ∧ ∃ o, c₂.h.get? b = some o) ∧ St 0 c₂.h ∧ (∀ i h, St i h → ∀ b ∈ wr, ∃ o, h.get? b = some o) ∧
    (∀ b ∈ fp, b ∈ wr ∨ (c₁.h.get? b = none ∧ b ∉ T ∧ ∃ o, c₂.h.get? b = some o) ∨ ((∃ o, c₁.h.get? b = some o) ∧ b ∉ T))
section
variable {prog : Program} {w : World} {A : Around} {E : Value → Shared → Prop} {c c₀ : Cr} {d : Drawn} {t : Nat} {os : OsState} {env : Env} {m : Str → Option Value} {T W O O₂ : List Addr}
theorem x_zip {l1 l2 : Addr} {xs ys : List Value} {Q : Value → Shared → Prop} (hl1 : LsO c.h l1 xs.toArray) (hl2 : LsO c.h l2 ys.toArray) (h1 : l1 ∉ T) (h2 : l2 ∉ T) (tl : ∀ b ∈ T, ∃ o, c.h.get? b = some o)
    (h : ∀ c' z, Ext T [] c c' → ZipIn prog w T c c' z (min xs.length ys.length) (fun i vals => ∃ x y, xs.toArray[i]? = some x ∧ ys.toArray[i]? = some y ∧ vals = #[x, y]) → Q (.ref z) ⟨c'.h, c'.g, d, t, os⟩) :
    wpAny (model prog w) A (call (.type "zip") [.ref l1, .ref l2]) Q E ⟨c.h, c.g, d, t, os⟩ := by
  refine call_zip_2 (s := ⟨c.h, c.g, d, t, os⟩) hl1.isL hl2.isL fun h' hz hTI hTO i1 i2 hs hk => ?_
  dsimp only at hz hTI hTO i1 i2 hs hk
  have e : Ext T [] c ⟨h', c.g⟩ := Ext.of_keep hk
  have fr : ∀ k, c.h.get? (c.h.objs.size + k) = none := fun k => Heap.get?_none_of_le (Nat.le_add_right _ _)
  have nT : ∀ k, c.h.objs.size + k ∉ T := fun k q => by obtain ⟨o, e⟩ := tl _ q; rw [fr] at e; cases e
  obtain ⟨o1, q1⟩ := list_get hl1
  obtain ⟨o2, q2⟩ := list_get hl2
  have ne1 : ∀ k, l1 ≠ c.h.objs.size + k := fun k => ne_of_none (fr k) q1
  have ne2 : ∀ k, l2 ≠ c.h.objs.size + k := fun k => ne_of_none (fr k) q2
  have fr0 : c.h.get? c.h.objs.size = none := size_none
  have nT0 : c.h.objs.size ∉ T := fun q => by obtain ⟨o, e⟩ := tl _ q; rw [fr0] at e; cases e
  have ne10 : l1 ≠ c.h.objs.size := ne_of_none fr0 q1
  have ne20 : l2 ≠ c.h.objs.size := ne_of_none fr0 q2
  have N : ∀ {a b : Nat}, a ≠ b → (c.h.objs.size + a : Nat) ≠ c.h.objs.size + b := fun h q => h (Nat.add_left_cancel q)
  have N0 : ∀ {a : Nat}, 0 ≠ a → (c.h.objs.size : Nat) ≠ c.h.objs.size + a := fun h q => h (by omega)
  have N0' : ∀ {a : Nat}, 0 ≠ a → (c.h.objs.size + a : Nat) ≠ c.h.objs.size := fun h q => h (by omega)
  have D : ZipApart (c.h.objs.size + 4) (c.h.objs.size + 2) (c.h.objs.size + 3) c.h.objs.size (c.h.objs.size + 1) l1 l2 :=
    ⟨N (by decide), N (by decide), N0 (by decide), N (by decide), N (by decide), N0' (by decide), N (by decide), N0' (by decide), N (by decide), N0 (by decide), ne1 4, ne1 3, ne10, ne1 1, ne2 4, ne2 3, ne20, ne2 1⟩
  refine h ⟨h', c.g⟩ (c.h.objs.size + 4) e fun A hh => ⟨_, _, _, _, WalksT.zip2 (prog := prog) (w := w) hh _ _ _ _ _ l1 l2 D xs.toArray ys.toArray, by simp, fun b hb => ?_, ⟨hz, hTI, ⟨_, _, hTO⟩, i1, i2, (list_ext hl1 e h1 (by simp)).isL, (list_ext hl2 e h2 (by simp)).isL⟩, fun i hh st b hb => ?_, fun b hb => ?_⟩
  · simp at hb
    rcases hb with rfl | rfl | rfl | rfl
    · exact ⟨fr 4, nT 4, _, hz⟩
    · exact ⟨fr 3, nT 3, _, hTO⟩
    · exact ⟨fr0, nT0, by obtain ⟨o, q, _⟩ := i1; exact ⟨o, q⟩⟩
    · exact ⟨fr 1, nT 1, by obtain ⟨o, q, _⟩ := i2; exact ⟨o, q⟩⟩
  · obtain ⟨a1, a2, ⟨_, _, a3⟩, a4, a5, _⟩ := st
    simp at hb
    rcases hb with rfl | rfl | rfl | rfl
    · exact ⟨_, a1⟩
    · exact ⟨_, a3⟩
    · obtain ⟨o, q, _⟩ := a4; exact ⟨o, q⟩
    · obtain ⟨o, q, _⟩ := a5; exact ⟨o, q⟩
  · simp at hb
    rcases hb with rfl | rfl | rfl | rfl | rfl | rfl | rfl
    · exact .inl (by simp)
    · exact .inr (.inl ⟨fr 2, nT 2, _, hTI⟩)
    · exact .inl (by simp)
    · exact .inl (by simp)
    · exact .inl (by simp)
    · exact .inr (.inr ⟨⟨o1, q1⟩, h1⟩)
    · exact .inr (.inr ⟨⟨o2, q2⟩, h2⟩)

theorem sx_zipA {elt iter : Expr} {x y z : Str} {px py pz tp : Pos} {kk : Nat} {scope : Scope} {pos spos : Pos} {cl : List (Str × Addr)} {Q : Flow → Shared → Prop} (S₀ : Sx w.params T W c₀ c O O₂ env m) (El : Nat → Value → List Addr → Heap → Prop) (hh : A.handled = none)
    (h : wpAny (model prog w) A (eval iter env) (fun xv s₁ => ∃ c₁ c₂ t₁ n P a, s₁ = ⟨c₂.h, c₂.g, d, t₁, os⟩ ∧ xv = .ref a ∧ Sx w.params T W c₀ c₁ O O₂ env m ∧ Ext T [] c₁ c₂ ∧ ZipIn prog w T c₁ c₂ a n P ∧ n ≤ sizeLine ∧ UpC El ∧ (∀ i vs, P i vs → ∃ v₁ v₂, vs = #[v₁, v₂]) ∧
      (∀ M i v₁ v₂ nn L c t Q' E', i < n → P i #[v₁, v₂] → Sx w.params T W c₀ c (M ++ O) (M ++ O₂) (cEnv scope (cellsFrom nn scope.names cl) L env) (upd (upd (cNames scope m) x v₁) y v₂) → Ext T [] c₁ c → Up O c₁.h (M ++ O) c.h → Up O₂ c₁.h (M ++ O₂) c.h →
        (∀ c' t' y, Ext T [] c c' → El i y (M ++ O₂) c'.h → Q' y ⟨c'.h, c'.g, d, t', os⟩) → wpAny (model prog w) A (eval elt (cEnv scope (cellsFrom nn scope.names cl) L env)) Q' E' ⟨c.h, c.g, d, t, os⟩) ∧
      (∀ D c' t', c₁.h.get? D = none → Sx w.params T W c₀ c' O O₂ env (upd m z (.ref D)) → Up O c₁.h O c'.h → Up O₂ c₁.h O₂ c'.h → Ls O₂ c'.h D n El → Q .next ⟨c'.h, c'.g, d, t', os⟩)) E ⟨c.h, c.g, d, t, os⟩)
    (hs : ∀ x, foldedSetIterable iter env x = pure x := by intro _; rfl)
    (hcl : closL env.cells scope.names [] = some cl := by rfl) (hok : scopeOk scope env = true := by rfl) (hk : scope.kind = .function := by rfl) (hfree : scope.names.lookup x ≠ some .free := by decide) (hfree2 : scope.names.lookup y ≠ some .free := by decide)
    (hnames : ∀ y ∈ scope.names, y.2 = .local → scope.names.lookup y.1 = some .local := by decide)
    (hx : ∀ nn L, isVar (cEnv scope (cellsFrom nn scope.names cl) L env) x = true ∧ ((cEnv scope (cellsFrom nn scope.names cl) L env).kindOf x == some .free) = false := by exact fun _ _ => ⟨rfl, rfl⟩)
    (hy : ∀ nn L, isVar (cEnv scope (cellsFrom nn scope.names cl) L env) y = true ∧ ((cEnv scope (cellsFrom nn scope.names cl) L env).kindOf y == some .free) = false := by exact fun _ _ => ⟨rfl, rfl⟩)
    (hz : isVar env z = true := by rfl) (hzf : (env.kindOf z == some .free) = false := by rfl) (hsw : swapsWith (.ListComp elt [⟨.Tuple [.Name x px, .Name y py] kk tp, iter, [], 0⟩] scope pos) (some (.Name z pz)) spos.line env = pure true := by rfl) :
    wpAny (model prog w) A (exec (.Assign [.Name z pz] (.ListComp elt [⟨.Tuple [.Name x px, .Name y py] kk tp, iter, [], 0⟩] scope pos) spos) env) Q E ⟨c.h, c.g, d, t, os⟩ := by
  rw [exec_Assign_Name_used _ _ _ _ hsw]
  refine wpAny_bind (wpAny_standAt (wpAny_bind ?_))
  show wpAny _ A (do let _ ← comprehension (.ListComp elt [⟨.Tuple [.Name x px, .Name y py] kk tp, iter, [], 0⟩] scope pos) scope env _ (newList []) false (eval iter env) (some (assign (.Name z pz) env))) _ _ _
  refine wpAny_bind (wpAny_mono (wpAny_comprehension_free (use := some (assign (.Name z pz) env)) (Q := fun _ s' => Q .next s') rfl hs (closL_closureFor hcl) hk hnames
    (wpAny_mono h (fun xv s₁ h₁ => ?_) fun _ _ e => e)) (fun _ s' hq => wpAny_pure (wpAny_pure hq)) fun _ _ e => e)
  obtain ⟨c₁, c₂, t₁, n, P, a, rfl, rfl, S₁, e₂, Z, sz, up, hP, turn, done⟩ := h₁
  obtain ⟨fp, wr, St, Mid, Wk, hI, hwr, st₀, hwo, hfp⟩ := Z A hh
  refine Wk.self 0 _ _ _ st₀ ?_
  have tO₂ : ∀ b ∈ T, b ∈ O₂ := fun b hb => S₁.B.sub b (S₁.F.tin b hb)
  have upM : ∀ M cc, (∀ b ∈ M, c₁.h.get? b = none ∨ b ∈ O) → Ext T [] c₁ cc → Up O₂ c₁.h (M ++ O₂) cc.h := fun M cc hM ex b o e => ⟨fun q => by
    rcases List.mem_append.mp q with q | q
    · rcases hM b q with z | z
      · rw [e.2] at z; cases z
      · exact e.1 (S₁.B.sub b z)
    · exact e.1 q, ex.heap b o (fun q => e.1 (tO₂ b q)) (by simp) e.2⟩
  refine comp_coreZ (O := O) (m := m) (c₀ := c₀) (W := W) (fun M i ys c => ys.length = i ∧ (∀ k y, ys[k]? = some y → El k y (M ++ O₂) c.h)) hh hcl hok hk hfree hfree2 hx hy S₁.F e₂ Wk hI hwr st₀ hwo hfp sz ?_ ?_ ?_ hP ?_
  · rintro M i ys c c' ⟨h1, h2⟩ k
    have u : Up (M ++ O₂) c.h (M ++ O₂) c'.h := fun b o e => ⟨e.1, k b o (fun q => e.1 (List.mem_append_left _ q)) (fun q => e.1 (List.mem_append_right _ (tO₂ b q))) e.2⟩
    exact ⟨h1, fun k y e => up _ _ _ _ _ _ (h2 k y e) u⟩
  · intro M c₂ ex hM u
    exact ⟨rfl, by simp⟩
  · rintro M i v₁ v₂ ys nn L c t Q' E' hM hi hPv F ex u ⟨h1, h2⟩ hq
    have lowM : Bg (M ++ O) (M ++ O₂) c.h := (S₁.B.go ex).more fun b hb => F.low b (List.mem_append_left _ hb)
    refine turn M i v₁ v₂ nn L c t Q' E' hi hPv ⟨F, S₁.X.up u, lowM⟩ ex u (upM M c hM ex) fun c' t' y e' hy => hq c' t' y e' ⟨by simp [h1], fun k z hz => ?_⟩
    rcases Nat.lt_or_ge k ys.length with q | q
    · rw [List.getElem?_append_left q] at hz
      exact up _ _ _ _ _ _ (h2 k z hz) (e'.up (fun b hb => List.mem_append_right _ (tO₂ b hb)) (by simp))
    · rw [List.getElem?_append_right q] at hz
      have : k - ys.length = 0 := by
        rcases Nat.eq_zero_or_pos (k - ys.length) with z | z
        · exact z
        · rw [List.getElem?_eq_none (by simp; omega)] at hz; cases hz
      rw [this] at hz
      simp at hz
      subst hz
      have : k = i := by omega
      subst this
      exact hy
  · rintro M D L c' t' ys F' ex u hD hDO hl hlen ⟨h1, h2⟩ hLM hLD hLn hLT hLO hns
    obtain ⟨ml, hns⟩ := hns
    show wpAny _ A (assign (.Name z pz) env (.ref D)) _ _ _
    refine wpAny_assign_Name (fx_store F' (fun c₃ t₃ b hloc F₃ u₃ e₃ hg₃ => ?_) hz hzf)
    have hbO : b ∈ O := F'.own b hloc.own
    have hbL : L ≠ b := fun q => hLO (q ▸ hbO)
    have hbD : D ≠ b := fun q => hDO (q ▸ hbO)
    obtain ⟨oL, es, ep, hLg, r⟩ := hns
    refine ⟨ml, ⟨oL, es, ep, e₃.heap L oL hLT (by simpa using hbL) hLg, r⟩, fun h'' sb => ?_⟩
    have kk : ∀ b o, b ∉ [L] → c₃.h.get? b = some o → h''.get? b = some o := fun b o hb e => (sb.2 b (by simpa using hb)).trans e
    have hL0 : c₀.h.get? L = none := by
      cases q : c₀.h.get? L with
      | none => rfl
      | some o => obtain ⟨o', e'⟩ := S₁.F.ext.there L o q; rw [hLn] at e'; cases e'
    have ha1 : ∀ b, b ∈ ownOf env → b ≠ L := fun b hb q => hLO (q ▸ F'.own b hb)
    have F₄ : Fx T W c₀ ⟨h'', c₃.g⟩ O env (upd m z (.ref D)) := ⟨F₃.ext.lose kk fun b hb => by rw [List.mem_singleton.mp hb]; exact ⟨hL0, hLT⟩, F₃.vars.keeps fun b hb o e => kk b o (by simpa using ha1 b hb) e, F₃.own, F₃.tin, F₃.win, fun b hb => by
      obtain ⟨o, e⟩ := F₃.low b hb
      exact ⟨o, kk b o (by simp; rintro rfl; exact hLO hb) e⟩, F₃.new, fun P hP => by
      obtain ⟨vs, e, q⟩ := F₃.tab P hP
      exact ⟨vs, kk P _ (by simp; rintro rfl; exact hLT hP) e, q⟩⟩
    have e₄ : Ext T [b] c₁ ⟨h'', c₃.g⟩ := ((ex.wide (by simp)).trans e₃).lose kk fun b hb => by rw [List.mem_singleton.mp hb]; exact ⟨hLn, hLT⟩
    have u₄ : Up O c₁.h O h'' := e₄.up S₁.F.tin fun b' hb => by rw [List.mem_singleton.mp hb]; exact hbO
    have B₄ : Bg O O₂ h'' := S₁.B.go e₄
    refine done D ⟨h'', c₃.g⟩ t₃ hD ⟨F₄, S₁.X.up u₄, B₄⟩ u₄ (u₄.wide S₁.B.sub) ⟨ys, ⟨fun q => (by obtain ⟨o, e⟩ := S₁.B.low D q; rw [hD] at e; cases e), ?_⟩, hlen, fun k v e => up _ _ _ _ _ _ (h2 k v e) fun b' o q => ⟨fun z => q.1 (List.mem_append_right _ z), ?_⟩⟩
    · have hDT : D ∉ T := fun q => hDO (S₁.F.tin D q)
      obtain ⟨o, q⟩ := list_ext hl e₃ hDT (by simpa using hbD)
      exact ⟨o, kk D _ (by simpa using Ne.symm hLD) q⟩
    · have hb'L : b' ≠ L := by rintro rfl; exact q.1 (List.mem_append_left _ hLM)
      exact kk b' o (by simpa using hb'L) (e₃.heap b' o (fun z => q.1 (List.mem_append_right _ (tO₂ b' z))) (by simp; rintro rfl; exact q.1 (List.mem_append_right _ (S₁.B.sub _ hbO))) q.2)
end
end Mine
end

section
open PySem PySem.W PySem.Calls PyProof.Rows
set_option Elab.async false
set_option maxRecDepth 100000
set_option linter.unusedSimpArgs false
set_option linter.unusedVariables false
namespace Mine
theorem Up.consF {O h h'} {D : Addr} (u : Up O h O h') (e : h.get? D = none) : Up O h (D :: O) h' := fun b o q => ⟨fun z => by
  rcases List.mem_cons.mp z with rfl | z
  · have := q.2; rw [e] at this; cases this
  · exact q.1 z, (u b o q).2⟩
theorem Ext.none {T W c c'} (e : Ext T W c c') {b : Addr} (h : c'.h.get? b = none) : c.h.get? b = none := by
  cases q : c.h.get? b with
  | none => rfl
  | some o => obtain ⟨o', e'⟩ := e.there b o q; rw [h] at e'; cases e'
theorem Fx.none {T W c₀ c O env m} (F : Fx T W c₀ c O env m) {b : Addr} (h : c.h.get? b = none) : c₀.h.get? b = none := F.ext.none h
theorem Sx.more {P T W c₀ c O O₂ env m} (S : Sx P T W c₀ c O O₂ env m) {c₁ : Cr} {D : Addr} (X : Wd P O c₁.h) (u : Up O c₁.h O c.h) (hD : c₁.h.get? D = none) (he : ∃ o, c.h.get? D = some o) : Sx P T W c₀ c (D :: O) (D :: O₂) env m :=
  ⟨S.F.more he, X.up (u.consF hD), ⟨fun b hb => by
    rcases List.mem_cons.mp hb with rfl | hb
    · exact List.mem_cons_self ..
    · exact .tail _ (S.B.sub b hb), fun b hb => by
    rcases List.mem_cons.mp hb with rfl | hb
    · exact he
    · exact S.B.low b hb⟩⟩
section
variable {prog : Program} {w : World} {A : Around} {E : Value → Shared → Prop} {c : Cr} {hp : Heap} {g : Array GenState} {d : Drawn} {t : Nat} {os : OsState} {O : List Addr} {K : Frag} {x C dx : Addr} {fs : List (Str × Value)} {name : Str} {env : Env}
noncomputable def ownM (K : Frag) (C : Addr) (name : Str) : Bool := ownOk K C name && findIn K (.ref C) name == some none
theorem x_getMo {v : Value} {pl : Sem Bool} {Q : Value × List Value → Shared → Prop} (X : Wd w.params O hp) (I : Ins O hp x C fs) (h : Q (v, []) ⟨hp, g, d, t + 1, os⟩) (hl : fs.lookup name = some v := by rfl) (hk : ownM (KK w.params) C name = true := by kernel_rfl) (hh : handedIn v = true := by rfl) :
    wpAny (model prog w) A (getMethod (.ref x) name pl) Q E ⟨hp, g, d, t, os⟩ := by
  obtain ⟨dx, es, n, J, r⟩ := I.at
  unfold ownM at hk
  simp only [Bool.and_eq_true, beq_iff_eq] at hk
  have hk' := hk.1
  unfold ownOk at hk'
  rw [Bool.and_eq_true, Bool.and_eq_true] at hk'
  exact method_usual (s := ⟨hp, g, d, t, os⟩) X.k J (plainGet_of hk'.1.1).1 (plainGet_of hk'.1.1).2 hk.2 rfl (x_get X I h hl hk.1 hh)
theorem x_iadd {a b : Int} {u v : Tok} {Q : Value → Shared → Prop} (h : Q (.int (a + b) t) ⟨hp, g, d, t + 1, os⟩) : wpAny (model prog w) A (inplaceOp .Add (.int a u) (.int b v)) Q E ⟨hp, g, d, t, os⟩ :=
  AutoIntOps.iadd_0 (s := ⟨hp, g, d, t, os⟩) h
theorem x_isub {a b : Int} {u v : Tok} {Q : Value → Shared → Prop} (h : Q (.int (a - b) t) ⟨hp, g, d, t + 1, os⟩) : wpAny (model prog w) A (inplaceOp .Sub (.int a u) (.int b v)) Q E ⟨hp, g, d, t, os⟩ :=
  AutoIntOps.isub_0 (s := ⟨hp, g, d, t, os⟩) h
theorem x_copyM {l : Addr} {vs : List Value} {pos : Pos} {pl : Sem Bool} {Q : Value → Shared → Prop} (hl : LsO c.h l vs.toArray) (hsz : vs.length ≤ sizeLine)
    (h : ∀ c' l', (∀ T W, Ext T W c c') → LsO c'.h l' vs.toArray → c.h.get? l' = none → Q (.ref l') ⟨c'.h, c'.g, d, t, os⟩) :
    wpAny (model prog w) A (getMethod (.ref l) "copy" pl) (fun fx s₂ => wpAny (model prog w) A (callWith pos fx.1 fx.2 (backTo pos (starEach [] env)) []) Q E s₂) E ⟨c.h, c.g, d, t, os⟩ := by
  obtain ⟨n, ho⟩ := hl
  refine getMethod_list_of (s := ⟨c.h, c.g, d, t, os⟩) PySem.F.slot_list_copy PySem.F.type_list_copy ⟨_, ho, rfl, n, rfl⟩ ⟨_, ho, rfl⟩ ?_
  exact P.copy_list (s := ⟨c.h, c.g, d, t, os⟩) ho (h ⟨_, c.g⟩ _ (fun _ _ => Ext.push) ⟨_, Heap.get?_push_size _ rfl⟩ size_none) (by simpa using hsz)
theorem x_appendM {l : Addr} {pos : Pos} {pl : Sem Bool} {e : Expr} {Q : Value → Shared → Prop} (hl : ∃ vs : List Value, LsO hp l vs.toArray)
    (h : wpAny (model prog w) A (eval e env) (fun v s₁ => ∃ c t₁ vs T W, s₁ = ⟨c.h, c.g, d, t₁, os⟩ ∧ LsO c.h l (List.toArray vs) ∧ l ∉ T ∧ l ∈ W ∧ vs.length ≤ sizeLine ∧ (∀ c', LsO c'.h l (vs ++ [v]).toArray → Ext T W c c' → Heap.SameBut l c.h c'.h → Q .none ⟨c'.h, c'.g, d, t₁, os⟩)) E ⟨hp, g, d, t, os⟩)
    (he : starEach [e] env = [(false, eval e env)] := by rfl) :
    wpAny (model prog w) A (getMethod (.ref l) "append" pl) (fun fx s₂ => wpAny (model prog w) A (callWith pos fx.1 fx.2 (backTo pos (starEach [e] env)) []) Q E s₂) E ⟨hp, g, d, t, os⟩ := by
  obtain ⟨vs, n, ho⟩ := hl
  refine Calls.getMethod_list_append (s := ⟨hp, g, d, t, os⟩) ho rfl rfl ?_
  rw [he]
  refine P.append_list (s := ⟨hp, g, d, t, os⟩) ?_
  show wpAny _ _ (eval e env) _ _ _
  refine wpAny_mono h (fun v s₁ h₁ => ?_) fun _ _ e => e
  obtain ⟨c, t₁, vs, T, W, rfl, ⟨n, ho⟩, hT, hW, hz, k⟩ := h₁
  have e' : vs.toArray.push v = (vs ++ [v]).toArray := by simp
  have sb : Heap.SameBut l c.h (c.h.update l (Obj.mapSeq fun xs => xs.push v)) := Heap.SameBut.update ..
  have fin : LsO (c.h.update l (Obj.mapSeq fun xs => xs.push v)) l (vs ++ [v]).toArray := ⟨if (vs.toArray.push v).size == vs.toArray.size then n else n + 1, by rw [← e']; exact Heap.get?_update_self _ ho rfl⟩
  exact ⟨vs.toArray, n, by simpa using hz, ho, k ⟨_, c.g⟩ fin (Ext.but sb hT hW ⟨_, fin.choose_spec⟩) sb⟩
end
end Mine
end

section
open PySem PySem.W PySem.Calls PyProof.Rows
set_option Elab.async false
set_option maxRecDepth 100000
set_option linter.unusedSimpArgs false
set_option linter.unusedVariables false
namespace Mine
theorem regD1 : PySem.Challenge.rw_yd0003_04 = PySem.Challenge.rw_yd0003_04 ∧ hd.heap_1 = hd.heap_1 := by k_fill; exact ⟨rfl, rfl⟩

noncomputable def IsRing (O : List Addr) (h : Heap) (r : Addr) (q n : Int) : Prop := ∃ tq tn, Ins O h r 59 [("q", .int q tq), ("n", .int n tn)]
noncomputable def Ints (O : List Addr) (h : Heap) (l : Addr) (n : Nat) (c : Nat → Int) : Prop := Ls O h l n (fun k v _ _ => ∃ u, v = .int (c k) u)
noncomputable def IsPoly (O : List Addr) (h : Heap) (p r : Addr) (n : Nat) (c : Nat → Int) : Prop := ∃ l, Ins O h p 220 [("parent", .ref r), ("coeffs", .ref l)] ∧ Ints O h l n c
theorem IsRing.up {O h r q n O' h'} (x : IsRing O h r q n) (u : Up O h O' h') : IsRing O' h' r q n := let ⟨a, b, e⟩ := x; ⟨a, b, e.up u⟩
theorem Ints.up {O h l n c O' h'} (x : Ints O h l n c) (u : Up O h O' h') : Ints O' h' l n c := Ls.up x (fun _ _ _ _ _ _ e _ => e) u
theorem IsPoly.up {O h p r n c O' h'} (x : IsPoly O h p r n c) (u : Up O h O' h') : IsPoly O' h' p r n c := let ⟨l, a, b⟩ := x; ⟨l, a.up u, b.up u⟩
theorem Ints.get {O h l n c} (x : Ints O h l n c) : ∃ vs, Lst O h l vs ∧ vs.length = n ∧ ∀ k, k < n → ∃ u, vs[k]? = some (.int (c k) u) := by
  obtain ⟨vs, a, b, e⟩ := x
  refine ⟨vs, a, b, fun k hk => ?_⟩
  obtain ⟨u, z⟩ := e k _ (List.getElem?_eq_getElem (by omega))
  exact ⟨u, by rw [List.getElem?_eq_getElem (by omega), z]⟩
theorem Ints.of {O h l n c vs} (a : Lst O h l vs) (b : vs.length = n) (e : ∀ k, k < n → ∃ u, vs[k]? = some (.int (c k) u)) : Ints O h l n c :=
  ⟨vs, a, b, fun k v q => by
    have hk : k < n := by have := (List.getElem?_eq_some_iff.mp q).1; omega
    obtain ⟨u, z⟩ := e k hk
    exact ⟨u, by rw [z] at q; cases q; rfl⟩⟩

section
variable {prog : Program} {w : World} {A : Around} {E : Value → Shared → Prop} {c : Cr} {d : Drawn} {t : Nat} {os : OsState} {O O₂ : List Addr} {R : Result → Shared → Prop}
noncomputable def padTo (k : Nat) (c : Nat → Int) (i : Nat) : Int := if i < k then c i else 0
set_option maxHeartbeats 2000000 in
theorem parse_spec {r p l : Addr} {q : Int} {n k : Nat} {cs : Nat → Int} (hR : Rm 3 A) (G : Gd T0 [] O c.h) (B : Bg O O₂ c.h) (X : Wd w.params O c.h) (hr : IsRing O c.h r q n) (hp : Ins O c.h p 220 [("parent", .ref r)]) (hl : Ints O₂ c.h l k cs) (hk : k ≤ n) (hn : n ≤ 1000)
    (hQ : ∀ c' t' l', Ext T0 [] c c' → Ints O₂ c'.h l' n (padTo k cs) → R (.ok (.ret (.ref l'))) ⟨c'.h, c'.g, d, t', os⟩) :
    codeAny (model prog w) A (.call (.ref 96) ⟨[.ref p, .ref l], []⟩) R ⟨c.h, c.g, d, t, os⟩ := by
  refine fn_in (f := 96) [("self", .ref p), ("coefficients", .ref l)] hR.room G X B (kk_lookup (by k_is) rfl) (by kernel_rfl) (BindsTo.of_eq rfl) (by kernel_rfl) (by decide +kernel) rfl rfl rfl ?_
  intro env c₁ t₁ O' O₂' he S u u2 sub subO e
  subst he
  have hp := hp.up u
  obtain ⟨tq, tn, hr⟩ := hr.up u
  have hl := hl.up u2
  obtain ⟨vs, l1, l2, l3⟩ := hl.get
  refine wpAny_execs_cons (wpAny_Assign_Name (Call_ (bi_name S.X (nb_len _) (bb_len _) (cwB1 (x_name S.F.vars rfl (x_len l1.2 (by omega) ?_))))))
  refine sx_store S fun c₂ t₂ a hloc S₂ u u2 e₂ => ?_
  have hp := hp.up u
  have hr := hr.up u
  have l1 := l1.up u2
  refine wpAny_execs_cons (wpAny_If (wpAny_isTrue_Compare1 (x_name S₂.F.vars rfl (Attribute_any_ (Attribute_any_ (x_name S₂.F.vars rfl (x_get S₂.X hp (x_get S₂.X hr (x_gt (x_truth ?_)) rfl (ok_own59n _)) rfl (ok_own220p _))))))))
  refine ifFalse (by simp; omega) ?_
  refine wpAny_execs_cons (wpAny_If (wpAny_isTrue_Compare1 (x_name S₂.F.vars rfl (Attribute_any_ (Attribute_any_ (x_name S₂.F.vars rfl (x_get S₂.X hp (x_get S₂.X hr (x_lt (x_truth ?_)) rfl (ok_own59n _)) rfl (ok_own220p _))))))))
  by_cases hlt : k < n
  · refine ifTrue (by simp; omega) ?_
    refine wpAny_execs_cons (wpAny_Assign_Name (wpAny_BinOp (x_name S₂.F.vars rfl ?_)))
    refine sx_comp0 S₂ (fun _ v _ _ => ∃ u, v = .int 0 u) ?_
    refine Call_ (bi_name S₂.X (nb_range _) (bb_range _) (cwT1 (wpAny_BinOp (Attribute_any_ (Attribute_any_ (x_name S₂.F.vars rfl (x_get S₂.X hp (x_get S₂.X hr (x_name S₂.F.vars rfl (x_sub ?_)) rfl (ok_own59n _)) rfl (ok_own220p _))))))))
    have hsub : ((n : Int) - vs.length) = ((n - k : Nat) : Int) := by omega
    rw [hsub]
    refine x_range1 (by omega) fun c₃ rg t₃ e₃ it => ?_
    have S₃ := S₂.go (e₃ _ _)
    refine ⟨c₃, t₃, n - k, _, rfl, S₃, it T0 [] _ hR.1 (fun b hb => S₃.F.low b (S₃.F.tin b hb)), by rw [sizeLine_eq]; omega, fun _ _ _ _ _ _ e _ => e, ?_, ?_⟩
    · intro M i v nn L c t Q' E' hi hP S e u u2 q
      exact x_int (q c _ _ (Ext.refl ..) ⟨_, rfl⟩)
    · intro D c₄ t₄ _ S₄ e₄ u₄ u₄2 hD
      obtain ⟨ws, d1, d2, d3⟩ := hD
      have l1 := (l1.up (S₂.up2 (e₃ _ _))).up u₄2
      refine x_addL l1.2 d1.2 (by rw [sizeLine_eq]; omega) fun c₅ l' e₅ hl' hn' _ => ?_
      have S₅ := S₄.go (e₅ _ _)
      have hl5 : Ints O₂' c₅.h l' n (padTo k cs) := Ints.of ⟨S₄.B.off hn', hl'⟩ (by simp; omega) fun j hj => by
        unfold padTo
        by_cases q : j < k
        · obtain ⟨u, z⟩ := l3 j q
          exact ⟨u, by rw [List.getElem?_append_left (by omega), if_pos q, z]⟩
        · rw [if_neg q, List.getElem?_append_right (by omega)]
          obtain ⟨u, z⟩ := d3 (j - vs.length) _ (List.getElem?_eq_getElem (by omega))
          exact ⟨u, by rw [List.getElem?_eq_getElem (by omega), z]⟩
      refine sx_store S₅ fun c₆ t₆ a hloc S₆ u₆ u₆2 e₆ => ?_
      refine wpAny_execs_nil (wpAny_execs_nil (wpAny_execs_cons (wpAny_Return_some (x_name S₆.F.vars rfl ?_))))
      exact hQ c₆ t₆ l' S₆.F.ext ((hl5.up u₆2).up (Up.less sub))
  · refine ifFalse (by simp; omega) ?_
    refine wpAny_execs_nil (wpAny_execs_nil (wpAny_execs_cons (wpAny_Return_some (x_name S₂.F.vars rfl ?_))))
    refine hQ c₂ _ l S₂.F.ext (Ints.up (O := O₂') (Ints.of l1 (by omega) fun j hj => ?_) (Up.less sub))
    obtain ⟨u, z⟩ := l3 j (by omega)
    exact ⟨u, by unfold padTo; rw [if_pos (by omega), z]⟩
end
end Mine
end

section
open PySem PySem.W PySem.Calls PyProof.Rows
set_option Elab.async false
set_option maxRecDepth 100000
set_option linter.unusedSimpArgs false
set_option linter.unusedVariables false
namespace Mine
theorem regD2 : PySem.Challenge.rw_yd0003_04 = PySem.Challenge.rw_yd0003_04 ∧ hd.heap_1 = hd.heap_1 := by k_fill; exact ⟨rfl, rfl⟩
theorem InD.go {O O' : List Addr} {T V : List Addr} {c c' : Cr} {x C dx : Addr} {fs : List (Str × Value)} (I : InD O c.h x C dx fs) (u : Up O c.h O' c'.h) (e : Ext T V c c') (h1 : dx ∉ T) (h2 : dx ∉ V) : InD O' c'.h x C dx fs := by
  obtain ⟨a, es, n, b, r⟩ := I
  exact ⟨a.up u, es, n, e.heap dx _ h1 h2 b, r⟩
theorem InD.ins {O O' : List Addr} {h : Heap} {x C dx : Addr} {fs : List (Str × Value)} (I : InD O h x C dx fs) (s : ∀ b ∈ O', b ∈ O) (n : dx ∉ O') : Ins O' h x C fs :=
  ⟨dx, n, ⟨fun q => I.ob.1 (s x q), I.ob.2⟩, I.dc⟩
theorem keep_96 (P : Params) : keepIn (KK P) (.ref 96) = true := by kernel_rfl
theorem meth_96 (P : Params) : methOk (KK P) 220 "_parse_coefficients" 96 = true := by kernel_rfl
theorem keep_220 (P : Params) : keepIn (KK P) (.ref 220) = true := by kernel_rfl
section
variable {prog : Program} {w : World} {A : Around} {E : Value → Shared → Prop} {c : Cr} {d : Drawn} {t : Nat} {os : OsState} {O O₂ : List Addr} {R : Result → Shared → Prop}
set_option maxHeartbeats 2000000 in
theorem polyinit_spec {r p l dx : Addr} {q : Int} {n k : Nat} {cs : Nat → Int} (hR : Rm 4 A) (G : Gd T0 [dx] O c.h) (B : Bg O O₂ c.h) (X : Wd w.params O c.h) (hr : IsRing O c.h r q n) (hp : InD O c.h p 220 dx []) (hl : Ints O₂ c.h l k cs) (hk : k ≤ n) (hn : n ≤ 1000)
    (hQ : ∀ c' t' l', Ext T0 [dx] c c' → InD O c'.h p 220 dx [("parent", .ref r), ("coeffs", .ref l')] → Ints O₂ c'.h l' n (padTo k cs) → R (.ok (.ret .none)) ⟨c'.h, c'.g, d, t', os⟩) :
    codeAny (model prog w) A (.call (.ref 77) ⟨[.ref p, .ref r, .ref l], []⟩) R ⟨c.h, c.g, d, t, os⟩ := by
  have hdT := (G.win dx (by simp)).2
  have hdO := (G.win dx (by simp)).1
  obtain ⟨odx, edx⟩ := G.low dx hdO
  have hpx : p ≠ dx := fun z => hp.ob.1 (z ▸ hdO)
  refine fn_in (f := 77) [("self", .ref p), ("parent", .ref r), ("coefficients", .ref l)] hR.room G X B (kk_lookup (by k_is) rfl) (by kernel_rfl) (BindsTo.of_eq rfl) (by kernel_rfl) (by decide +kernel) rfl rfl rfl ?_
  intro env c₁ t₁ O' O₂' he S u u2 sub subO e
  subst he
  have hdown := S.F.notOwn edx
  have hp := hp.go u e hdT (by simp)
  have hr := hr.up u
  have hl := hl.up u2
  refine wpAny_execs_cons (plainObj_wpAny_Assign_Attribute (x_name S.F.vars rfl (x_name S.F.vars rfl (x_set (W := [dx]) S.X.k hp hdT (by simp) (by decide) hpx (fun c₂ t₂ hp sb e₂ _ => ?_) (ok_set220p _)))))
  have S₂ := S.go e₂
  have hr := hr.up (S.up e₂)
  have hl := hl.up (S.up2 e₂)
  have hpT := hp.ins (O' := T0) S.F.tin hdT
  refine wpAny_execs_cons (plainObj_wpAny_Assign_Attribute (MethodCall_ (x_name S₂.F.vars rfl (x_getM S₂.xT hpT (cwK1 (keep_96 _) (x_name S₂.F.vars rfl ⟨S₂.X.k, wpAny_call (parse_spec (hR.deeper.mono (by decide)) S₂.gdT S₂.bT S₂.xT (hr.up S₂.uT) hpT hl hk hn fun c₃ t₃ l' e₃ hl' => ?_)⟩) S₂.X.k) rfl (meth_96 _)))))
  have S₃ := S₂.go (e₃.wide (by simp))
  have hp := hp.go (S₂.up (e₃.wide (by simp))) e₃ hdT (by simp)
  refine x_name S₃.F.vars rfl (x_set (W := [dx]) S₃.X.k hp hdT (by simp) (Nat.le_of_ble_eq_true rfl) hpx (fun c₄ t₄ hp sb e₄ _ => ?_) (ok_set220c _))
  have S₄ := S₃.go e₄
  have hl' := hl'.up (S₃.up2 e₄)
  refine wpAny_execs_nil ?_
  exact hQ c₄ _ l' S₄.F.ext ⟨⟨fun z => hp.ob.1 (subO _ z), hp.ob.2⟩, hp.dc⟩ (hl'.up (Up.less sub))
end
end Mine
end

section
open PySem PySem.W PySem.Calls PyProof.Rows
set_option Elab.async false
set_option maxRecDepth 100000
set_option linter.unusedSimpArgs false
set_option linter.unusedVariables false
namespace Mine
theorem regD3 : PySem.Challenge.rw_yd0003_04 = PySem.Challenge.rw_yd0003_04 ∧ hd.heap_1 = hd.heap_1 := by k_fill; exact ⟨rfl, rfl⟩
theorem padTo_self {n : Nat} {c : Nat → Int} {O h l} (x : Ints O h l n (padTo n c)) : Ints O h l n c :=
  Ls.mono x fun k v hk ⟨u, e⟩ => ⟨u, by rw [e]; unfold padTo; rw [if_pos hk]⟩
theorem Ints.congr {n : Nat} {c c' : Nat → Int} {O h l} (x : Ints O h l n c) (e : ∀ k, k < n → c k = c' k) : Ints O h l n c' :=
  Ls.mono x fun k v hk ⟨u, z⟩ => ⟨u, by rw [z, e k hk]⟩
theorem IsPoly.congr {n : Nat} {c c' : Nat → Int} {O h p r} (x : IsPoly O h p r n c) (e : ∀ k, k < n → c k = c' k) : IsPoly O h p r n c' :=
  let ⟨l, a, b⟩ := x; ⟨l, a, b.congr e⟩
section
variable {prog : Program} {w : World} {A : Around} {E : Value → Shared → Prop} {c : Cr} {d : Drawn} {t : Nat} {os : OsState} {O O₂ : List Addr} {R : Result → Shared → Prop}
/-- a polynomial is made -/
theorem mkpoly_spec {r l : Addr} {q : Int} {n k : Nat} {cs : Nat → Int} (hR : Rm 5 A) (G : Gd T0 [] O c.h) (B : Bg O O₂ c.h) (X : Wd w.params O c.h) (hr : IsRing O c.h r q n) (hl : Ints O₂ c.h l k cs) (hk : k ≤ n) (hn : n ≤ 1000)
    (hQ : ∀ c' t' p, Ext T0 [] c c' → IsPoly O₂ c'.h p r n (padTo k cs) → R (.ok (.ret (.ref p))) ⟨c'.h, c'.g, d, t', os⟩) :
    codeAny (model prog w) A (.call (.ref 220) ⟨[.ref r, .ref l], []⟩) R ⟨c.h, c.g, d, t, os⟩ := by
  refine x_make X.k (ok_mk220 _) fun c₁ p dx e₁ hpn hdn hpd hI _ => ?_
  have tO : ∀ b ∈ T0, b ∈ O := G.tin
  have hpT : p ∉ T0 := fun z => G.fresh hpn (tO p z)
  have hdT : dx ∉ T0 := fun z => G.fresh hdn (tO dx z)
  have u : Up O c.h (dx :: O) c₁.h := fun b o z => ⟨fun y => (by
    rcases List.mem_cons.mp y with rfl | y
    · have := z.2; rw [hdn] at this; cases this
    · exact z.1 y), (e₁ T0 []).heap b o (fun y => z.1 (tO b y)) (by simp) z.2⟩
  have u2 : Up O₂ c.h (dx :: O₂) c₁.h := fun b o z => ⟨fun y => (by
    rcases List.mem_cons.mp y with rfl | y
    · have := z.2; rw [hdn] at this; cases this
    · exact z.1 y), (e₁ T0 []).heap b o (fun y => z.1 (B.sub b (tO b y))) (by simp) z.2⟩
  have hI' := hI (dx :: O) (fun z => (by
    rcases List.mem_cons.mp z with z | z
    · exact hpd z
    · exact G.fresh hpn z))
  obtain ⟨es, nn, hdc, _⟩ := hI'.dc
  have low : Low [dx] c₁.h := fun b hb => by rw [List.mem_singleton.mp hb]; exact ⟨_, hdc⟩
  have G₁ : Gd T0 [dx] (dx :: O) c₁.h := ⟨fun b hb => .tail _ (tO b hb), fun b hb => by rw [List.mem_singleton.mp hb]; exact ⟨List.mem_cons_self .., hdT⟩, fun b hb => by
    rcases List.mem_cons.mp hb with rfl | hb
    · exact ⟨_, hdc⟩
    · obtain ⟨o, z⟩ := G.low b hb; exact (e₁ T0 []).there b o z, (e₁ T0 []).tab G.tab⟩
  refine polyinit_spec hR.make G₁ ((B.go (e₁ T0 [])).more low) (X.up u) (hr.up u) hI' (hl.up u2) hk hn fun c₂ t₂ l' e₂ hp hl' => ?_
  refine ⟨rfl, hQ c₂ t₂ p ((e₁ T0 []).absorb e₂ fun b hb => .inl (by rw [List.mem_singleton.mp hb]; exact hdn)) ⟨l', ⟨dx, B.off hdn, ⟨B.off hpn, hp.ob.2⟩, hp.dc⟩, hl'.up (Up.less fun b hb => .tail _ hb)⟩⟩
/-- ring(list) -/
theorem ringcall_spec {r l : Addr} {q : Int} {n k : Nat} {cs : Nat → Int} (hR : Rm 6 A) (G : Gd T0 [] O c.h) (B : Bg O O₂ c.h) (X : Wd w.params O c.h) (hr : IsRing O c.h r q n) (hl : Ints O₂ c.h l k cs) (hk : k ≤ n) (hn : n ≤ 1000)
    (hQ : ∀ c' t' p, Ext T0 [] c c' → IsPoly O₂ c'.h p r n (padTo k cs) → R (.ok (.ret (.ref p))) ⟨c'.h, c'.g, d, t', os⟩) :
    codeAny (model prog w) A (.call (.ref 56) ⟨[.ref r, .ref l], []⟩) R ⟨c.h, c.g, d, t, os⟩ := by
  refine fn_in (f := 56) [("self", .ref r), ("coefficients", .ref l)] hR.room G X B (kk_lookup (by k_is) rfl) (by kernel_rfl) (BindsTo.of_eq rfl) (by kernel_rfl) (by decide +kernel) rfl rfl rfl ?_
  intro env c₁ t₁ O' O₂' he S u u2 sub subO e
  subst he
  have hr := hr.up u
  have hl := hl.up u2
  obtain ⟨vs, l1, l2, l3⟩ := hl.get
  refine wpAny_execs_cons (wpAny_If (isTrue_plain (Call_ (bi_name S.X (nb_isinstance _) (bb_isinstance _) (cwB2 (x_name S.F.vars rfl (bi_name S.X (nb_int _) (bb_int _) (x_isList S.X l1.2 (is_listint _) fun t' => x_truth ?_))))))))
  refine ifFalse rfl (wpAny_execs_nil ?_)
  refine wpAny_execs_cons (wpAny_If (isTrue_not (isTrue_plain (Call_ (bi_name S.X (nb_isinstance _) (bb_isinstance _) (cwB2 (x_name S.F.vars rfl (bi_name S.X (nb_list _) (bb_list _) (x_isList S.X l1.2 (is_listlist _) fun t' => x_truth ?_)))))))))
  refine ifFalse rfl (wpAny_execs_nil ?_)
  refine wpAny_execs_cons (wpAny_Return_some (Call_ (gl_name S.X (g_poly _) (cwK2 (keep_220 _) (x_name S.F.vars rfl (x_name S.F.vars rfl ⟨S.X.k, wpAny_call ?_⟩)) S.X.k))))
  refine mkpoly_spec hR.deeper S.gdT S.bT S.xT (hr.up S.uT) hl hk hn fun c₂ t₂ p e₂ hp => ?_
  exact hQ c₂ t₂ p (S.go e₂).F.ext (hp.up (Up.less sub))
/-- ring(int) -/
theorem ringint_spec {r : Addr} {q x : Int} {tx : Tok} {n : Nat} (hR : Rm 6 A) (G : Gd T0 [] O c.h) (B : Bg O O₂ c.h) (X : Wd w.params O c.h) (hr : IsRing O c.h r q n) (hk : 1 ≤ n) (hn : n ≤ 1000)
    (hQ : ∀ c' t' p, Ext T0 [] c c' → IsPoly O₂ c'.h p r n (fun i => if i = 0 then x else 0) → R (.ok (.ret (.ref p))) ⟨c'.h, c'.g, d, t', os⟩) :
    codeAny (model prog w) A (.call (.ref 56) ⟨[.ref r, .int x tx], []⟩) R ⟨c.h, c.g, d, t, os⟩ := by
  refine fn_in (f := 56) [("self", .ref r), ("coefficients", .int x tx)] hR.room G X B (kk_lookup (by k_is) rfl) (by kernel_rfl) (BindsTo.of_eq rfl) (by kernel_rfl) (by decide +kernel) rfl rfl rfl ?_
  intro env c₁ t₁ O' O₂' he S u u2 sub subO e
  subst he
  have hr := hr.up u
  refine wpAny_execs_cons (wpAny_If (isTrue_plain (Call_ (bi_name S.X (nb_isinstance _) (bb_isinstance _) (cwB2 (x_name S.F.vars rfl (bi_name S.X (nb_int _) (bb_int _) (x_isInt S.X (is_intint _) fun t' => x_truth ?_))))))))
  refine ifTrue rfl ?_
  refine wpAny_execs_cons (wpAny_Return_some (Call_ (gl_name S.X (g_poly _) (cwK2 (keep_220 _) (x_name S.F.vars rfl (x_list (args_cons (x_name S.F.vars rfl (args_nil ⟨_, _, rfl, Nat.le_of_ble_eq_true rfl, fun c₂ l e₂ hl hn' => ?_⟩))))) S.X.k))))
  have S₂ := S.go (e₂ T0 [])
  refine ⟨S₂.X.k, wpAny_call (mkpoly_spec hR.deeper S₂.gdT S₂.bT S₂.xT ((hr.up (S.up (e₂ T0 []))).up S₂.uT) (k := 1) (cs := fun _ => x) (Ints.of ⟨S.B.off hn', hl⟩ rfl fun k hk => ⟨tx, by rw [show k = 0 by omega]; rfl⟩) hk hn fun c₃ t₃ p e₃ hp => ?_)⟩
  refine hQ c₃ t₃ p (S₂.go e₃).F.ext ((hp.up (Up.less sub)).congr fun k hk => ?_)
  unfold padTo
  by_cases q : k = 0
  · simp [q]
  · rw [if_neg (by omega), if_neg q]
end
end Mine
end

section
open PySem PySem.W PySem.Calls PyProof.Rows
set_option Elab.async false
set_option maxRecDepth 100000
set_option linter.unusedSimpArgs false
set_option linter.unusedVariables false
namespace Mine
theorem regD4 : PySem.Challenge.rw_yd0003_04 = PySem.Challenge.rw_yd0003_04 ∧ hd.heap_1 = hd.heap_1 := by k_fill; exact ⟨rfl, rfl⟩
theorem keep_108 (P : Params) : keepIn (KK P) (.ref 108) = true := by kernel_rfl
theorem meth_108 (P : Params) : methOk (KK P) 220 "_add_mod_q" 108 = true := by kernel_rfl
theorem keep_115 (P : Params) : keepIn (KK P) (.ref 115) = true := by kernel_rfl
theorem meth_115 (P : Params) : methOk (KK P) 220 "_sub_mod_q" 115 = true := by kernel_rfl
theorem keep_130 (P : Params) : keepIn (KK P) (.ref 130) = true := by kernel_rfl
theorem meth_130 (P : Params) : methOk (KK P) 220 "_add_" 130 = true := by kernel_rfl
theorem keep_156 (P : Params) : keepIn (KK P) (.ref 156) = true := by kernel_rfl
theorem meth_156 (P : Params) : methOk (KK P) 220 "_sub_" 156 = true := by kernel_rfl
theorem keep_120 (P : Params) : keepIn (KK P) (.ref 120) = true := by kernel_rfl
theorem meth_120 (P : Params) : methOk (KK P) 220 "_schoolbook_multiplication" 120 = true := by kernel_rfl
theorem keep_137 (P : Params) : keepIn (KK P) (.ref 137) = true := by kernel_rfl
theorem meth_137 (P : Params) : methOk (KK P) 220 "__add__" 137 = true := by kernel_rfl
section
variable {prog : Program} {w : World} {A : Around} {E : Value → Shared → Prop} {c : Cr} {d : Drawn} {t : Nat} {os : OsState} {O O₂ : List Addr} {R : Result → Shared → Prop}
noncomputable abbrev pf (r l : Addr) : List (Str × Value) := [("parent", .ref r), ("coeffs", .ref l)]
theorem addmod_spec {r p l : Addr} {q x y n : Int} {tx ty : Tok} (hR : Rm 2 A) (G : Gd T0 [] O c.h) (X : Wd w.params O c.h) (hr : IsRing O c.h r q n) (hp : Ins O c.h p 220 (pf r l)) (hq : q ≠ 0)
    (hQ : ∀ c' t' u, Ext T0 [] c c' → R (.ok (.ret (.int ((x + y).fmod q) u))) ⟨c'.h, c'.g, d, t', os⟩) :
    codeAny (model prog w) A (.call (.ref 108) ⟨[.ref p, .int x tx, .int y ty], []⟩) R ⟨c.h, c.g, d, t, os⟩ := by
  refine fn_in (f := 108) [("self", .ref p), ("x", .int x tx), ("y", .int y ty)] hR.room G X (O₂ := O) ⟨fun _ h => h, G.low⟩ (kk_lookup (by k_is) rfl) (by kernel_rfl) (BindsTo.of_eq rfl) (by kernel_rfl) (by decide +kernel) rfl rfl rfl ?_
  intro env c₁ t₁ O' O₂' he S u u2 sub subO e
  subst he
  obtain ⟨tq, tn, hr⟩ := hr.up u
  refine wpAny_execs_cons (wpAny_Return_some (wpAny_BinOp (wpAny_BinOp (x_name S.F.vars rfl (x_name S.F.vars rfl (x_add (Attribute_any_ (Attribute_any_ (x_name S.F.vars rfl (x_get S.X (hp.up u) (x_get S.X hr (x_mod hq ?_) rfl (ok_own59q _)) rfl (ok_own220p _)))))))))))
  exact hQ c₁ _ _ e
theorem submod_spec {r p l : Addr} {q x y n : Int} {tx ty : Tok} (hR : Rm 2 A) (G : Gd T0 [] O c.h) (X : Wd w.params O c.h) (hr : IsRing O c.h r q n) (hp : Ins O c.h p 220 (pf r l)) (hq : q ≠ 0)
    (hQ : ∀ c' t' u, Ext T0 [] c c' → R (.ok (.ret (.int ((x - y).fmod q) u))) ⟨c'.h, c'.g, d, t', os⟩) :
    codeAny (model prog w) A (.call (.ref 115) ⟨[.ref p, .int x tx, .int y ty], []⟩) R ⟨c.h, c.g, d, t, os⟩ := by
  refine fn_in (f := 115) [("self", .ref p), ("x", .int x tx), ("y", .int y ty)] hR.room G X (O₂ := O) ⟨fun _ h => h, G.low⟩ (kk_lookup (by k_is) rfl) (by kernel_rfl) (BindsTo.of_eq rfl) (by kernel_rfl) (by decide +kernel) rfl rfl rfl ?_
  intro env c₁ t₁ O' O₂' he S u u2 sub subO e
  subst he
  obtain ⟨tq, tn, hr⟩ := hr.up u
  refine wpAny_execs_cons (wpAny_Return_some (wpAny_BinOp (wpAny_BinOp (x_name S.F.vars rfl (x_name S.F.vars rfl (x_sub (Attribute_any_ (Attribute_any_ (x_name S.F.vars rfl (x_get S.X (hp.up u) (x_get S.X hr (x_mod hq ?_) rfl (ok_own59q _)) rfl (ok_own220p _)))))))))))
  exact hQ c₁ _ _ e

/-- `_add_` of two polynomials -/
theorem add__spec {r p1 p2 : Addr} {q : Int} {n : Nat} {a b : Nat → Int} (hR : Rm 4 A) (G : Gd T0 [] O c.h) (B : Bg O O₂ c.h) (X : Wd w.params O c.h) (hr : IsRing O c.h r q n) (h1 : IsPoly O c.h p1 r n a) (h2 : IsPoly O c.h p2 r n b) (hq : q ≠ 0) (hn : n ≤ 1000)
    (hQ : ∀ c' t' l', Ext T0 [] c c' → Ints O₂ c'.h l' n (fun k => (a k + b k).fmod q) → R (.ok (.ret (.ref l'))) ⟨c'.h, c'.g, d, t', os⟩) :
    codeAny (model prog w) A (.call (.ref 130) ⟨[.ref p1, .ref p2], []⟩) R ⟨c.h, c.g, d, t, os⟩ := by
  refine fn_in (f := 130) [("self", .ref p1), ("other", .ref p2)] hR.room G X B (kk_lookup (by k_is) rfl) (by kernel_rfl) (BindsTo.of_eq rfl) (by kernel_rfl) (by decide +kernel) rfl rfl rfl ?_
  intro env c₁ t₁ O' O₂' he S u u2 sub subO e
  subst he
  have hr := hr.up u
  obtain ⟨l1, i1, v1⟩ := h1.up u
  obtain ⟨l2, i2, v2⟩ := h2.up u
  obtain ⟨vs1, a1, b1, g1⟩ := v1.get
  obtain ⟨vs2, a2, b2, g2⟩ := v2.get
  refine wpAny_execs_cons (wpAny_If (isTrue_plain (Call_ (bi_name S.X (nb_isinstance _) (bb_isinstance _) (cwB2 (x_name S.F.vars rfl (Call_ (bi_name S.X (nb_type _) (bb_type _) (cwT1 (x_name S.F.vars rfl (x_type i1 (x_isI S.X i2 (ok_cls220 _) (is_220 _) fun t' => x_truth ?_))))))))))))
  refine ifTrue rfl ?_
  refine wpAny_execs_cons (sx_zipA S (fun k v _ _ => ∃ u, v = .int ((a k + b k).fmod q) u) hR.deeper.1 ?_)
  refine Call_ (bi_name S.X (nb_zip _) (bb_zip _) (cwT2 (Attribute_any_ (x_name S.F.vars rfl (x_get S.X i1 (Attribute_any_ (x_name S.F.vars rfl (x_get S.X i2 (x_zip a1.2 a2.2 (fun z => a1.1 (S.F.tin _ z)) (fun z => a2.1 (S.F.tin _ z)) (fun b hb => S.F.low b (S.F.tin b hb)) fun c₂ z e₂ Z => ?_) rfl (ok_own220c _)))) rfl (ok_own220c _))))))
  refine ⟨c₁, c₂, _, _, _, z, rfl, rfl, S, e₂, Z, by rw [b1, b2, sizeLine_eq]; omega, fun _ _ _ _ _ _ e _ => e, fun i vs ⟨x, y, _, _, e⟩ => ⟨x, y, e⟩, ?_, ?_⟩
  · rintro M i x y nn L c₃ t₃ Q' E' hi ⟨x', y', hx, hy, hxy⟩ S₃ e₃ u₃ u₃2 k
    have hi : i < n := by rw [b1, b2] at hi; omega
    obtain ⟨ux, zx⟩ := g1 i hi
    obtain ⟨uy, zy⟩ := g2 i hi
    have ex : x' = .int (a i) ux := by simpa [zx] using hx.symm
    have ey : y' = .int (b i) uy := by simpa [zy] using hy.symm
    have hxy : x = x' ∧ y = y' := by simpa using hxy
    rw [hxy.1, hxy.2, ex, ey] at S₃
    have i1 := i1.up u₃
    refine MethodCall_ (x_name S₃.F.vars rfl (x_getM S₃.X i1 (cwK2 (keep_108 _) (x_name S₃.F.vars rfl (x_name S₃.F.vars rfl ⟨S₃.X.k, wpAny_call ?_⟩)) S₃.X.k) rfl (meth_108 _)))
    refine addmod_spec (hR.deeper.mono (by decide)) S₃.gdT S₃.xT ((hr.up u₃).up S₃.uT) (i1.up S₃.uT) hq fun c₄ t₄ uu e₄ => ?_
    exact k c₄ t₄ _ e₄ ⟨_, rfl⟩
  · intro D c₃ t₃ _ S₃ u₃ u₃2 hD
    rw [b1, b2, Nat.min_self] at hD
    refine wpAny_execs_nil (wpAny_execs_cons (wpAny_Return_some (x_name S₃.F.vars rfl ?_)))
    exact hQ c₃ _ D S₃.F.ext (Ints.up (O := O₂') hD (Up.less sub))
theorem sub__spec {r p1 p2 : Addr} {q : Int} {n : Nat} {a b : Nat → Int} (hR : Rm 4 A) (G : Gd T0 [] O c.h) (B : Bg O O₂ c.h) (X : Wd w.params O c.h) (hr : IsRing O c.h r q n) (h1 : IsPoly O c.h p1 r n a) (h2 : IsPoly O c.h p2 r n b) (hq : q ≠ 0) (hn : n ≤ 1000)
    (hQ : ∀ c' t' l', Ext T0 [] c c' → Ints O₂ c'.h l' n (fun k => (a k - b k).fmod q) → R (.ok (.ret (.ref l'))) ⟨c'.h, c'.g, d, t', os⟩) :
    codeAny (model prog w) A (.call (.ref 156) ⟨[.ref p1, .ref p2], []⟩) R ⟨c.h, c.g, d, t, os⟩ := by
  refine fn_in (f := 156) [("self", .ref p1), ("other", .ref p2)] hR.room G X B (kk_lookup (by k_is) rfl) (by kernel_rfl) (BindsTo.of_eq rfl) (by kernel_rfl) (by decide +kernel) rfl rfl rfl ?_
  intro env c₁ t₁ O' O₂' he S u u2 sub subO e
  subst he
  have hr := hr.up u
  obtain ⟨l1, i1, v1⟩ := h1.up u
  obtain ⟨l2, i2, v2⟩ := h2.up u
  obtain ⟨vs1, a1, b1, g1⟩ := v1.get
  obtain ⟨vs2, a2, b2, g2⟩ := v2.get
  refine wpAny_execs_cons (wpAny_If (isTrue_plain (Call_ (bi_name S.X (nb_isinstance _) (bb_isinstance _) (cwB2 (x_name S.F.vars rfl (Call_ (bi_name S.X (nb_type _) (bb_type _) (cwT1 (x_name S.F.vars rfl (x_type i1 (x_isI S.X i2 (ok_cls220 _) (is_220 _) fun t' => x_truth ?_))))))))))))
  refine ifTrue rfl ?_
  refine wpAny_execs_cons (sx_zipA S (fun k v _ _ => ∃ u, v = .int ((a k - b k).fmod q) u) hR.deeper.1 ?_)
  refine Call_ (bi_name S.X (nb_zip _) (bb_zip _) (cwT2 (Attribute_any_ (x_name S.F.vars rfl (x_get S.X i1 (Attribute_any_ (x_name S.F.vars rfl (x_get S.X i2 (x_zip a1.2 a2.2 (fun z => a1.1 (S.F.tin _ z)) (fun z => a2.1 (S.F.tin _ z)) (fun b hb => S.F.low b (S.F.tin b hb)) fun c₂ z e₂ Z => ?_) rfl (ok_own220c _)))) rfl (ok_own220c _))))))
  refine ⟨c₁, c₂, _, _, _, z, rfl, rfl, S, e₂, Z, by rw [b1, b2, sizeLine_eq]; omega, fun _ _ _ _ _ _ e _ => e, fun i vs ⟨x, y, _, _, e⟩ => ⟨x, y, e⟩, ?_, ?_⟩
  · rintro M i x y nn L c₃ t₃ Q' E' hi ⟨x', y', hx, hy, hxy⟩ S₃ e₃ u₃ u₃2 k
    have hi : i < n := by rw [b1, b2] at hi; omega
    obtain ⟨ux, zx⟩ := g1 i hi
    obtain ⟨uy, zy⟩ := g2 i hi
    have ex : x' = .int (a i) ux := by simpa [zx] using hx.symm
    have ey : y' = .int (b i) uy := by simpa [zy] using hy.symm
    have hxy : x = x' ∧ y = y' := by simpa using hxy
    rw [hxy.1, hxy.2, ex, ey] at S₃
    have i1 := i1.up u₃
    refine MethodCall_ (x_name S₃.F.vars rfl (x_getM S₃.X i1 (cwK2 (keep_115 _) (x_name S₃.F.vars rfl (x_name S₃.F.vars rfl ⟨S₃.X.k, wpAny_call ?_⟩)) S₃.X.k) rfl (meth_115 _)))
    refine submod_spec (hR.deeper.mono (by decide)) S₃.gdT S₃.xT ((hr.up u₃).up S₃.uT) (i1.up S₃.uT) hq fun c₄ t₄ uu e₄ => ?_
    exact k c₄ t₄ _ e₄ ⟨_, rfl⟩
  · intro D c₃ t₃ _ S₃ u₃ u₃2 hD
    rw [b1, b2, Nat.min_self] at hD
    refine wpAny_execs_nil (wpAny_execs_cons (wpAny_Return_some (x_name S₃.F.vars rfl ?_)))
    exact hQ c₃ _ D S₃.F.ext (Ints.up (O := O₂') hD (Up.less sub))
end
end Mine
end

section
open PySem PySem.W PySem.Calls PyProof.Rows
set_option Elab.async false
set_option maxRecDepth 100000
set_option linter.unusedSimpArgs false
set_option linter.unusedVariables false
namespace Mine
theorem regD5 : PySem.Challenge.rw_yd0003_04 = PySem.Challenge.rw_yd0003_04 ∧ hd.heap_1 = hd.heap_1 := by k_fill; exact ⟨rfl, rfl⟩
theorem Ints.mono {O h l n c O'} (x : Ints O h l n c) (s : ∀ b ∈ O', b ∈ O) : Ints O' h l n c := x.up (Up.less s)
section
variable {prog : Program} {w : World} {A : Around} {E : Value → Shared → Prop} {c : Cr} {d : Drawn} {t : Nat} {os : OsState} {O O₂ : List Addr} {R : Result → Shared → Prop}
/-- `self.parent(list)` -/
theorem x_parent {W : List Addr} {c₀ : Cr} {env : Env} {m : Str → Option Value} {pos p1 p3 : Pos} {pl : Sem Bool} {x y pa : Str} {r p l l0 : Addr} {q : Int} {n : Nat} {cs : Nat → Int} {Q : Value → Shared → Prop} (hR : Rm 6 A) (S : Sx w.params T0 W c₀ c O O₂ env m)
    (hr : IsRing O c.h r q n) (hp : Ins O c.h p 220 (pf r l0)) (hl : Ints O₂ c.h l n cs) (hn : n ≤ 1000) (hx : m x = some (.ref p)) (hy : m y = some (.ref l))
    (hQ : ∀ c' t' p, Ext T0 [] c c' → IsPoly O₂ c'.h p r n cs → Q (.ref p) ⟨c'.h, c'.g, d, t', os⟩)
    (vx : isVar env x = true := by rfl) (vy : isVar env y = true := by rfl) (dx : (x == ("__debug__" : Str)) = false := by decide) (nx : (x == ("__classdict__" : Str)) = false := by decide) (dy : (y == ("__debug__" : Str)) = false := by decide) (ny : (y == ("__classdict__" : Str)) = false := by decide)
    (hla : (pf r l0).lookup pa = some (.ref r) := by rfl) (hpa : ownM (KK w.params) 220 pa = true := by kernel_rfl) :
    wpAny (model prog w) A (eval (.Name x p1) env) (fun ov s₁ => wpAny (model prog w) A (getMethod ov pa pl) (fun fx s₂ => wpAny (model prog w) A (callWith pos fx.1 fx.2 (backTo pos (starEach [.Name y p3] env)) []) Q E s₂) E s₁) E ⟨c.h, c.g, d, t, os⟩ := by
  refine x_name S.F.vars hx (x_getMo S.X hp ?_ hla hpa) vx dx nx
  obtain ⟨tq, tn, hr'⟩ := id hr
  refine cwI1 S.X hr' (ok_call59 _) (x_name S.F.vars hy ⟨⟨O, S.X, fun _ _ x => x⟩, ?_⟩ vy dy ny)
  refine ringcall_spec hR S.gdT S.bT S.xT (hr.up S.uT) hl (Nat.le_refl _) hn fun c' t' p e h => hQ c' t' p e ?_
  exact h.congr fun k hk => by unfold padTo; rw [if_pos hk]
theorem add_spec {r p1 p2 : Addr} {q : Int} {n : Nat} {a b : Nat → Int} (hR : Rm 8 A) (G : Gd T0 [] O c.h) (B : Bg O O₂ c.h) (X : Wd w.params O c.h) (hr : IsRing O c.h r q n) (h1 : IsPoly O c.h p1 r n a) (h2 : IsPoly O c.h p2 r n b) (hq : q ≠ 0) (hn : n ≤ 1000)
    (hQ : ∀ c' t' p, Ext T0 [] c c' → IsPoly O₂ c'.h p r n (fun k => (a k + b k).fmod q) → R (.ok (.ret (.ref p))) ⟨c'.h, c'.g, d, t', os⟩) :
    codeAny (model prog w) A (.call (.ref 137) ⟨[.ref p1, .ref p2], []⟩) R ⟨c.h, c.g, d, t, os⟩ := by
  refine fn_in (f := 137) [("self", .ref p1), ("other", .ref p2)] hR.room G X B (kk_lookup (by k_is) rfl) (by kernel_rfl) (BindsTo.of_eq rfl) (by kernel_rfl) (by decide +kernel) rfl rfl rfl ?_
  intro env c₁ t₁ O' O₂' he S u u2 sub subO e
  subst he
  have hr := hr.up u
  have h1 := h1.up u
  have h2 := h2.up u
  obtain ⟨l1, i1, v1⟩ := id h1
  refine wpAny_execs_cons (wpAny_Assign_Name (MethodCall_ (x_name S.F.vars rfl (x_getM S.X i1 (cwK1 (keep_130 _) (x_name S.F.vars rfl ⟨S.X.k, wpAny_call (add__spec (hR.deeper.mono (by decide)) S.gdT S.bT S.xT (hr.up S.uT) (h1.up S.uT) (h2.up S.uT) hq hn fun c₂ t₂ l' e₂ hl' => ?_)⟩) S.X.k) rfl (meth_130 _)))))
  have S₂ := S.go e₂
  refine sx_store S₂ fun c₃ t₃ _ _ S₃ u₃ u₃2 e₃ => ?_
  refine wpAny_execs_cons (wpAny_Return_some (MethodCall_ (x_parent (hR.deeper.mono (by decide)) S₃ ((hr.up (S.up e₂)).up u₃) ((i1.up (S.up e₂)).up u₃) (hl'.up u₃2) hn rfl rfl fun c₄ t₄ p e₄ hp => ?_)))
  exact hQ c₄ _ p (S₃.go e₄).F.ext (hp.up (Up.less sub))
theorem sub_spec {r p1 p2 : Addr} {q : Int} {n : Nat} {a b : Nat → Int} (hR : Rm 8 A) (G : Gd T0 [] O c.h) (B : Bg O O₂ c.h) (X : Wd w.params O c.h) (hr : IsRing O c.h r q n) (h1 : IsPoly O c.h p1 r n a) (h2 : IsPoly O c.h p2 r n b) (hq : q ≠ 0) (hn : n ≤ 1000)
    (hQ : ∀ c' t' p, Ext T0 [] c c' → IsPoly O₂ c'.h p r n (fun k => (a k - b k).fmod q) → R (.ok (.ret (.ref p))) ⟨c'.h, c'.g, d, t', os⟩) :
    codeAny (model prog w) A (.call (.ref 163) ⟨[.ref p1, .ref p2], []⟩) R ⟨c.h, c.g, d, t, os⟩ := by
  refine fn_in (f := 163) [("self", .ref p1), ("other", .ref p2)] hR.room G X B (kk_lookup (by k_is) rfl) (by kernel_rfl) (BindsTo.of_eq rfl) (by kernel_rfl) (by decide +kernel) rfl rfl rfl ?_
  intro env c₁ t₁ O' O₂' he S u u2 sub subO e
  subst he
  have hr := hr.up u
  have h1 := h1.up u
  have h2 := h2.up u
  obtain ⟨l1, i1, v1⟩ := id h1
  refine wpAny_execs_cons (wpAny_Assign_Name (MethodCall_ (x_name S.F.vars rfl (x_getM S.X i1 (cwK1 (keep_156 _) (x_name S.F.vars rfl ⟨S.X.k, wpAny_call (sub__spec (hR.deeper.mono (by decide)) S.gdT S.bT S.xT (hr.up S.uT) (h1.up S.uT) (h2.up S.uT) hq hn fun c₂ t₂ l' e₂ hl' => ?_)⟩) S.X.k) rfl (meth_156 _)))))
  have S₂ := S.go e₂
  refine sx_store S₂ fun c₃ t₃ _ _ S₃ u₃ u₃2 e₃ => ?_
  refine wpAny_execs_cons (wpAny_Return_some (MethodCall_ (x_parent (hR.deeper.mono (by decide)) S₃ ((hr.up (S.up e₂)).up u₃) ((i1.up (S.up e₂)).up u₃) (hl'.up u₃2) hn rfl rfl fun c₄ t₄ p e₄ hp => ?_)))
  exact hQ c₄ _ p (S₃.go e₄).F.ext (hp.up (Up.less sub))
/-- `_add_` of a polynomial and a whole number -/
noncomputable def addAt0 (a : Nat → Int) (z q : Int) (k : Nat) : Int := if k = 0 then (a 0 + z).fmod q else a k
theorem addi__spec {r p1 : Addr} {q z : Int} {tz : Tok} {n : Nat} {a : Nat → Int} (hR : Rm 4 A) (G : Gd T0 [] O c.h) (B : Bg O O₂ c.h) (X : Wd w.params O c.h) (hr : IsRing O c.h r q n) (h1 : IsPoly O c.h p1 r n a) (hq : q ≠ 0) (hn1 : 1 ≤ n) (hn : n ≤ 1000)
    (hQ : ∀ c' t' l', Ext T0 [] c c' → Ints O₂ c'.h l' n (addAt0 a z q) → R (.ok (.ret (.ref l'))) ⟨c'.h, c'.g, d, t', os⟩) :
    codeAny (model prog w) A (.call (.ref 130) ⟨[.ref p1, .int z tz], []⟩) R ⟨c.h, c.g, d, t, os⟩ := by
  refine fn_in (f := 130) [("self", .ref p1), ("other", .int z tz)] hR.room G X B (kk_lookup (by k_is) rfl) (by kernel_rfl) (BindsTo.of_eq rfl) (by kernel_rfl) (by decide +kernel) rfl rfl rfl ?_
  intro env c₁ t₁ O' O₂' he S u u2 sub subO e
  subst he
  have hr := hr.up u
  obtain ⟨l1, i1, v1⟩ := h1.up u
  obtain ⟨vs1, a1, b1, g1⟩ := v1.get
  refine wpAny_execs_cons (wpAny_If (isTrue_plain (Call_ (bi_name S.X (nb_isinstance _) (bb_isinstance _) (cwB2 (x_name S.F.vars rfl (Call_ (bi_name S.X (nb_type _) (bb_type _) (cwT1 (x_name S.F.vars rfl (x_type i1 (x_isInt S.X (is_int220 _) fun t' => x_truth ?_))))))))))))
  refine ifFalse rfl ?_
  refine wpAny_execs_cons (wpAny_If (isTrue_plain (Call_ (bi_name S.X (nb_isinstance _) (bb_isinstance _) (cwB2 (x_name S.F.vars rfl (bi_name S.X (nb_int _) (bb_int _) (x_isInt S.X (is_intint _) fun t' => x_truth ?_))))))))
  refine ifTrue rfl ?_
  refine wpAny_execs_cons (wpAny_Assign_Name (MethodCall_ (Attribute_any_ (x_name S.F.vars rfl (x_get S.X i1 (x_copyM a1.2 (by rw [sizeLine_eq]; omega) fun c₂ l' e₂ hl' hn' => ?_) rfl (ok_own220c _))))))
  have e₂ := e₂ T0 []
  have hlO : l' ∉ O₂' := S.B.off hn'
  have hlO1 : l' ∉ O' := fun z => hlO (S.B.sub _ z)
  have hlT : l' ∉ T0 := fun z => hlO1 (S.F.tin _ z)
  have hl0 := S.F.none hn'
  have S₂ := (S.go e₂).more S.X (S.up e₂) hn' (list_get hl')
  have u₂ := (S.up e₂).consF hn'
  have i1 := i1.up u₂
  have hr := hr.up u₂
  refine sx_store S₂ fun c₃ t₃ ax hloc S₃ u₃ u₃2 e₃ => ?_
  have hl' := list_ext hl' e₃ hlT (by simp; rintro rfl; exact hlO1 (S.F.own _ hloc.own))
  have i1 := i1.up u₃
  have hr := hr.up u₃
  obtain ⟨u0, z0⟩ := g1 0 (by omega)
  refine wpAny_execs_cons (wpAny_Assign_Subscript (MethodCall_ (x_name S₃.F.vars rfl (x_getM S₃.X i1 (cwK2 (keep_108 _) (Subscript_ (x_name S₃.F.vars rfl (x_int (x_item hl' (by decide) (by decide) z0 (x_name S₃.F.vars rfl ⟨S₃.X.k, wpAny_call ?_⟩))))) S₃.X.k) rfl (meth_108 _)))))
  refine addmod_spec (hR.deeper.mono (by decide)) S₃.gdT S₃.xT (hr.up S₃.uT) (i1.up S₃.uT) hq fun c₄ t₄ uu e₄ => ?_
  have S₄ := S₃.go e₄
  have hl' := list_ext hl' e₄ hlT (by simp)
  refine x_name S₄.F.vars rfl (x_int (x_setItem (W := [l']) hl' hlT (by simp) (by decide) (by decide) (by simp; omega) fun c₅ hl5 e₅ sb5 _ => ?_))
  have S₅ := (S₄.goL e₅ fun b hb => by rw [List.mem_singleton.mp hb]; exact ⟨.inl hl0, fun z => hlO1 (S.F.own _ z), List.mem_cons_self ..⟩).1
  refine wpAny_execs_nil (wpAny_execs_nil (wpAny_execs_cons (wpAny_Return_some (x_name S₅.F.vars rfl ?_))))
  refine hQ c₅ _ l' S₅.F.ext (Ints.of ⟨fun z => hlO (sub _ z), hl5⟩ (by simpa using b1) fun k hk => ?_)
  unfold addAt0
  by_cases q : k = 0
  · subst q
    have hlen : (0:Int).toNat < vs1.length := by simp; omega
    exact ⟨uu, by rw [if_pos rfl]; exact List.getElem?_set_self hlen⟩
  · obtain ⟨uk, zk⟩ := g1 k hk
    exact ⟨uk, by rw [if_neg q, ← zk]; simp [List.getElem?_set, Ne.symm q]⟩
/-- `__add__` of a polynomial and a whole number, and `__radd__` -/
theorem addi_spec {r p1 : Addr} {q z : Int} {tz : Tok} {n : Nat} {a : Nat → Int} (hR : Rm 8 A) (G : Gd T0 [] O c.h) (B : Bg O O₂ c.h) (X : Wd w.params O c.h) (hr : IsRing O c.h r q n) (h1 : IsPoly O c.h p1 r n a) (hq : q ≠ 0) (hn1 : 1 ≤ n) (hn : n ≤ 1000)
    (hQ : ∀ c' t' p, Ext T0 [] c c' → IsPoly O₂ c'.h p r n (addAt0 a z q) → R (.ok (.ret (.ref p))) ⟨c'.h, c'.g, d, t', os⟩) :
    codeAny (model prog w) A (.call (.ref 137) ⟨[.ref p1, .int z tz], []⟩) R ⟨c.h, c.g, d, t, os⟩ := by
  refine fn_in (f := 137) [("self", .ref p1), ("other", .int z tz)] hR.room G X B (kk_lookup (by k_is) rfl) (by kernel_rfl) (BindsTo.of_eq rfl) (by kernel_rfl) (by decide +kernel) rfl rfl rfl ?_
  intro env c₁ t₁ O' O₂' he S u u2 sub subO e
  subst he
  have hr := hr.up u
  have h1 := h1.up u
  obtain ⟨l1, i1, v1⟩ := id h1
  refine wpAny_execs_cons (wpAny_Assign_Name (MethodCall_ (x_name S.F.vars rfl (x_getM S.X i1 (cwK1 (keep_130 _) (x_name S.F.vars rfl ⟨S.X.k, wpAny_call (addi__spec (hR.deeper.mono (by decide)) S.gdT S.bT S.xT (hr.up S.uT) (h1.up S.uT) hq hn1 hn fun c₂ t₂ l' e₂ hl' => ?_)⟩) S.X.k) rfl (meth_130 _)))))
  have S₂ := S.go e₂
  refine sx_store S₂ fun c₃ t₃ _ _ S₃ u₃ u₃2 e₃ => ?_
  refine wpAny_execs_cons (wpAny_Return_some (MethodCall_ (x_parent (hR.deeper.mono (by decide)) S₃ ((hr.up (S.up e₂)).up u₃) ((i1.up (S.up e₂)).up u₃) (hl'.up u₃2) hn rfl rfl fun c₄ t₄ p e₄ hp => ?_)))
  exact hQ c₄ _ p (S₃.go e₄).F.ext (hp.up (Up.less sub))
theorem raddi_spec {r p1 : Addr} {q z : Int} {tz : Tok} {n : Nat} {a : Nat → Int} (hR : Rm 9 A) (G : Gd T0 [] O c.h) (B : Bg O O₂ c.h) (X : Wd w.params O c.h) (hr : IsRing O c.h r q n) (h1 : IsPoly O c.h p1 r n a) (hq : q ≠ 0) (hn1 : 1 ≤ n) (hn : n ≤ 1000)
    (hQ : ∀ c' t' p, Ext T0 [] c c' → IsPoly O₂ c'.h p r n (addAt0 a z q) → R (.ok (.ret (.ref p))) ⟨c'.h, c'.g, d, t', os⟩) :
    codeAny (model prog w) A (.call (.ref 144) ⟨[.ref p1, .int z tz], []⟩) R ⟨c.h, c.g, d, t, os⟩ := by
  refine fn_in (f := 144) [("self", .ref p1), ("other", .int z tz)] hR.room G X B (kk_lookup (by k_is) rfl) (by kernel_rfl) (BindsTo.of_eq rfl) (by kernel_rfl) (by decide +kernel) rfl rfl rfl ?_
  intro env c₁ t₁ O' O₂' he S u u2 sub subO e
  subst he
  obtain ⟨l1, i1, v1⟩ := h1.up u
  refine wpAny_execs_cons (wpAny_Return_some (MethodCall_ (x_name S.F.vars rfl (x_getM S.X i1 (cwK1 (keep_137 _) (x_name S.F.vars rfl ⟨S.X.k, wpAny_call (addi_spec hR.deeper S.gdT S.bT S.xT ((hr.up u).up S.uT) ((h1.up u).up S.uT) hq hn1 hn fun c₂ t₂ p e₂ hp => ?_)⟩) S.X.k) rfl (meth_137 _)))))
  exact hQ c₂ _ p (S.go e₂).F.ext (hp.up (Up.less sub))
end
end Mine
end

section
open PySem PySem.W PySem.Calls PyProof.Rows
set_option Elab.async false
set_option maxRecDepth 100000
set_option linter.unusedSimpArgs false
set_option linter.unusedVariables false
namespace Mine
theorem regD6 : PySem.Challenge.rw_yd0003_04 = PySem.Challenge.rw_yd0003_04 ∧ hd.heap_1 = hd.heap_1 := by k_fill; exact ⟨rfl, rfl⟩
noncomputable def sumTo (f : Nat → Int) : Nat → Int
  | 0 => 0
  | m + 1 => sumTo f m + f m
noncomputable def convA (a b : Nat → Int) (k i : Nat) : Int := if i ≤ k then a i * b (k - i) else 0
noncomputable def convB (n : Nat) (a b : Nat → Int) (k j : Nat) : Int := if k < j + 1 then a (n + k - (j + 1)) * b (j + 1) else 0
noncomputable def conv (n : Nat) (a b : Nat → Int) (k : Nat) : Int := sumTo (convA a b k) n - sumTo (convB n a b k) (n - 1)
/-- a list of ints that may turn -/
noncomputable def IntsM (h : Heap) (l : Addr) (n : Nat) (c : Nat → Int) : Prop := ∃ vs, LsO h l (List.toArray vs) ∧ vs.length = n ∧ ∀ k, k < n → ∃ u, vs[k]? = some (.int (c k) u)
theorem IntsM.kp {V h h' l n c} (x : IntsM h l n c) (k : Kp V h h') (hl : l ∈ V) : IntsM h' l n c := by
  obtain ⟨vs, ⟨m, e⟩, r⟩ := x
  exact ⟨vs, ⟨m, k l hl _ e⟩, r⟩
theorem IntsM.ext {T W c c' l n f} (x : IntsM c.h l n f) (e : Ext T W c c') (h1 : l ∉ T) (h2 : l ∉ W) : IntsM c'.h l n f := by
  obtain ⟨vs, a, r⟩ := x
  exact ⟨vs, list_ext a e h1 h2, r⟩
theorem IntsM.congr {h l n c c'} (x : IntsM h l n c) (e : ∀ k, k < n → c k = c' k) : IntsM h l n c' := by
  obtain ⟨vs, a, b, r⟩ := x
  exact ⟨vs, a, b, fun k hk => by obtain ⟨u, z⟩ := r k hk; exact ⟨u, by rw [z, e k hk]⟩⟩
theorem IntsM.set {h l n} {c : Nat → Int} {vs : List Value} {i : Nat} {v : Int} {u : Tok} (b : vs.length = n) (r : ∀ k, k < n → ∃ u, vs[k]? = some (.int (c k) u)) (hi : i < n) (hl : LsO h l (List.toArray (vs.set i (.int v u)))) : IntsM h l n (fun k => if k = i then v else c k) :=
  ⟨_, hl, by simpa using b, fun k hk => by
    by_cases q : k = i
    · subst q
      exact ⟨u, by simp only [if_true]; exact List.getElem?_set_self (by omega)⟩
    · obtain ⟨u', z⟩ := r k hk
      exact ⟨u', by simp only [q, if_false]; rw [← z]; simp [List.getElem?_set, Ne.symm q]⟩⟩
section
variable {prog : Program} {w : World} {A : Around} {E : Value → Shared → Prop} {c : Cr} {d : Drawn} {t : Nat} {os : OsState} {O O₂ : List Addr} {R : Result → Shared → Prop}
set_option maxHeartbeats 2000000 in
theorem school_spec {r p1 p2 : Addr} {q : Int} {n : Nat} {a b : Nat → Int} (hR : Rm 4 A) (G : Gd T0 [] O c.h) (B : Bg O O₂ c.h) (X : Wd w.params O c.h) (hr : IsRing O c.h r q n) (h1 : IsPoly O c.h p1 r n a) (h2 : IsPoly O c.h p2 r n b) (hq : q ≠ 0) (hn : n ≤ 1000)
    (hm : ∀ i j, i < n → j < n → IntMulOk (a i) (b j))
    (hQ : ∀ c' t' l', Ext T0 [] c c' → Ints O₂ c'.h l' n (fun k => (conv n a b k).fmod q) → R (.ok (.ret (.ref l'))) ⟨c'.h, c'.g, d, t', os⟩) :
    codeAny (model prog w) A (.call (.ref 120) ⟨[.ref p1, .ref p2], []⟩) R ⟨c.h, c.g, d, t, os⟩ := by
  refine fn_in (f := 120) [("self", .ref p1), ("other", .ref p2)] hR.room G X B (kk_lookup (by k_is) rfl) (by kernel_rfl) (BindsTo.of_eq rfl) (by kernel_rfl) (by decide +kernel) rfl rfl rfl ?_
  intro env c₁ t₁ O' O₂' he S u u2 sub subO e
  subst he
  obtain ⟨tq, tn, hr⟩ := hr.up u
  obtain ⟨l1, i1, v1⟩ := h1.up u
  obtain ⟨l2, i2, v2⟩ := h2.up u
  refine wpAny_execs_cons (wpAny_Assign_Name (Attribute_any_ (Attribute_any_ (x_name S.F.vars rfl (x_get S.X i1 (x_get S.X hr ?_ rfl (ok_own59n _)) rfl (ok_own220p _))))))
  refine sx_store S fun c₂ t₂ _ _ S u u2 e => ?_
  have i1 := i1.up u; have i2 := i2.up u; have hr := hr.up u; have v1 := v1.up u; have v2 := v2.up u
  refine wpAny_execs_cons (wpAny_Assign_Name (Attribute_any_ (x_name S.F.vars rfl (x_get S.X i1 ?_ rfl (ok_own220c _)))))
  refine sx_store S fun c₃ t₃ _ _ S u u2 e => ?_
  have i1 := i1.up u; have i2 := i2.up u; have hr := hr.up u; have v1 := v1.up u; have v2 := v2.up u
  refine wpAny_execs_cons (wpAny_Assign_Name (Attribute_any_ (x_name S.F.vars rfl (x_get S.X i2 ?_ rfl (ok_own220c _)))))
  refine sx_store S fun c₄ t₄ _ _ S u u2 e => ?_
  have i1 := i1.up u; have i2 := i2.up u; have hr := hr.up u; have v1 := v1.up u; have v2 := v2.up u
  refine wpAny_execs_cons (sx_compA0 S (fun _ v _ _ => ∃ u, v = .int 0 u) ?_)
  refine Call_ (bi_name S.X (nb_range _) (bb_range _) (cwT1 (x_name S.F.vars rfl (x_range1 (by omega) fun c₅ rg t₅ e₅ it => ?_))))
  have u5 := S.up (e₅ T0 [])
  have S₅ := S.go (e₅ _ _)
  have i1 := i1.up u5; have hr := hr.up u5; have v1 := v1.up u5; have v2 := v2.up u5
  refine ⟨c₅, t₅, n, _, rfl, S₅, it T0 [] _ hR.1 (fun b hb => S₅.F.low b (S₅.F.tin b hb)), by rw [sizeLine_eq]; omega, fun _ _ _ _ _ _ e _ => e, fun M i v nn L c t Q' E' hi hP S e u u2 q => x_int (q c _ _ (Ext.refl ..) ⟨_, rfl⟩), ?_⟩
  intro D c₆ t₆ hD S₆ u₆ u₆2 hDl
  obtain ⟨ws, d1, d2, d3⟩ := hDl
  have hDO : D ∉ O₂' := d1.1
  have hDO1 : D ∉ O' := fun z => hDO (S₆.B.sub _ z)
  have hDT : D ∉ T0 := fun z => hDO1 (S₆.F.tin _ z)
  have hD0 := S₅.F.none hD
  have S₇ := S₆.more S₅.X u₆ hD (list_get d1.2)
  have u7 := u₆.consF hD
  have i1 := i1.up u7; have hr := hr.up u7; have v1 := v1.up u7; have v2 := v2.up u7
  have dM : IntsM c₆.h D n (fun _ => 0) := ⟨ws, d1.2, d2, fun k hk => by
    obtain ⟨u, z⟩ := d3 k _ (List.getElem?_eq_getElem (by omega))
    exact ⟨u, by rw [List.getElem?_eq_getElem (by omega), z]⟩⟩
  have hv : ∀ b' ∈ [D], b' ∉ ownOf _ ∧ b' ∈ D :: O' ∧ b' ∉ T0 := fun b' hb => by
    rw [List.mem_singleton.mp hb]
    exact ⟨fun z => hDO1 (S₆.F.own _ z), List.mem_cons_self .., hDT⟩
  have low7 : ∀ b ∈ T0, ∃ o, c₆.h.get? b = some o := fun b hb => S₇.F.low b (S₇.F.tin b hb)
  -- the first pair of loops
  refine wpAny_execs_cons (sx_for S₇ [D] (fun i mm _ h => (mm "n" = some (.int n tn) ∧ mm "a" = some (.ref l1) ∧ mm "b" = some (.ref l2) ∧ mm "new_coeffs" = some (.ref D) ∧ mm "self" = some (.ref p1)) ∧ IntsM h D n (fun k => sumTo (convA a b k) i)) ?_)
  refine Call_ (bi_name S₇.X (nb_range _) (bb_range _) (cwT1 (x_name S₇.F.vars rfl (x_range1 (by omega) fun c₈ rg t₈ e₈ it => ?_))))
  have u8 := S₇.up (e₈ _ _)
  have S₈ := S₇.go (e₈ _ _)
  have i1 := i1.up u8; have hr := hr.up u8; have v1 := v1.up u8; have v2 := v2.up u8
  refine ⟨c₈, t₈, n, _, rfl, S₈, it T0 _ _ hR.1 (fun b hb => S₈.F.low b (S₈.F.tin b hb)), hv, fun i mm O h O' h' ⟨a, b⟩ _ k => ⟨a, b.kp k (by simp)⟩, ⟨⟨rfl, rfl, rfl, rfl, rfl⟩, dM.ext (e₈ T0 []) hDT (by simp)⟩, ?_, ?_⟩
  · rintro I i v c mm t R' E' hI hIO hIe hi ⟨ti, hvi⟩ S u u2 ⟨⟨nn, na, nb, nc, ns⟩, hM⟩ k
    subst hvi
    have i1 := i1.up u; have hr := hr.up u; have v1 := v1.up u; have v2 := v2.up u
    refine wpAny_execs_cons (sx_for S [D] (fun j mm _ h => (mm "n" = some (.int n tn) ∧ mm "a" = some (.ref l1) ∧ mm "b" = some (.ref l2) ∧ mm "new_coeffs" = some (.ref D) ∧ mm "self" = some (.ref p1) ∧ mm "i" = some (.int i ti)) ∧ IntsM h D n (fun k => sumTo (convA a b k) i + if i ≤ k ∧ k < i + j then a i * b (k - i) else 0)) ?_)
    refine Call_ (bi_name S.X (nb_range _) (bb_range _) (cwT2 (x_int (wpAny_BinOp (x_name S.F.vars nn (x_name S.F.vars rfl (x_sub (x_range2 (by omega) (by omega) (by omega) (by omega) fun c₉ rg t₉ e₉ it => ?_))))))))
    have u9 := S.up (e₉ _ _)
    have S₉ := S.go (e₉ _ _)
    have i1 := i1.up u9; have hr := hr.up u9; have v1 := v1.up u9; have v2 := v2.up u9
    refine ⟨c₉, t₉, _, _, rfl, S₉, it T0 _ _ hR.1 (fun b hb => S₉.F.low b (S₉.F.tin b hb)), hv, fun i mm O h O' h' ⟨a, b⟩ _ k => ⟨a, b.kp k (by simp)⟩, ⟨⟨nn, na, nb, nc, ns, rfl⟩, (hM.ext (e₉ T0 []) hDT (by simp)).congr fun k hk => by rw [if_neg (by omega)]; omega⟩, ?_, ?_⟩
    · rintro I' j v c' mm' t' R'' E'' hI' hIO' hIe' hj ⟨tj, hvj⟩ S u u2 ⟨⟨nn, na, nb, nc, ns, ni⟩, hM⟩ k
      subst hvj
      have hij : i + j < n := by omega
      have i1 := i1.up u; have hr := hr.up u; have v1 := v1.up u; have v2 := v2.up u
      obtain ⟨xs, m1, m2, m3⟩ := hM
      obtain ⟨as, a1, a2, a3⟩ := v1.get
      obtain ⟨bs, b1, b2, b3⟩ := v2.get
      obtain ⟨ua, za⟩ := a3 i hi
      obtain ⟨ub, zb⟩ := b3 j (by omega)
      obtain ⟨ux, zx⟩ := m3 (i + j) hij
      refine wpAny_execs_cons (wpAny_AugAssign_SubscriptAny (x_name S.F.vars nc (wpAny_BinOp (x_name S.F.vars ni (x_name S.F.vars rfl (x_add ?_))))))
      refine x_getItem m1 (by omega) (by omega) (by rw [show ((i : Int) + (0 + (j : Int))).toNat = i + j by omega]; exact zx) ?_
      refine wpAny_BinOp (Subscript_ (x_name S.F.vars na (x_name S.F.vars ni (x_item a1.2 (by omega) (by omega) (by simpa using za) ?_))))
      refine Subscript_ (x_name S.F.vars nb (x_name S.F.vars rfl (x_item b1.2 (by omega) (by omega) (by simpa using zb) (x_mul (hm i j hi (by omega)) (x_iadd ?_)))))
      refine x_setItem (W := [D]) m1 hDT (by simp) (by omega) (by omega) (by omega) fun c₁₀ hl e₁₀ sb _ => ?_
      have SL := S.goL e₁₀ fun b hb => by rw [List.mem_singleton.mp hb]; exact ⟨.inl hD0, fun z => hDO1 (S₆.F.own _ z), List.mem_cons_self ..⟩
      refine wpAny_execs_nil (k c₁₀ _ _ SL.1 SL.2.1 ⟨⟨nn, na, nb, nc, ns, ni⟩, ?_⟩)
      rw [show ((i : Int) + (0 + (j : Int))).toNat = i + j by omega] at hl
      refine (IntsM.set m2 m3 hij hl).congr fun k hk => ?_
      dsimp only
      by_cases q : k = i + j
      · subst q
        rw [if_pos rfl, if_neg (by omega), if_pos (by omega), show i + j - i = j by omega]; omega
      · rw [if_neg q]
        by_cases q1 : i ≤ k ∧ k < i + j
        · rw [if_pos q1, if_pos (by omega)]
        · rw [if_neg q1, if_neg (by omega)]
    · rintro c' t' mm' S u u2 ⟨⟨nn, na, nb, nc, ns, ni⟩, hM⟩
      refine wpAny_execs_nil (k c' _ _ S (u9.trans u) ⟨⟨nn, na, nb, nc, ns⟩, ?_⟩)
      refine hM.congr fun k hk => ?_
      show _ = sumTo (convA a b k) i + convA a b k i
      have ee : (if i ≤ k ∧ k < i + ((n : Int) - (i : Int) - 0).toNat then a i * b (k - i) else 0) = convA a b k i := by
        unfold convA
        by_cases q : i ≤ k
        · rw [if_pos (by omega), if_pos q]
        · rw [if_neg (by omega), if_neg q]
      rw [← ee]
  · rintro c₉ t₉ mm S₉ u9 u92 ⟨⟨nn, na, nb, nc, ns⟩, hM⟩
    have i1 := i1.up u9; have hr := hr.up u9; have v1 := v1.up u9; have v2 := v2.up u9
    -- the second pair
    refine wpAny_execs_cons (sx_for S₉ [D] (fun j mm _ h => (mm "n" = some (.int n tn) ∧ mm "a" = some (.ref l1) ∧ mm "b" = some (.ref l2) ∧ mm "new_coeffs" = some (.ref D) ∧ mm "self" = some (.ref p1)) ∧ IntsM h D n (fun k => sumTo (convA a b k) n - sumTo (convB n a b k) j)) ?_)
    refine Call_ (bi_name S₉.X (nb_range _) (bb_range _) (cwT2 (x_int (x_name S₉.F.vars nn (x_range2 (by omega) (by omega) (by omega) (by omega) fun c₁₀ rg t₁₀ e₁₀ it => ?_)))))
    have u10 := S₉.up (e₁₀ _ _)
    have S₁₀ := S₉.go (e₁₀ _ _)
    have i1 := i1.up u10; have hr := hr.up u10; have v1 := v1.up u10; have v2 := v2.up u10
    refine ⟨c₁₀, t₁₀, _, _, rfl, S₁₀, it T0 _ _ hR.1 (fun b hb => S₁₀.F.low b (S₁₀.F.tin b hb)), hv, fun i mm O h O' h' ⟨a, b⟩ _ k => ⟨a, b.kp k (by simp)⟩, ⟨⟨nn, na, nb, nc, ns⟩, (hM.ext (e₁₀ T0 []) hDT (by simp)).congr fun k hk => by simp [sumTo]⟩, ?_, ?_⟩
    · rintro I j v c mm t R' E' hI hIO hIe hj ⟨tj, hvj⟩ S u u2 ⟨⟨nn, na, nb, nc, ns⟩, hM⟩ k
      subst hvj
      have hjn : j + 1 < n := by omega
      have i1 := i1.up u; have hr := hr.up u; have v1 := v1.up u; have v2 := v2.up u
      refine wpAny_execs_cons (sx_for S [D] (fun m mm _ h => (mm "n" = some (.int n tn) ∧ mm "a" = some (.ref l1) ∧ mm "b" = some (.ref l2) ∧ mm "new_coeffs" = some (.ref D) ∧ mm "self" = some (.ref p1) ∧ mm "j" = some (.int (1 + (j : Int)) tj)) ∧ IntsM h D n (fun k => sumTo (convA a b k) n - sumTo (convB n a b k) j - if k < m then a (n + k - (j + 1)) * b (j + 1) else 0)) ?_)
      refine Call_ (bi_name S.X (nb_range _) (bb_range _) (cwT2 (wpAny_BinOp (x_name S.F.vars nn (x_name S.F.vars rfl (x_sub (x_name S.F.vars nn (x_range2 (by omega) (by omega) (by omega) (by omega) fun c₁₁ rg t₁₁ e₁₁ it => ?_))))))))
      have u11 := S.up (e₁₁ _ _)
      have S₁₁ := S.go (e₁₁ _ _)
      have i1 := i1.up u11; have hr := hr.up u11; have v1 := v1.up u11; have v2 := v2.up u11
      refine ⟨c₁₁, t₁₁, _, _, rfl, S₁₁, it T0 _ _ hR.1 (fun b hb => S₁₁.F.low b (S₁₁.F.tin b hb)), hv, fun i mm O h O' h' ⟨a, b⟩ _ k => ⟨a, b.kp k (by simp)⟩, ⟨⟨nn, na, nb, nc, ns, rfl⟩, (hM.ext (e₁₁ T0 []) hDT (by simp)).congr fun k hk => by rw [if_neg (by omega)]; omega⟩, ?_, ?_⟩
      · rintro I' m v c' mm' t' R'' E'' hI' hIO' hIe' hmj ⟨ti, hvi⟩ S u u2 ⟨⟨nn, na, nb, nc, ns, nj⟩, hM⟩ k
        subst hvi
        have hmn : m < j + 1 := by omega
        have i1 := i1.up u; have hr := hr.up u; have v1 := v1.up u; have v2 := v2.up u
        obtain ⟨xs, m1, m2, m3⟩ := hM
        obtain ⟨as, a1, a2, a3⟩ := v1.get
        obtain ⟨bs, b1, b2, b3⟩ := v2.get
        obtain ⟨ua, za⟩ := a3 (n + m - (j + 1)) (by omega)
        obtain ⟨ub, zb⟩ := b3 (j + 1) (by omega)
        obtain ⟨ux, zx⟩ := m3 m (by omega)
        have eI : ((n : Int) - (1 + (j : Int)) + (m : Int)) = ((n + m - (j + 1) : Nat) : Int) := by omega
        have eJ : (1 + (j : Int)) = ((j + 1 : Nat) : Int) := by omega
        have eK : (((n : Int) - (1 + (j : Int)) + (m : Int)) + (1 + (j : Int)) - n).toNat = m := by omega
        refine wpAny_execs_cons (wpAny_AugAssign_SubscriptAny (x_name S.F.vars nc (wpAny_BinOp (wpAny_BinOp (x_name S.F.vars rfl (x_name S.F.vars nj (x_add (x_name S.F.vars nn (x_sub ?_)))))))))
        refine x_getItem m1 (by omega) (by omega) (by rw [eK]; exact zx) ?_
        refine wpAny_BinOp (Subscript_ (x_name S.F.vars na (x_name S.F.vars rfl (x_item a1.2 (by omega) (by omega) (by rw [eI]; simpa using za) ?_))))
        refine Subscript_ (x_name S.F.vars nb (x_name S.F.vars nj (x_item b1.2 (by omega) (by omega) (by rw [eJ]; simpa using zb) (x_mul (hm _ _ (by omega) (by omega)) (x_isub ?_)))))
        refine x_setItem (W := [D]) m1 hDT (by simp) (by omega) (by omega) (by omega) fun c₁₂ hl e₁₂ sb _ => ?_
        have SL := S.goL e₁₂ fun b hb => by rw [List.mem_singleton.mp hb]; exact ⟨.inl hD0, fun z => hDO1 (S₆.F.own _ z), List.mem_cons_self ..⟩
        refine wpAny_execs_nil (k c₁₂ _ _ SL.1 SL.2.1 ⟨⟨nn, na, nb, nc, ns, nj⟩, ?_⟩)
        rw [eK] at hl
        refine (IntsM.set m2 m3 (by omega) hl).congr fun k hk => ?_
        dsimp only
        by_cases q : k = m
        · subst q
          rw [if_pos rfl, if_neg (by omega), if_pos (by omega)]; omega
        · rw [if_neg q]
          by_cases q1 : k < m
          · rw [if_pos q1, if_pos (by omega)]
          · rw [if_neg q1, if_neg (by omega)]
      · rintro c' t' mm' S u u2 ⟨⟨nn, na, nb, nc, ns, nj⟩, hM⟩
        refine wpAny_execs_nil (k c' _ _ S (u11.trans u) ⟨⟨nn, na, nb, nc, ns⟩, ?_⟩)
        refine hM.congr fun k hk => ?_
        dsimp only [sumTo]
        have ee : (if k < ((n : Int) - ((n : Int) - (1 + (j : Int)))).toNat then a (n + k - (j + 1)) * b (j + 1) else 0) = convB n a b k j := by
          unfold convB
          rw [show ((n : Int) - ((n : Int) - (1 + (j : Int)))).toNat = j + 1 by omega]
        rw [ee]; omega
    · rintro c₁₁ t₁₁ mm S₁₁ u11 u112 ⟨⟨nn, na, nb, nc, ns⟩, hM⟩
      have i1 := i1.up u11; have hr := hr.up u11
      have hM : IntsM c₁₁.h D n (conv n a b) := hM.congr fun k hk => by unfold conv; rw [show ((n : Int) - 1).toNat = n - 1 by omega]
      obtain ⟨xs, m1, m2, m3⟩ := hM
      refine wpAny_execs_cons (wpAny_Return_some (sx_comp0 S₁₁ (fun k v _ _ => ∃ u, v = .int ((conv n a b k).fmod q) u) ?_))
      refine x_name S₁₁.F.vars nc ⟨c₁₁, _, xs.length, _, rfl, S₁₁, iter_list hR.1 m1 hDT (by simp) (fun b hb => S₁₁.F.low b (S₁₁.F.tin b hb)), by rw [sizeLine_eq]; omega, fun _ _ _ _ _ _ e _ => e, ?_, ?_⟩
      · rintro M i v nn' L c t Q' E' hi hP S e u u2 k
        obtain ⟨ui, zi⟩ := m3 i (by omega)
        have hP : v = .int (conv n a b i) ui := by rw [zi] at hP; exact (Option.some.inj hP).symm
        subst hP
        have i1 := i1.up u; have hr := hr.up u
        refine wpAny_BinOp (x_name S.F.vars rfl (Attribute_any_ (Attribute_any_ (x_name S.F.vars ns (x_get S.X i1 (x_get S.X hr (x_mod hq (k c _ _ (Ext.refl ..) ⟨_, rfl⟩)) rfl (ok_own59q _)) rfl (ok_own220p _))))))
      · rintro D' c₁₃ t₁₃ _ S₁₃ e₁₃ u₁₃ u₁₃2 hL
        rw [m2] at hL
        exact hQ c₁₃ _ D' S₁₃.F.ext (Ints.up (O := D :: O₂') hL (Up.less fun b hb => .tail _ (sub b hb)))
end
end Mine
end

section
open PySem PySem.W PySem.Calls PyProof.Rows
set_option Elab.async false
set_option maxRecDepth 100000
set_option linter.unusedSimpArgs false
set_option linter.unusedVariables false
namespace Mine
theorem regD7 : PySem.Challenge.rw_yd0003_04 = PySem.Challenge.rw_yd0003_04 ∧ hd.heap_1 = hd.heap_1 := by k_fill; exact ⟨rfl, rfl⟩
section
variable {prog : Program} {w : World} {A : Around} {E : Value → Shared → Prop} {c : Cr} {hp : Heap} {g : Array GenState} {d : Drawn} {t : Nat} {os : OsState} {O O₂ : List Addr} {R : Result → Shared → Prop}
theorem mul_spec {r p1 p2 : Addr} {q : Int} {n : Nat} {a b : Nat → Int} (hR : Rm 8 A) (G : Gd T0 [] O c.h) (B : Bg O O₂ c.h) (X : Wd w.params O c.h) (hr : IsRing O c.h r q n) (h1 : IsPoly O c.h p1 r n a) (h2 : IsPoly O c.h p2 r n b) (hq : q ≠ 0) (hn : n ≤ 1000)
    (hm : ∀ i j, i < n → j < n → IntMulOk (a i) (b j))
    (hQ : ∀ c' t' p, Ext T0 [] c c' → IsPoly O₂ c'.h p r n (fun k => (conv n a b k).fmod q) → R (.ok (.ret (.ref p))) ⟨c'.h, c'.g, d, t', os⟩) :
    codeAny (model prog w) A (.call (.ref 182) ⟨[.ref p1, .ref p2], []⟩) R ⟨c.h, c.g, d, t, os⟩ := by
  refine fn_in (f := 182) [("self", .ref p1), ("other", .ref p2)] hR.room G X B (kk_lookup (by k_is) rfl) (by kernel_rfl) (BindsTo.of_eq rfl) (by kernel_rfl) (by decide +kernel) rfl rfl rfl ?_
  intro env c₁ t₁ O' O₂' he S u u2 sub subO e
  subst he
  have hr := hr.up u
  have h1 := h1.up u
  have h2 := h2.up u
  obtain ⟨l1, i1, v1⟩ := id h1
  obtain ⟨l2, i2, v2⟩ := id h2
  refine wpAny_execs_cons (wpAny_If (isTrue_plain (Call_ (bi_name S.X (nb_isinstance _) (bb_isinstance _) (cwB2 (x_name S.F.vars rfl (Call_ (bi_name S.X (nb_type _) (bb_type _) (cwT1 (x_name S.F.vars rfl (x_type i1 (x_isI S.X i2 (ok_cls220 _) (is_220 _) fun t' => x_truth ?_))))))))))))
  refine ifTrue rfl ?_
  refine wpAny_execs_cons (wpAny_Assign_Name (MethodCall_ (x_name S.F.vars rfl (x_getM S.X i1 (cwK1 (keep_120 _) (x_name S.F.vars rfl ⟨S.X.k, wpAny_call (school_spec (hR.deeper.mono (by decide)) S.gdT S.bT S.xT (hr.up S.uT) (h1.up S.uT) (h2.up S.uT) hq hn hm fun c₂ t₂ l' e₂ hl' => ?_)⟩) S.X.k) rfl (meth_120 _)))))
  have S₂ := S.go e₂
  refine sx_store S₂ fun c₃ t₃ _ _ S₃ u₃ u₃2 e₃ => ?_
  refine wpAny_execs_nil (wpAny_execs_cons (wpAny_Return_some (MethodCall_ (x_parent (hR.deeper.mono (by decide)) S₃ ((hr.up (S.up e₂)).up u₃) ((i1.up (S.up e₂)).up u₃) (hl'.up u₃2) hn rfl rfl fun c₄ t₄ p e₄ hp => ?_))))
  exact hQ c₄ _ p (S₃.go e₄).F.ext (hp.up (Up.less sub))

/-- lists of whole numbers, equal or not -/
theorem x_eqInts {l1 l2 : Addr} {n : Nat} {a b : Nat → Int} {Q : Value → Shared → Prop} (hu : A.units < cLine) (h1 : Ints O hp l1 n a) (h2 : Ints O hp l2 n b) (h : Q (.bool ((List.range n).all fun k => a k == b k)) ⟨hp, g, d, t, os⟩) :
    wpAny (model prog w) A (compareOp .Eq (.ref l1) (.ref l2)) Q E ⟨hp, g, d, t, os⟩ := by
  obtain ⟨vs, x1, x2, x3⟩ := h1.get
  obtain ⟨ws, y1, y2, y3⟩ := h2.get
  refine SeqAt.eq_listAt (e := fun k => a k == b k) (s := ⟨hp, g, d, t, os⟩) x1.2.isL y1.2.isL (by simp [x2, y2]) hu (fun j j1 j2 => ?_) (by simpa [x2] using h)
  have hj : j < n := by simpa [x2] using j1
  obtain ⟨u, z⟩ := x3 j hj
  obtain ⟨v, z'⟩ := y3 j hj
  have e1 : vs.toArray[j] = .int (a j) u := by
    have := List.getElem?_eq_some_iff.mp z
    obtain ⟨h1, h2⟩ := this
    simpa using h2
  have e2 : ws.toArray[j] = .int (b j) v := by
    obtain ⟨h1, h2⟩ := List.getElem?_eq_some_iff.mp z'
    simpa using h2
  rw [e1, e2]
  exact SeqAt.EqAt.int_int (a j) u (b j) v
theorem x_neInts {l1 l2 : Addr} {n : Nat} {a b : Nat → Int} {Q : Value → Shared → Prop} (hu : A.units < cLine) (h1 : Ints O hp l1 n a) (h2 : Ints O hp l2 n b) (h : Q (.bool (!(List.range n).all fun k => a k == b k)) ⟨hp, g, d, t, os⟩) :
    wpAny (model prog w) A (compareOp .NotEq (.ref l1) (.ref l2)) Q E ⟨hp, g, d, t, os⟩ := by
  obtain ⟨vs, x1, x2, x3⟩ := h1.get
  obtain ⟨ws, y1, y2, y3⟩ := h2.get
  refine SeqAt.RcNeAt.lists (e := fun k => a k == b k) (s := ⟨hp, g, d, t, os⟩) x1.2.isL y1.2.isL (by simp [x2, y2]) hu (fun j j1 j2 => ?_) prog w E Q (by simpa [x2] using h)
  have hj : j < n := by simpa [x2] using j1
  obtain ⟨u, z⟩ := x3 j hj
  obtain ⟨v, z'⟩ := y3 j hj
  have e1 : vs.toArray[j] = .int (a j) u := by
    obtain ⟨h1, h2⟩ := List.getElem?_eq_some_iff.mp z
    simpa using h2
  have e2 : ws.toArray[j] = .int (b j) v := by
    obtain ⟨h1, h2⟩ := List.getElem?_eq_some_iff.mp z'
    simpa using h2
  rw [e1, e2]
  exact SeqAt.EqAt.int_int (a j) u (b j) v
theorem polyeq_spec {r p1 p2 : Addr} {n : Nat} {a b : Nat → Int} (hR : Rm 3 A) (G : Gd T0 [] O c.h) (X : Wd w.params O c.h) (h1 : IsPoly O c.h p1 r n a) (h2 : IsPoly O c.h p2 r n b)
    (hQ : ∀ c' t', Ext T0 [] c c' → R (.ok (.ret (.bool ((List.range n).all fun k => a k == b k)))) ⟨c'.h, c'.g, d, t', os⟩) :
    codeAny (model prog w) A (.call (.ref 210) ⟨[.ref p1, .ref p2], []⟩) R ⟨c.h, c.g, d, t, os⟩ := by
  refine fn_in (f := 210) [("self", .ref p1), ("other", .ref p2)] hR.room G X (O₂ := O) ⟨fun _ h => h, G.low⟩ (kk_lookup (by k_is) rfl) (by kernel_rfl) (BindsTo.of_eq rfl) (by kernel_rfl) (by decide +kernel) rfl rfl rfl ?_
  intro env c₁ t₁ O' O₂' he S u u2 sub subO e
  subst he
  obtain ⟨l1, i1, v1⟩ := h1.up u
  obtain ⟨l2, i2, v2⟩ := h2.up u
  refine wpAny_execs_cons (wpAny_If (isTrue_plain (Call_ (bi_name S.X (nb_isinstance _) (bb_isinstance _) (cwB2 (x_name S.F.vars rfl (Call_ (bi_name S.X (nb_type _) (bb_type _) (cwT1 (x_name S.F.vars rfl (x_type i1 (x_isI S.X i2 (ok_cls220 _) (is_220 _) fun t' => x_truth ?_))))))))))))
  refine ifTrue rfl ?_
  refine wpAny_execs_cons (wpAny_Return_some (wpAny_Compare1 (Attribute_any_ (x_name S.F.vars rfl (x_get S.X i1 (Attribute_any_ (x_name S.F.vars rfl (x_get S.X i2 (x_eqInts hR.deeper.units v1 v2 ?_) rfl (ok_own220c _)))) rfl (ok_own220c _))))))
  exact hQ c₁ _ e
/-- `reduce_coefficients` of a polynomial: its own dict turns -/
theorem polyreduce_spec {r p l dx : Addr} {q : Int} {n : Nat} {a : Nat → Int} (hR : Rm 3 A) (G : Gd T0 [dx] O c.h) (B : Bg O O₂ c.h) (X : Wd w.params O c.h) (hr : IsRing O c.h r q n) (hp : InD O c.h p 220 dx (pf r l)) (hl : Ints O c.h l n a) (hq : q ≠ 0) (hn : n ≤ 1000)
    (hQ : ∀ c' t' l', Ext T0 [dx] c c' → InD O c'.h p 220 dx (pf r l') → Ints O₂ c'.h l' n (fun k => (a k).fmod q) → R (.ok (.ret (.ref p))) ⟨c'.h, c'.g, d, t', os⟩) :
    codeAny (model prog w) A (.call (.ref 101) ⟨[.ref p], []⟩) R ⟨c.h, c.g, d, t, os⟩ := by
  have hdT := (G.win dx (by simp)).2
  have hdO := (G.win dx (by simp)).1
  obtain ⟨odx, edx⟩ := G.low dx hdO
  have hpx : p ≠ dx := fun z => hp.ob.1 (z ▸ hdO)
  refine fn_in (f := 101) [("self", .ref p)] hR.room G X B (kk_lookup (by k_is) rfl) (by kernel_rfl) (BindsTo.of_eq rfl) (by kernel_rfl) (by decide +kernel) rfl rfl rfl ?_
  intro env c₁ t₁ O' O₂' he S u u2 sub subO e
  subst he
  have hp := hp.go u e hdT (by simp)
  have hr := hr.up u
  have hl := hl.up u
  obtain ⟨tq, tn, hr'⟩ := id hr
  obtain ⟨vs, l1, l2, l3⟩ := hl.get
  have hpT := hp.ins (O' := T0) S.F.tin hdT
  have hdO' : dx ∈ O' := subO _ hdO
  refine wpAny_execs_cons (plainObj_wpAny_Assign_Attribute (sx_comp0 S (fun k v _ _ => ∃ u, v = .int ((a k).fmod q) u) ?_))
  refine Attribute_any_ (x_name S.F.vars rfl (x_get S.xT hpT ?_ rfl (ok_own220c _)))
  refine ⟨c₁, _, vs.length, _, rfl, S, iter_list hR.1 l1.2 (fun z => l1.1 (S.F.tin _ z)) (by simp) (fun b hb => S.F.low b (S.F.tin b hb)), by rw [sizeLine_eq]; omega, fun _ _ _ _ _ _ e _ => e, ?_, ?_⟩
  · rintro M i v nn' L c₂ t Q' E' hi hP S₂ e₂ u u2 k
    obtain ⟨ui, zi⟩ := l3 i (by omega)
    have hP : v = .int (a i) ui := by rw [zi] at hP; exact (Option.some.inj hP).symm
    subst hP
    have hp₂ : InD O' c₂.h p 220 dx (pf r l) := hp.go (S.up e₂.nil) e₂ hdT (by simp)
    have hpT := hp₂.ins (O' := T0) S.F.tin hdT
    refine wpAny_BinOp (x_name S₂.F.vars rfl (Attribute_any_ (Attribute_any_ (x_name S₂.F.vars rfl (x_get S₂.xT hpT (x_get S₂.X (hr'.up u) (x_mod hq (k c₂ _ _ (Ext.refl ..) ⟨_, rfl⟩)) rfl (ok_own59q _)) rfl (ok_own220p _))))))
  · rintro D c₂ t₂ _ S₂ e₂ u₂ u₂2 hL
    rw [l2] at hL
    have hp₂ : InD O' c₂.h p 220 dx (pf r l) := hp.go u₂ e₂ hdT (by simp)
    refine x_name S₂.F.vars rfl (x_set (W := [dx]) S₂.X.k hp₂ hdT (by simp) (by simp) hpx (fun c₃ t₃ hp sb e₃ _ => ?_) (ok_set220c _))
    have S₃ := S₂.go e₃
    refine wpAny_execs_cons (wpAny_Return_some (x_name S₃.F.vars rfl ?_))
    exact hQ c₃ _ D S₃.F.ext ⟨⟨fun z => hp.ob.1 (subO _ z), hp.ob.2⟩, hp.dc⟩ (Ints.up (O := O₂') hL ((S₂.up2 e₃).trans (Up.less sub)))
end
end Mine
end

section
open PySem PySem.W PySem.Calls PyProof.Rows
set_option Elab.async false
set_option maxRecDepth 100000
set_option linter.unusedSimpArgs false
set_option linter.unusedVariables false
namespace Mine
theorem regM1 : PySem.Challenge.rw_yd0003_04 = PySem.Challenge.rw_yd0003_04 ∧ hd.heap_1 = hd.heap_1 := by k_fill; exact ⟨rfl, rfl⟩
theorem keep_246 (P : Params) : keepIn (KK P) (.ref 246) = true := by kernel_rfl
theorem meth_246 (P : Params) : methOk (KK P) 331 "dim" 246 = true := by kernel_rfl
theorem keep_253 (P : Params) : keepIn (KK P) (.ref 253) = true := by kernel_rfl
theorem meth_253 (P : Params) : methOk (KK P) 331 "_check_dimensions" 253 = true := by kernel_rfl
theorem keep_331 (P : Params) : keepIn (KK P) (.ref 331) = true := by kernel_rfl
theorem keep_357 (P : Params) : keepIn (KK P) (.ref 357) = true := by kernel_rfl
theorem meth_357 (P : Params) : methOk (KK P) 375 "matrix_of" 357 = true := by kernel_rfl

noncomputable abbrev Mat := Nat → Nat → Nat → Int
noncomputable def PolyEl (r : Addr) (n : Nat) (f : Nat → Int) (v : Value) (O : List Addr) (h : Heap) : Prop := ∃ p, v = .ref p ∧ IsPoly O h p r n f
noncomputable def RowEl (r : Addr) (n C : Nat) (f : Nat → Nat → Int) (v : Value) (O : List Addr) (h : Heap) : Prop := ∃ l, v = .ref l ∧ Ls O h l C (fun j v O h => PolyEl r n (f j) v O h)
noncomputable def Data (O : List Addr) (h : Heap) (l : Addr) (R C : Nat) (r : Addr) (n : Nat) (f : Mat) : Prop := Ls O h l R (fun i v O h => RowEl r n C (f i) v O h)
theorem polyEl_up {r n} {f : Nat → Nat → Int} : UpC (fun j v O h => PolyEl r n (f j) v O h) := fun k v O h O' h' ⟨p, e, x⟩ u => ⟨p, e, x.up u⟩
theorem rowEl_up {r n C} {f : Mat} : UpC (fun i v O h => RowEl r n C (f i) v O h) := fun k v O h O' h' ⟨l, e, x⟩ u => ⟨l, e, x.up polyEl_up u⟩
theorem Data.up {O h l R C r n f O' h'} (x : Data O h l R C r n f) (u : Up O h O' h') : Data O' h' l R C r n f := Ls.up x rowEl_up u
theorem Ls.get {O h l n R} (x : Ls O h l n R) {k : Nat} (hk : k < n) : ∃ vs v, Lst O h l vs ∧ vs.length = n ∧ vs[k]? = some v ∧ R k v O h := by
  obtain ⟨vs, a, b, e⟩ := x
  exact ⟨vs, vs[k], a, b, List.getElem?_eq_getElem (by omega), e k _ (List.getElem?_eq_getElem (by omega))⟩
theorem Data.row {O h l R C r n f} (x : Data O h l R C r n f) {i : Nat} (hi : i < R) : ∃ vs lr, Lst O h l vs ∧ vs.length = R ∧ vs[i]? = some (.ref lr) ∧ Ls O h lr C (fun j v O h => PolyEl r n (f i j) v O h) := by
  obtain ⟨vs, v, a, b, e, lr, rfl, y⟩ := x.get hi
  exact ⟨vs, lr, a, b, e, y⟩
theorem Row.at {O h lr C r n} {f : Nat → Nat → Int} (x : Ls O h lr C (fun j v O h => PolyEl r n (f j) v O h)) {j : Nat} (hj : j < C) : ∃ vs p, Lst O h lr vs ∧ vs.length = C ∧ vs[j]? = some (.ref p) ∧ IsPoly O h p r n (f j) := by
  obtain ⟨vs, v, a, b, e, p, rfl, y⟩ := x.get hj
  exact ⟨vs, p, a, b, e, y⟩
noncomputable def IsMod (O : List Addr) (h : Heap) (md r : Addr) : Prop := Ins O h md 375 [("ring", .ref r)]
noncomputable abbrev mf (md ld : Addr) (tr : Bool) : List (Str × Value) := [("parent", .ref md), ("_data", .ref ld), ("_transpose", .bool tr)]
noncomputable def turn (tr : Bool) (f : Mat) : Mat := if tr then fun a b => f b a else f
structure MatAt (O : List Addr) (h : Heap) (m md r : Addr) (n high wide : Nat) (f : Mat) (ld : Addr) (tr : Bool) : Prop where
  ins : Ins O h m 331 (mf md ld tr)
  data : Data O h ld (if tr then wide else high) (if tr then high else wide) r n (turn tr f)
noncomputable def IsMat (O : List Addr) (h : Heap) (m md r : Addr) (n high wide : Nat) (f : Mat) : Prop := ∃ ld tr, MatAt O h m md r n high wide f ld tr
theorem MatAt.up {O h m md r n high wide f ld tr O' h'} (x : MatAt O h m md r n high wide f ld tr) (u : Up O h O' h') : MatAt O' h' m md r n high wide f ld tr := ⟨x.ins.up u, x.data.up u⟩
theorem IsMat.up {O h m md r n high wide f O' h'} (x : IsMat O h m md r n high wide f) (u : Up O h O' h') : IsMat O' h' m md r n high wide f := let ⟨a, b, c⟩ := x; ⟨a, b, c.up u⟩
theorem IsMod.up {O h md r O' h'} (x : IsMod O h md r) (u : Up O h O' h') : IsMod O' h' md r := Ins.up x u

section
variable {prog : Program} {w : World} {A : Around} {E : Value → Shared → Prop} {c : Cr} {hp : Heap} {g : Array GenState} {d : Drawn} {t : Nat} {os : OsState} {O O₂ : List Addr} {R : Result → Shared → Prop}
set_option maxHeartbeats 1000000 in
theorem dim_spec {m md r : Addr} {n high wide : Nat} {f : Mat} (hR : Rm 2 A) (G : Gd T0 [] O c.h) (B : Bg O O₂ c.h) (X : Wd w.params O c.h) (hm : IsMat O c.h m md r n high wide f) (h1 : 1 ≤ high) (h2 : 1 ≤ wide) (h3 : high ≤ 1000) (h4 : wide ≤ 1000)
    (hQ : ∀ c' t' tp u1 u2, Ext T0 [] c c' → Tup O₂ c'.h tp [.int high u1, .int wide u2] → R (.ok (.ret (.ref tp))) ⟨c'.h, c'.g, d, t', os⟩) :
    codeAny (model prog w) A (.call (.ref 246) ⟨[.ref m], []⟩) R ⟨c.h, c.g, d, t, os⟩ := by
  refine fn_in (f := 246) [("self", .ref m)] hR.room G X B (kk_lookup (by k_is) rfl) (by kernel_rfl) (BindsTo.of_eq rfl) (by kernel_rfl) (by decide +kernel) rfl rfl rfl ?_
  intro env c₁ t₁ O' O₂' he S u u2 sub subO e
  subst he
  obtain ⟨ld, tr, hi, hd⟩ := hm.up u
  refine wpAny_execs_cons (wpAny_If (isTrue_not (isTrue_plain (Attribute_any_ (x_name S.F.vars rfl (x_get S.X hi (x_truth ?_) rfl (ok_own331t _)))))))
  cases tr with
  | false =>
    obtain ⟨vs, lr, a1, a2, a3, a4⟩ := hd.row (i := 0) (by simp; omega)
    obtain ⟨ws, b1, b2, _⟩ := a4
    simp only [Bool.false_eq_true, if_false] at a2 b2
    refine ifTrue rfl ?_
    refine wpAny_execs_cons (wpAny_Return_some (x_tuple (args_cons (Call_ (bi_name S.X (nb_len _) (bb_len _) (cwB1 (Attribute_any_ (x_name S.F.vars rfl (x_get S.X hi (x_len a1.2 (by omega) ?_) rfl (ok_own331d _))))))))))
    refine args_cons (Call_ (bi_name S.X (nb_len _) (bb_len _) (cwB1 (Subscript_ (Attribute_any_ (x_name S.F.vars rfl (x_get S.X hi (x_int (x_item a1.2 (by decide) (by decide) a3 (x_len b1.2 (by omega) ?_))) rfl (ok_own331d _))))))))
    refine args_nil ⟨c₁, _, rfl, Nat.le_of_ble_eq_true rfl, fun c₂ tp e₂ htp hn => ?_⟩
    rw [a2, b2] at htp
    exact hQ c₂ _ tp _ _ (S.go (e₂ _ _)).F.ext ⟨fun z => S.B.off hn (sub _ z), htp⟩
  | true =>
    obtain ⟨vs, lr, a1, a2, a3, a4⟩ := hd.row (i := 0) (by simp; omega)
    obtain ⟨ws, b1, b2, _⟩ := a4
    simp only [if_true] at a2 b2
    refine ifFalse rfl ?_
    refine wpAny_execs_cons (wpAny_Return_some (x_tuple (args_cons (Call_ (bi_name S.X (nb_len _) (bb_len _) (cwB1 (Subscript_ (Attribute_any_ (x_name S.F.vars rfl (x_get S.X hi (x_int (x_item a1.2 (by decide) (by decide) a3 (x_len b1.2 (by omega) ?_))) rfl (ok_own331d _)))))))))))
    refine args_cons (Call_ (bi_name S.X (nb_len _) (bb_len _) (cwB1 (Attribute_any_ (x_name S.F.vars rfl (x_get S.X hi (x_len a1.2 (by omega) ?_) rfl (ok_own331d _)))))))
    refine args_nil ⟨c₁, _, rfl, Nat.le_of_ble_eq_true rfl, fun c₂ tp e₂ htp hn => ?_⟩
    rw [a2, b2] at htp
    exact hQ c₂ _ tp _ _ (S.go (e₂ _ _)).F.ext ⟨fun z => S.B.off hn (sub _ z), htp⟩
theorem check_spec {m ld : Addr} {fs : List (Str × Value)} {r : Addr} {n RR C : Nat} {f : Mat} (hR : Rm 2 A) (G : Gd T0 [] O c.h) (X : Wd w.params O c.h) (hi : Ins O c.h m 331 fs) (hf : fs.lookup (Str.ofString "_data") = some (Value.ref ld)) (hd : Data O c.h ld RR C r n f) (h3 : RR ≤ 1000) (h4 : C ≤ 1000)
    (hQ : ∀ c' t', Ext T0 [] c c' → R (.ok (.ret (.bool true))) ⟨c'.h, c'.g, d, t', os⟩) :
    codeAny (model prog w) A (.call (.ref 253) ⟨[.ref m], []⟩) R ⟨c.h, c.g, d, t, os⟩ := by
  refine fn_in (f := 253) [("self", .ref m)] hR.room G X (O₂ := O) ⟨fun _ h => h, G.low⟩ (kk_lookup (by k_is) rfl) (by kernel_rfl) (BindsTo.of_eq rfl) (by kernel_rfl) (by decide +kernel) rfl rfl rfl ?_
  intro env c₁ t₁ O' O₂' he S u u2 sub subO e
  subst he
  have hi := hi.up u
  have hd := hd.up u
  obtain ⟨vs, a1, a2, a3⟩ := id hd
  refine wpAny_execs_cons (sx_for S [] (fun i mm _ h => mm "self" = some (.ref m)) ?_)
  refine Attribute_any_ (x_name S.F.vars rfl (x_get S.X hi ?_ hf (ok_own331d _)))
  refine ⟨c₁, _, vs.length, _, rfl, S, iter_list hR.1 a1.2 (fun z => a1.1 (S.F.tin _ z)) a1.1 (fun b hb => S.F.low b (S.F.tin b hb)), by simp, fun i mm O h O' h' a _ k => a, rfl, ?_, ?_⟩
  · rintro I i v c₂ mm t R' E' hI hIO hIe hj hP S₂ u u2 ns k
    have hi := hi.up u
    have hd := hd.up u
    obtain ⟨vs', lr, b1, b2, b3, b4⟩ := hd.row (i := i) (by omega)
    obtain ⟨vs0, lr0, z1, z2, z3, z4⟩ := hd.row (i := 0) (by omega)
    obtain ⟨ws, y1, y2, _⟩ := b4
    obtain ⟨ws0, x1, x2, _⟩ := z4
    have same : vs' = vs := by
      obtain ⟨k1, e1⟩ := b1.2
      obtain ⟨k2, e2⟩ := (a1.up u).2
      rw [e1] at e2
      injection e2 with e2; injection e2 with _ _ e3; injection e3 with e4; simpa using e4
    rw [same] at b3
    rw [b3] at hP
    obtain rfl : v = .ref lr := (Option.some.inj hP).symm
    refine wpAny_execs_cons (wpAny_If (wpAny_isTrue_Compare1 (Call_ (bi_name S₂.X (nb_len _) (bb_len _) (cwB1 (x_name S₂.F.vars rfl (x_len y1.2 (by omega) ?_)))))))
    refine Call_ (bi_name S₂.X (nb_len _) (bb_len _) (cwB1 (Subscript_ (Attribute_any_ (x_name S₂.F.vars ns (x_get S₂.X hi (x_int (x_item z1.2 (by decide) (by decide) z3 (x_len x1.2 (by omega) (x_ne (x_truth ?_))))) hf (ok_own331d _)))))))
    refine ifFalse (by simp [y2, x2]) (wpAny_execs_nil (wpAny_execs_nil (k c₂ _ _ S₂ (fun _ _ x => x) ns)))
  · rintro c₂ t₂ mm S₂ u u2 ns
    exact wpAny_execs_cons (wpAny_Return_some (x_bool (hQ c₂ _ S₂.F.ext)))
end
end Mine
end

section
open PySem PySem.W PySem.Calls PyProof.Rows
set_option Elab.async false
set_option maxRecDepth 100000
set_option linter.unusedSimpArgs false
set_option linter.unusedVariables false
namespace Mine
theorem regM2 : PySem.Challenge.rw_yd0003_04 = PySem.Challenge.rw_yd0003_04 ∧ hd.heap_1 = hd.heap_1 := by k_fill; exact ⟨rfl, rfl⟩
section
variable {prog : Program} {w : World} {A : Around} {E : Value → Shared → Prop} {c : Cr} {hp : Heap} {g : Array GenState} {d : Drawn} {t : Nat} {os : OsState} {O O₂ : List Addr} {R : Result → Shared → Prop}
set_option maxHeartbeats 1000000 in
theorem matinit_spec {m md ld dx r : Addr} {tr : Bool} {n RR C : Nat} {f : Mat} (hR : Rm 4 A) (G : Gd T0 [dx] O c.h) (X : Wd w.params O c.h) (hm : InD O c.h m 331 dx []) (hd : Data O c.h ld RR C r n f) (h3 : RR ≤ 1000) (h4 : C ≤ 1000)
    (hQ : ∀ c' t', Ext T0 [dx] c c' → InD O c'.h m 331 dx (mf md ld tr) → R (.ok (.ret .none)) ⟨c'.h, c'.g, d, t', os⟩) :
    codeAny (model prog w) A (.call (.ref 239) ⟨[.ref m, .ref md, .ref ld], [("transpose", .bool tr)]⟩) R ⟨c.h, c.g, d, t, os⟩ := by
  have hdT := (G.win dx (by simp)).2
  have hdO := (G.win dx (by simp)).1
  obtain ⟨odx, edx⟩ := G.low dx hdO
  have hpx : m ≠ dx := fun z => hm.ob.1 (z ▸ hdO)
  refine fn_in (f := 239) [("self", .ref m), ("parent", .ref md), ("matrix_data", .ref ld), ("transpose", .bool tr)] hR.room G X (O₂ := O) ⟨fun _ h => h, G.low⟩ (kk_lookup (by k_is) rfl) (by kernel_rfl) ?_ (by kernel_rfl) (by decide +kernel) rfl rfl rfl ?_
  · exact binds_K (K := KK w.params) (s := ⟨c.h, c.g, d, t, os⟩) X.k rfl (kk_lookup (a := 232) (by k_is) rfl) rfl rfl rfl
  intro env c₁ t₁ O' O₂' he S u u2 sub subO e
  subst he
  have hm := hm.go u e hdT (by simp)
  have hd := hd.up u
  refine wpAny_execs_cons (plainObj_wpAny_Assign_Attribute (x_name S.F.vars rfl (x_name S.F.vars rfl (x_set (W := [dx]) S.X.k hm hdT (by simp) (by decide) hpx (fun c₂ t₂ hm sb e₂ _ => ?_) (ok_set331p _)))))
  have S₂ := S.go e₂
  refine wpAny_execs_cons (plainObj_wpAny_Assign_Attribute (x_name S₂.F.vars rfl (x_name S₂.F.vars rfl (x_set (W := [dx]) S₂.X.k hm hdT (by simp) (Nat.le_of_ble_eq_true rfl) hpx (fun c₃ t₃ hm sb e₃ _ => ?_) (ok_set331d _)))))
  have S₃ := S₂.go e₃
  refine wpAny_execs_cons (plainObj_wpAny_Assign_Attribute (x_name S₃.F.vars rfl (x_name S₃.F.vars rfl (x_set (W := [dx]) S₃.X.k hm hdT (by simp) (Nat.le_of_ble_eq_true rfl) hpx (fun c₄ t₄ hm sb e₄ _ => ?_) (ok_set331t _)))))
  have S₄ := S₃.go e₄
  have hd := ((hd.up (S.up e₂)).up (S₂.up e₃)).up (S₃.up e₄)
  have hmT := hm.ins (O' := T0) S₄.F.tin hdT
  refine wpAny_execs_cons (wpAny_If (isTrue_not (isTrue_plain (MethodCall_ (x_name S₄.F.vars rfl (x_getM S₄.xT hmT (cwK0 (keep_253 _) S₄.X.k (wpAny_call (check_spec (hR.deeper.mono (by decide)) S₄.gdT S₄.xT hmT rfl (hd.up S₄.uT) h3 h4 fun c₅ t₅ e₅ => ?_))) rfl (meth_253 _)))))))
  have S₅ := S₄.go (e₅.wide (by simp))
  have hm : InD O' c₅.h m 331 dx (mf md ld tr) := hm.go (S₄.up (e₅.wide (by simp))) e₅ hdT (by simp)
  refine x_truth (ifFalse rfl (wpAny_execs_nil (wpAny_execs_nil ?_)))
  exact hQ c₅ _ S₅.F.ext ⟨⟨fun z => hm.ob.1 (subO _ z), hm.ob.2⟩, hm.dc⟩
end
end Mine
end

section
open PySem PySem.W PySem.Calls PyProof.Rows
set_option Elab.async false
set_option maxRecDepth 100000
set_option linter.unusedSimpArgs false
set_option linter.unusedVariables false
namespace Mine
noncomputable def crS (s : Shared) : Cr := ⟨s.heap, s.gens⟩
/-- what the one who asks may have done meanwhile -/
noncomputable def Res (T M : List Addr) (c₁ : Cr) (c' c'' : Cr) : Prop := ∃ V, Ext T V c' c'' ∧ ∀ b ∈ V, b ∉ M ∧ c₁.h.get? b = none
noncomputable def gR (T WG : List Addr) (d : Drawn) (os : OsState) : GenEnd := fun n s₀ r s₁ => r = .ok .next ∧ (n = 0 ∧ ∃ cb h' t', s₁ = ⟨h', cb.g, d, t', os⟩ ∧ Ext T WG (crS s₀) cb ∧ ∀ b o, b ∉ WG → cb.h.get? b = some o → h'.get? b = some o)
noncomputable def gP (T WG : List Addr) (d : Drawn) (os : OsState) : Nat → Shared → Shared → Prop := fun n s₀ s₁ => n = 0 ∧ ∃ cb h' t', s₁ = ⟨h', cb.g, d, t', os⟩ ∧ Ext T WG (crS s₀) cb ∧ ∀ b o, b ∉ WG → cb.h.get? b = some o → h'.get? b = some o
noncomputable def gY (T WG M O₂ : List Addr) (d : Drawn) (os : OsState) (c₁ : Cr) (n : Nat) (El : Nat → Value → List Addr → Heap → Prop) : Protocol := fun m s₀ v s kap =>
  ∃ c' t' i, s = ⟨c'.h, c'.g, d, t', os⟩ ∧ Ext T WG (crS s₀) c' ∧ i < n ∧ m = n - 1 - i ∧ El i v (M ++ O₂) c'.h ∧ ∀ c'' t'', Res T M c₁ c' c'' → kap (.send .none) ⟨c''.h, c''.g, d, t'', os⟩
theorem Rm.over {k : Nat} {A : Around} {c : Code} (h : Rm (k + 1) A) (h1 : c.weight ≤ 20) (h2 : c.cUnits ≤ 100) : Rm k (A.over c []) :=
  ⟨h.1, by have := h.2.1; show A.depth + 0 + c.weight + 20 * k < 1000; omega, by have := h.2.2; show A.units + 0 + c.cUnits + 100 * k < 9900; omega⟩
section
variable {prog : Program} {w : World} {A : Around} {c₀ c₁ : Cr} {d : Drawn} {os : OsState} {genv : Env} {m0 : Str → Option Value} {T W O O₂ M : List Addr}
theorem gen_loop {elt iter : Expr} {x : Str} {px : Pos} {scope : Scope} {pos : Pos} {I C : Addr} {fp : List Addr} {n kk : Nat} {P : Nat → Value → Prop} {St : Nat → Heap → Prop} (El : Nat → Value → List Addr → Heap → Prop)
    (hA : Rm (kk + 1) A) (W₀ : ∀ A' : Around, A'.handled = none → Walks prog w A' I fp [I] n P St) (hIo : ∀ i h, St i h → ∃ o, h.get? I = some o)
    (hx : isVar genv x = true) (hxf : (genv.kindOf x == some .free) = false) (hxC : ∀ a, Loc genv x a → a = C) (hco : genv.scope.isCoroutine = false)
    (hIM : I ∈ M) (hCM : C ∈ M) (hown : ∀ b ∈ ownOf genv, b ∈ M) (hCown : C ∈ ownOf genv) (hIo' : I ∉ ownOf genv) (hC₀I : c₀.h.get? I = none) (hIT : I ∉ T) (hCT : C ∉ T) (hI1 : c₁.h.get? I = none) (hC1 : c₁.h.get? C = none)
    (hfp : ∀ b ∈ fp, b = I ∨ ((∃ o, c₁.h.get? b = some o) ∧ b ∉ T)) (hMc : ∀ b ∈ M, c₁.h.get? b = none ∨ b ∈ O) (hTO : ∀ b ∈ T, b ∈ O) (hTO₂ : ∀ b ∈ T, b ∈ O₂) (hsubO : ∀ b ∈ O, b ∈ O₂) (hlow1 : Low O c₁.h) (hnew1 : ∀ b, c₁.h.get? b = none → c₀.h.get? b = none)
    (turn : ∀ A' i v c t Q' E', Rm kk A' → i < n → P i v → Fx T W c₀ c (M ++ O) genv (upd m0 x v) → Up O c₁.h (M ++ O) c.h → Up O₂ c₁.h (M ++ O₂) c.h → Low O₂ c.h →
      (∀ c' t' y, Ext T [] c c' → El i y (M ++ O₂) c'.h → Q' y ⟨c'.h, c'.g, d, t', os⟩) → wpAny (model prog w) A' (eval elt genv) Q' E' ⟨c.h, c.g, d, t, os⟩) :
    ∀ (k i : Nat) (s₀ : Shared) (c : Cr) (t : Nat) (mm : Str → Option Value), n - i = k → i ≤ n → Fx T W c₀ c (M ++ O) genv mm → (∀ v, upd mm x v = upd m0 x v) → St i c.h → Up O c₁.h (M ++ O) c.h → Up O₂ c₁.h (M ++ O₂) c.h → Low O₂ c.h → Ext T [C, I] (crS s₀) c →
      Seg (model prog w) A (gR T [C, I] d os) (gY T [C, I] M O₂ d os c₁ n El) (n - i) s₀ (.compLoop (.GeneratorExp elt [⟨.Name x px, iter, [], 0⟩] scope pos) 0 (.ref I) .none genv)
        ((model prog w).den (.compLoop (.GeneratorExp elt [⟨.Name x px, iter, [], 0⟩] scope pos) 0 (.ref I) .none genv)) [] ⟨c.h, c.g, d, t, os⟩ := by
  have hov : Rm kk (A.over (.compLoop (.GeneratorExp elt [⟨.Name x px, iter, [], 0⟩] scope pos) 0 (.ref I) .none genv) []) := hA.over (Nat.le_of_ble_eq_true rfl) (Nat.le_of_ble_eq_true rfl)
  have hCI : C ≠ I := fun q => hIo' (q ▸ hCown)
  have hWG : ∀ b ∈ [C, I], (c₀.h.get? b = none ∨ b ∈ W) ∧ b ∈ M ++ O ∧ c₁.h.get? b = none := fun b hb => by
    simp at hb
    rcases hb with rfl | rfl
    · exact ⟨.inl (hnew1 _ hC1), List.mem_append_left _ hCM, hC1⟩
    · exact ⟨.inl hC₀I, List.mem_append_left _ hIM, hI1⟩
  have upOf : ∀ cc c3 : Cr, Up O c₁.h (M ++ O) cc.h → Ext T [C, I] cc c3 → Up O c₁.h (M ++ O) c3.h := fun cc c3 u e b o q => by
    obtain ⟨q1, q2⟩ := u b o q
    exact ⟨q1, e.heap b o (fun z => q.1 (hTO b z)) (fun z => q1 (hWG b z).2.1) q2⟩
  have upOf2 : ∀ cc c3 : Cr, Up O₂ c₁.h (M ++ O₂) cc.h → Ext T [C, I] cc c3 → Up O₂ c₁.h (M ++ O₂) c3.h := fun cc c3 u e b o q => by
    obtain ⟨q1, q2⟩ := u b o q
    refine ⟨q1, e.heap b o (fun z => q.1 (hTO₂ b z)) (fun z => ?_) q2⟩
    have := (hWG b z).2.2
    rw [q.2] at this; cases this
  have fpKeep : ∀ (cc c3 : Cr) V, Ext T V cc c3 → I ∉ V → (∀ b ∈ V, b = C ∨ c₁.h.get? b = none) → ∀ b ∈ fp, ∀ o, cc.h.get? b = some o → c3.h.get? b = some o := fun cc c3 V e hIV hV b hb o q => by
    rcases hfp b hb with rfl | ⟨⟨o', q'⟩, hT⟩
    · exact e.heap _ o hIT hIV q
    · refine e.heap b o hT (fun z => ?_) q
      rcases hV b z with rfl | z
      · rw [hC1] at q'; cases q'
      · rw [q'] at z; cases z
  intro k
  induction k with
  | zero =>
    intro i s₀ c t mm hk hi F hmm st u u2 lw e
    obtain rfl : i = n := by omega
    rw [Nat.sub_self]
    show Seg _ A _ _ _ s₀ _ ((compTurn (.GeneratorExp elt [⟨.Name x px, iter, [], 0⟩] scope pos) 0 (.ref I) .none genv).onRaise (leaving genv)) [] _
    rw [compTurn_gen, Sem.onRaise_eq_wrap]
    refine seg_bind_wrap (wpAny_standAt ?_)
    refine seg_bind_wrap ((W₀ _ hov.1).done _ _ _ st fun h' tk hk' => ?_)
    exact seg_end (.ok .next) ⟨rfl, rfl, c, h', tk, rfl, e, fun b o hb q => hk' b o (fun z => hb (.tail _ z)) q⟩
  | succ k ih =>
    intro i s₀ c t mm hk hi F hmm st u u2 lw e
    have hlt : i < n := by omega
    rw [hk]
    show Seg _ A _ _ _ s₀ _ ((compTurn (.GeneratorExp elt [⟨.Name x px, iter, [], 0⟩] scope pos) 0 (.ref I) .none genv).onRaise (leaving genv)) [] _
    rw [compTurn_gen, Sem.onRaise_eq_wrap]
    refine seg_bind_wrap (wpAny_standAt ?_)
    refine seg_bind_wrap ((W₀ _ hov.1).item i _ _ _ hlt st fun v h₁ tk₁ hPv st₁ hk₁ => ?_)
    refine seg_bind_wrap (wpAny_of_eq (rfl : letOwnedTupleGo (.Name x px) (.ref I) v = pure ()) ?_)
    have eI : Ext T [C, I] c ⟨h₁, c.g⟩ := (Ext.butk (W := [I]) (fun b o ne q => hk₁ b o (by simpa using ne) q) hIT (by simp) (hIo _ _ st₁)).wide (by simp)
    have eI' : Ext T [I] c ⟨h₁, c.g⟩ := Ext.butk (fun b o ne q => hk₁ b o (by simpa using ne) q) hIT (by simp) (hIo _ _ st₁)
    have F₁ := (F.goL eI' (fun b hb => by rw [List.mem_singleton.mp hb]; exact ⟨.inl hC₀I, hIo', List.mem_append_left _ hIM⟩)).1
    refine seg_bind_wrap (wpAny_assign_Name (fx_store F₁ (fun c₂ t₂ a hloc F₂ _ e₂ hg₂ => ?_) hx hxf))
    obtain rfl := hxC a hloc
    have e₂' : Ext T [a, I] ⟨h₁, c.g⟩ c₂ := e₂.wide (by simp)
    have u₁ := upOf _ _ u eI
    have u₂ := upOf _ _ u₁ e₂'
    have u₁2 := upOf2 _ _ u2 eI
    have u₂2 := upOf2 _ _ u₁2 e₂'
    have lw₂ : Low O₂ c₂.h := fun b hb => by
      obtain ⟨o, q⟩ := lw b hb
      obtain ⟨o', q'⟩ := eI.there b o q
      exact e₂.there b o' q'
    have st₂ : St (i + 1) c₂.h := (W₀ A hA.1).frame _ _ _ st₁ fun b hb o q => fpKeep ⟨h₁, c.g⟩ c₂ [a] e₂ (by simp; exact Ne.symm hCI) (fun b hb => .inl (by simpa using hb)) b hb o q
    refine seg_bind_wrap (wpAny_of_eq (a := true) rfl ?_)
    simp only [if_true]
    have hy : ∀ v, yieldOut genv v = yieldValue v := fun v => by simp only [yieldOut, hco, Bool.false_eq_true, if_false]
    simp only [hy]
    rw [Sem.bind_eq_wrap', Sem.bind_eq_wrap', Sem.wrap_wrap, Sem.wrap_wrap]
    refine seg_wrap (turn _ i v c₂ t₂ _ _ hov hlt hPv (by rw [← hmm v]; exact F₂) u₂ u₂2 lw₂ fun c₃ t₃ y e₃ hEl => ?_)
    have F₃ := F₂.go e₃.nil
    have st₃ : St (i + 1) c₃.h := (W₀ A hA.1).frame _ _ _ st₂ fun b hb o q => fpKeep c₂ c₃ [] e₃ (by simp) (by simp) b hb o q
    have ee : Ext T [a, I] (crS s₀) c₃ := ((e.trans eI).trans e₂').trans e₃.nil
    refine seg_at (seg_yield rfl rfl rfl ⟨c₃, t₃, i, rfl, ee, hlt, by omega, hEl, fun c₄ t₄ hres => ?_⟩)
    obtain ⟨V, eV, hV⟩ := hres
    have hVo : ∀ b ∈ V, b ∉ ownOf genv := fun b hb q => (hV b hb).1 (hown b q)
    have F₄ : Fx T W c₀ c₄ (M ++ O) genv (upd mm x v) := ⟨F₃.ext.absorb eV fun b hb => .inl (hnew1 b (hV b hb).2), F₃.vars.keeps fun b hb o q => eV.heap b o (F₃.new b hb).2.1 (fun z => hVo b z hb) q, F₃.own, F₃.tin, F₃.win, fun b hb => by
      obtain ⟨o, q⟩ := F₃.low b hb
      exact eV.there b o q, F₃.new, eV.tab F₃.tab⟩
    have st₄ : St (i + 1) c₄.h := (W₀ A hA.1).frame _ _ _ st₃ fun b hb o q => fpKeep c₃ c₄ V eV (fun z => (hV I z).1 hIM) (fun b hb => .inr (hV b hb).2) b hb o q
    have u₃ := upOf _ _ u₂ e₃.nil
    have u₃2 := upOf2 _ _ u₂2 e₃.nil
    have u₄ : Up O c₁.h (M ++ O) c₄.h := fun b o q => by
      obtain ⟨q1, q2⟩ := u₃ b o q
      exact ⟨q1, eV.heap b o (fun z => q.1 (hTO b z)) (fun z => by have := (hV b z).2; rw [q.2] at this; cases this) q2⟩
    have u₄2 : Up O₂ c₁.h (M ++ O₂) c₄.h := fun b o q => by
      obtain ⟨q1, q2⟩ := u₃2 b o q
      exact ⟨q1, eV.heap b o (fun z => q.1 (hTO₂ b z)) (fun z => by have := (hV b z).2; rw [q.2] at this; cases this) q2⟩
    have := ih (i + 1) ⟨c₄.h, c₄.g, d, t₄, os⟩ c₄ t₄ (upd mm x v) (by omega) hlt F₄ (fun v' => ?_) st₄ u₄ u₄2 (fun b hb => by
      obtain ⟨o, q⟩ := lw₂ b hb
      obtain ⟨o', q'⟩ := e₃.there b o q
      exact eV.there b o' q') (Ext.refl ..)
    · rw [show n - (i + 1) = k by omega] at this
      exact seg_again rfl this
    · funext z
      by_cases q : z = x
      · simp [upd, q]
      · have := congrFun (hmm v') z
        simpa [upd, q] using this
theorem gen_start {elt iter : Expr} {x : Str} {px : Pos} {scope : Scope} {pos : Pos} {I : Addr} {fp : List Addr} {n : Nat} {P : Nat → Value → Prop} {St : Nat → Heap → Prop} {R : GenEnd} {Y : Protocol} {s₀ : Shared} {c : Cr} {t k : Nat}
    (hh : A.handled = none) (W₀ : ∀ A' : Around, A'.handled = none → Walks prog w A' I fp [I] n P St) (st : St 0 c.h)
    (loop : Seg (model prog w) A R Y k s₀ (.compLoop (.GeneratorExp elt [⟨.Name x px, iter, [], 0⟩] scope pos) 0 (.ref I) .none genv)
        ((model prog w).den (.compLoop (.GeneratorExp elt [⟨.Name x px, iter, [], 0⟩] scope pos) 0 (.ref I) .none genv)) [] ⟨c.h, c.g, d, t, os⟩) :
    Seg (model prog w) A R Y k s₀ (.compStart (.GeneratorExp elt [⟨.Name x px, iter, [], 0⟩] scope pos) 0 (.ref I) .none genv)
      ((model prog w).den (.compStart (.GeneratorExp elt [⟨.Name x px, iter, [], 0⟩] scope pos) 0 (.ref I) .none genv)) [] ⟨c.h, c.g, d, t, os⟩ := by
  have hh' : (A.over (.compStart (.GeneratorExp elt [⟨.Name x px, iter, [], 0⟩] scope pos) 0 (.ref I) .none genv) []).handled = none := hh
  show Seg _ A _ _ _ s₀ _ ((compStart (.GeneratorExp elt [⟨.Name x px, iter, [], 0⟩] scope pos) 0 (.ref I) .none genv).onRaise (leaving genv)) [] _
  unfold compStart
  rw [Sem.onRaise_eq_wrap]
  show Seg _ A _ _ _ s₀ _ ((ask >>= _).wrap _ _ _ _) [] _
  refine seg_bind_wrap (wpAny_askSetting ?_)
  split
  · exact seg_again rfl loop
  · first
      | exact seg_bind_wrap (wpAny_rule (seg_bind_wrap (wpAny_standAt (seg_bind_wrap ((W₀ _ hh').self 0 _ _ _ st (seg_again rfl loop))))))
      | (refine seg_bind_wrap (wpAny_rule ?_); show Seg _ A _ _ _ s₀ _ ((standAt iter.pos >>= _).wrap _ _ _ _) [] _; exact seg_bind_wrap (wpAny_standAt (seg_bind_wrap ((W₀ _ hh').self 0 _ _ _ st (seg_again rfl loop)))))
end

/-! a generator that stands ready -/
noncomputable def setR (g : Array GenState) (k : Nat) (x : GenState) : Array GenState := g.setIfInBounds k x
structure Ready (prog : Program) (w : World) (A : Around) (T M O₂ : List Addr) (d : Drawn) (os : OsState) (c₁ : Cr) (n : Nat) (El : Nat → Value → List Addr → Heap → Prop) (C I a : Addr) (k i : Nat) (c : Cr) : Prop where
  gen : c.h.IsGen a k
  lim : c.h.NoLimit
  go : ∃ gs, c.g[k]? = some gs ∧ gs.bare = true ∧ ∀ c'' t'', Res T M c₁ ⟨c.h, setR c.g k .running⟩ c'' → gs.Goes (model prog w) A.in1 (gR T [C, I] d os) (gY T [C, I] M O₂ d os c₁ n El) (n - i) (.send .none) ⟨c''.h, c''.g, d, t'', os⟩
/-- all but the generator's place and its own things stand -/
structure Nx (T WG : List Addr) (k : Nat) (c c' : Cr) : Prop where
  heap : ∀ b o, b ∉ T → b ∉ WG → c.h.get? b = some o → c'.h.get? b = some o
  gens : ∀ (j : Nat) (y : GenState), j ≠ k → c.g[j]? = some y → c'.g[j]? = some y
  bare : AllBare c.g → AllBare c'.g
  tab : Tab T c.h → Tab T c'.h
theorem setR_get {g : Array GenState} {k j : Nat} {x : GenState} : (setR g k x)[j]? = if j = k then (g[j]?).map (fun _ => x) else g[j]? := by
  unfold setR
  rw [Array.getElem?_setIfInBounds]
  by_cases q : k = j
  · subst q
    rw [if_pos rfl, if_pos rfl]
    split
    · rename_i h; rw [Array.getElem?_eq_getElem h]; rfl
    · rename_i h; rw [Array.getElem?_eq_none (by omega)]; rfl
  · rw [if_neg q, if_neg (Ne.symm q)]
theorem setR_bare {g : Array GenState} {k : Nat} {x : GenState} (hx : x.bare = true) (h : AllBare g) : AllBare (setR g k x) := fun y hy => by
  unfold setR at hy
  rcases Array.mem_or_eq_of_mem_setIfInBounds hy with q | q
  · exact h y q
  · rw [q]; exact hx
theorem setR_bare' {g : Array GenState} {k : Nat} {x : GenState} (hb : ∀ y, g[k]? = some y → y.bare = true) (h : AllBare (setR g k x)) : AllBare g := fun y hy => by
  obtain ⟨j, hj, e⟩ := Array.mem_iff_getElem.mp hy
  have e' : g[j]? = some y := by rw [Array.getElem?_eq_getElem hj, e]
  by_cases q : j = k
  · exact hb y (q ▸ e')
  · have : (setR g k x)[j]? = some y := by rw [setR_get, if_neg q, e']
    exact h y (Array.mem_of_getElem? this)
theorem Ext.setR {T V c c'} (e : Ext T V c c') {k : Nat} {x : GenState} (hx : x.bare = true) (hb : ∀ y, c.g[k]? = some y → y.bare = true) : Ext T V ⟨c.h, setR c.g k x⟩ ⟨c'.h, setR c'.g k x⟩ :=
  ⟨e.heap, e.there, e.tab, fun j y q => by
    rw [setR_get] at q ⊢
    split at q
    · rename_i hj
      rw [if_pos hj]
      cases z : c.g[j]? with
      | none => rw [z] at q; cases q
      | some y' => rw [e.gens.1 j y' z]; rw [z] at q; exact q
    · rename_i hj
      rw [if_neg hj]; exact e.gens.1 j y q, fun h => setR_bare hx (e.gens.2 (setR_bare' hb h))⟩

section
variable {prog : Program} {w : World} {A : Around} {E : Value → Shared → Prop} {c₁ : Cr} {d : Drawn} {os : OsState} {T O₂ M : List Addr} {n : Nat} {El : Nat → Value → List Addr → Heap → Prop} {C I a : Addr} {k : Nat}
theorem Ready.go_on {i : Nat} {c c' : Cr} {V : List Addr} (r : Ready prog w A T M O₂ d os c₁ n El C I a k i c) (e : Ext T V c c') (hV : ∀ b ∈ V, b ∉ M ∧ c₁.h.get? b = none) (haM : a ∈ M) (haT : a ∉ T) (hl : c'.h.NoLimit) : Ready prog w A T M O₂ d os c₁ n El C I a k i c' := by
  obtain ⟨g1, g2, gs, g3, g4, g5⟩ := r
  refine ⟨?_, hl, gs, e.gens.1 k gs g3, g4, fun c'' t'' ⟨V', e', hV'⟩ => g5 c'' t'' ⟨V ++ V', ?_, fun b hb => ?_⟩⟩
  · obtain ⟨o, nm, qn, ho, r⟩ := g1
    exact ⟨o, nm, qn, e.heap a o haT (fun q => (hV a q).1 haM) ho, r⟩
  · have e1 := e.setR (k := k) (x := .running) rfl fun y hy => by rw [g3] at hy; cases hy; exact g4
    exact (e1.wide fun b hb => List.mem_append_left _ hb).trans (e'.wide fun b hb => List.mem_append_right _ hb)
  · rcases List.mem_append.mp hb with q | q
    · exact hV b q
    · exact hV' b q

theorem Ready.next {i : Nat} {c : Cr} {t : Nat} {Q : Option Value → Shared → Prop} (r : Ready prog w A T M O₂ d os c₁ n El C I a k i c) (hh : A.handled = none) (hroom : A.depth < recursionLimit) (hi : i < n) (haT : a ∉ T) (haW : a ∉ [C, I]) (hks : k < c.g.size)
    (hl : ∀ c', Nx T [C, I] k c c' → (∀ b o, c.h.get? b = some o → ∃ o', c'.h.get? b = some o') → c'.h.NoLimit)
    (hQ : ∀ c' t' v, Nx T [C, I] k c c' → (∀ b o, c.h.get? b = some o → ∃ o', c'.h.get? b = some o') → El i v (M ++ O₂) c'.h → Ready prog w A T M O₂ d os c₁ n El C I a k (i + 1) c' → Q (some v) ⟨c'.h, c'.g, d, t', os⟩) :
    wpAny (model prog w) A (pyNext (.ref a)) Q E ⟨c.h, c.g, d, t, os⟩ := by
  obtain ⟨g1, g2, gs, g3, g4, g5⟩ := r
  obtain ⟨mm, hm⟩ : ∃ mm, n - i = mm + 1 := ⟨n - i - 1, by omega⟩
  rw [hm] at g5
  refine wpAny_pyNext_genexpQ (s := ⟨c.h, c.g, d, t, os⟩) (P := gP T [C, I] d os) hh g2 hroom g1 g3 (g5 ⟨c.h, setR c.g k .running⟩ t ⟨[], Ext.refl .., by simp⟩) (fun v s₁ gs' hb hv => ?_) (fun s₁ hp => ?_)
  · obtain ⟨c', t', j, rfl, e, hj, hjm, hEl, hres⟩ := hv
    have e : Ext T [C, I] ⟨c.h, setR c.g k .running⟩ c' := e
    have hji : j = i := by omega
    subst hji
    have nx : Nx T [C, I] k c ⟨c'.h, setR c'.g k gs'⟩ := ⟨e.heap, fun jj y hj q => by
      rw [setR_get, if_neg hj]
      exact e.gens.1 jj y (by rw [setR_get, if_neg hj]; exact q), fun h => setR_bare hb (e.gens.2 (setR_bare rfl h)), e.tab⟩
    have hrun : c'.g[k]? = some .running := e.gens.1 k .running (by rw [setR_get, if_pos rfl, Array.getElem?_eq_getElem hks]; rfl)
    refine hQ ⟨c'.h, setR c'.g k gs'⟩ t' v nx e.there hEl ⟨?_, hl _ nx e.there, gs', by rw [setR_get, if_pos rfl, hrun]; rfl, hb, fun c'' t'' ⟨V, eV, hV⟩ => ?_⟩
    · obtain ⟨o, nm, qn, ho, r⟩ := g1
      exact ⟨o, nm, qn, e.heap a o haT haW ho, r⟩
    · have z := hres c'' t'' ⟨V, ?_, hV⟩
      · have e1 : n - (j + 1) = mm := by omega
        rw [e1]
        exact z
      · refine ⟨eV.heap, eV.there, eV.tab, fun jj y q => eV.gens.1 jj y ?_, fun h => eV.gens.2 (setR_bare rfl (setR_bare hb h))⟩
        show (setR (setR c'.g k gs') k .running)[jj]? = some y
        rw [setR_get, setR_get]
        by_cases hj : jj = k
        · subst hj
          rw [if_pos rfl, if_pos rfl, hrun]
          rw [hrun] at q
          simpa using q
        · rw [if_neg hj, if_neg hj]; exact q
  · exact absurd hp.1 (by omega)

theorem Ready.done {c : Cr} {t : Nat} {Q : Option Value → Shared → Prop} (r : Ready prog w A T M O₂ d os c₁ n El C I a k n c) (hh : A.handled = none) (hroom : A.depth < recursionLimit)
    (hQ : ∀ (c' : Cr) t', (∀ b o, b ∉ T → b ∉ [C, I] → c.h.get? b = some o → c'.h.get? b = some o) → (∀ (j : Nat) (y : GenState), j ≠ k → c.g[j]? = some y → c'.g[j]? = some y) → (AllBare c.g → AllBare c'.g) → (Tab T c.h → (∀ b ∈ T, b ∉ [C, I]) → Tab T c'.h) → (∀ b o, b ∉ [C, I] → c.h.get? b = some o → ∃ o', c'.h.get? b = some o') → Q none ⟨c'.h, c'.g, d, t', os⟩) :
    wpAny (model prog w) A (pyNext (.ref a)) Q E ⟨c.h, c.g, d, t, os⟩ := by
  obtain ⟨g1, g2, gs, g3, g4, g5⟩ := r
  rw [Nat.sub_self] at g5
  refine wpAny_pyNext_genexpQ (s := ⟨c.h, c.g, d, t, os⟩) (P := gP T [C, I] d os) hh g2 hroom g1 g3 (g5 ⟨c.h, setR c.g k .running⟩ t ⟨[], Ext.refl .., by simp⟩) (fun v s₁ gs' hb hv => ?_) (fun s₁ hp h' hk => ?_)
  · obtain ⟨c', t', j, _, _, hj, hjm, _, hres⟩ := hv
    exact False.elim (hres c' t' ⟨[], Ext.refl .., by simp⟩)
  · obtain ⟨_, cb, h₂, t₂, rfl, e, hkb⟩ := hp
    have e : Ext T [C, I] ⟨c.h, setR c.g k .running⟩ cb := e
    refine hQ ⟨h', setR cb.g k .finished⟩ t₂ (fun b o h1 h2 q => hk b o (hkb b o h2 (e.heap b o h1 h2 q))) (fun j y hj q => ?_) (fun h => setR_bare rfl (e.gens.2 (setR_bare rfl h))) (fun ht hd P hP => ?_) (fun b o hb q => ?_)
    · rw [setR_get, if_neg hj]
      exact e.gens.1 j y (by rw [setR_get, if_neg hj]; exact q)
    · obtain ⟨o, q, r⟩ := e.tab ht P hP
      exact ⟨o, hk P _ (hkb P _ (hd P hP) q), r⟩
    · obtain ⟨o', q'⟩ := e.there b o q
      exact ⟨o', hk b o' (hkb b o' hb q')⟩
end
end Mine
end

section
open PySem PySem.W PySem.Calls PyProof.Rows
set_option Elab.async false
set_option maxRecDepth 100000
set_option linter.unusedSimpArgs false
set_option linter.unusedVariables false
namespace Mine
theorem regG2 : PySem.Challenge.rw_yd0003_04 = PySem.Challenge.rw_yd0003_04 ∧ hd.heap_1 = hd.heap_1 := by k_fill; exact ⟨rfl, rfl⟩
noncomputable def IterInU (prog : Program) (w : World) (T V : List Addr) (d : Drawn) (os : OsState) (xv : Value) (c₁ : Cr) (n : Nat) (P : Nat → Value → Prop) : Prop :=
  ∀ (A : Around) (Q E : Value → Shared → Prop) (t : Nat), A.handled = none → (∀ c₂ I fp St, Ext T [] c₁ c₂ → c₁.h.get? I = none → I ∉ T → (∀ A' : Around, A'.handled = none → Walks prog w A' I fp [I] n P St) → (∀ i h, St i h → ∃ o, h.get? I = some o) → St 0 c₂.h → (∀ b ∈ fp, b = I ∨ ((∃ o, c₁.h.get? b = some o) ∧ b ∉ T ∧ b ∉ V)) → c₂.g = c₁.g →
    Q (.ref I) ⟨c₂.h, c₂.g, d, t, os⟩) → wpAny (model prog w) A (pyIter xv) Q E ⟨c₁.h, c₁.g, d, t, os⟩
noncomputable def codeRow (K : Frag) (cA PA : Addr) : Bool := match K.lookup cA with
  | some ⟨oc, _, .fields vs, _⟩ => oc == .type "code" && vs.getD 11 .none == .ref PA && (match vs.getD 18 .none with | .str _ _ => true | _ => false) && (match vs.getD 7 .none with | .int _ _ => true | _ => false) && (match vs.getD 9 .none with | .bool _ => true | _ => false) && (match vs.getD 10 .none with | .int _ _ => true | _ => false) && cA != PA
  | _ => false
theorem codeRow_is {K : Frag} {h : Heap} {cA PA : Addr} {T : List Addr} (X : K.In h) (hr : codeRow K cA PA = true) (ht : Tab T h) (hP : PA ∈ T) : ∃ ps, h.IsCode cA PA ps ∧ h.TableAt cA PA ps := by
  unfold codeRow at hr
  split at hr
  · rename_i oc od vs sl e
    simp only [Bool.and_eq_true, beq_iff_eq, bne_iff_ne, ne_eq] at hr
    obtain ⟨⟨⟨⟨⟨⟨h0, h1⟩, h2⟩, h3⟩, h4⟩, h5⟩, h6⟩ := hr
    obtain ⟨ps, q, r2⟩ := ht PA hP
    have h11 : vs[11]? = some (.ref PA) := by
      rw [Array.getD_eq_getD_getElem?] at h1
      cases z : vs[11]? with
      | none => rw [z] at h1; cases h1
      | some y => rw [z] at h1; exact congrArg some h1
    split at h2
    · rename_i f tf e2
      split at h3
      · rename_i fl tg e3
        split at h4
        · rename_i b e4
          split at h5
          · rename_i tx tt e5
            exact ⟨ps, ⟨_, vs, f, tf, fl, tg, b, tx, tt, _, X _ _ e, rfl, h1, e2, e3, e4, e5, q, rfl, r2, h6⟩, ⟨_, vs, X _ _ e, h0, rfl, h11⟩, q⟩
          · cases h5
        · cases h4
      · cases h3
    · cases h2
  · cases hr
theorem wpAny_gcode {M : Model} {A : Around} {E : Value → Shared → Prop} {s : Shared} {env : Env} {c P : Addr} {ps : Array Value} {pos : Pos} {qualname : Str} {scope : Scope} {Q : Value → Shared → Prop} (hc : env.code = .ref c) (hok : s.heap.IsCode c P ps) (htab : s.heap.TableAt c P ps)
    (hQ : ∀ code h' tk ps', Heap.ExtBut P s.heap h' → h'.IsCode c P ps' → h'.TableAt c P ps' → Q code { s with heap := h', toks := tk }) :
    wpAny M A (genexprCode env pos qualname scope) Q E s := by
  cases hf : codeAmong pos ps.toList with
  | some cv => exact wpAny_genexprCode_hit hc hok hf (hQ cv s.heap s.toks ps (Heap.ExtBut.refl _ _) hok htab)
  | none => exact wpAny_genexprCodeX hc hok htab hf fun c' h' tk he _ _ hcode' _ htab' _ => hQ (.ref c') h' tk _ he hcode' htab'
theorem code_364 (P : Params) : codeRow (KK P) 364 360 = true := by kernel_rfl
theorem code_320 (P : Params) : codeRow (KK P) 320 318 = true := by kernel_rfl
theorem kf_bm (P : Params) : ∃ bm, nsIn (KK P) 3 "__builtins__" = some (some (.ref bm)) ∧ bm = 4 := ⟨4, by kernel_rfl, rfl⟩
theorem kf_4 (P : Params) : ∃ o, (KK P).lookup 4 = some o ∧ o.cls = .type "module" ∧ o.dict = some builtinsNs ∧ o.data = .plain := ⟨_, kk_lookup (by k_is) rfl, rfl, rfl, rfl⟩
section
variable {prog : Program} {w : World} {A : Around} {E : Value → Shared → Prop} {hp : Heap} {g : Array GenState} {d : Drawn} {t : Nat} {os : OsState} {c : Cr} {T V O : List Addr}
theorem x_builtinsFor {running : Addr} {Q : Addr → Shared → Prop} (X : Wd w.params O hp) (h : Q builtinsNs ⟨hp, g, d, t, os⟩) : wpAny (model prog w) A (builtinsFor 3 running) Q E ⟨hp, g, d, t, os⟩ := by
  obtain ⟨mg, G⟩ := X.g
  obtain ⟨bm, e, rfl⟩ := kf_bm w.params
  obtain ⟨o, e1, e2, e3, e4⟩ := kf_4 w.params
  exact wpAny_builtinsFor (s := ⟨hp, g, d, t, os⟩) G (ns_find X.k G e) (by decide) (X.k _ _ e1) e2 e3 e4 h
theorem iter_listU {l : Addr} {vs : List Value} (hl : LsO c.h l vs.toArray) (hT : l ∉ T) (hV : l ∉ V) (hTl : ∀ b ∈ T, ∃ o, c.h.get? b = some o) : IterInU prog w T V d os (.ref l) c vs.length (fun i v => vs[i]? = some v) := by
  intro A Q E t hh hQ
  obtain ⟨o, e⟩ := list_get hl
  have ne : l ≠ c.h.objs.size := ne_of_none size_none e
  have hl₂ : (c.h.push { cls := .type "list_iterator", data := .fields #[.ref l, .int 0 0] }).IsList l vs.toArray := hl.isL.push _
  refine wpAny_pyIter_list hl.isL (hQ ⟨c.h.push { cls := .type "list_iterator", data := .fields #[.ref l, .int 0 0] }, c.g⟩ c.h.objs.size [c.h.objs.size, l] (fun i h => h.IsListIter c.h.objs.size l i ∧ h.IsList l vs.toArray) Ext.push size_none (fun q => by obtain ⟨o', e'⟩ := hTl _ q; rw [size_none] at e'; cases e') (fun A' hA' => by simpa using Walks.list hA' c.h.objs.size l ne vs.toArray) (fun i h st => by obtain ⟨o, e, _⟩ := st.1; exact ⟨o, e⟩) ⟨⟨_, Heap.get?_push_size _ rfl, rfl, rfl⟩, hl₂⟩ (fun b hb => ?_) rfl)
  rcases List.mem_cons.mp hb with rfl | hb
  · exact .inl rfl
  · rw [List.mem_singleton.mp hb]; exact .inr ⟨⟨o, e⟩, hT, hV⟩
theorem iter_rangeU {r : Addr} {a b : Int} {n : Nat} {t₁ t₂ t₃ : Tok} (hr : IsRange c.h r a b 1 t₁ t₂ t₃) (hsm : Builtin.Range.small a b 1 = true) (hn : Builtin.Range.rangeSize a b 1 = ((n : Nat) : Int)) (hTl : ∀ b ∈ T, ∃ o, c.h.get? b = some o) :
    IterInU prog w T V d os (.ref r) c n (fun i v => ∃ t, v = .int (a + (i : Int)) t) := by
  intro A Q E t hh hQ
  refine wpAny_pyIter_range hr hsm (hQ ⟨c.h.push { cls := .type "range_iterator", data := .fields #[rawInt a, rawInt (Builtin.Range.rangeSize a b 1), rawInt 1] }, c.g⟩ c.h.objs.size [c.h.objs.size] _ Ext.push size_none (fun q => by obtain ⟨o', e'⟩ := hTl _ q; rw [size_none] at e'; cases e') (fun A' hA' => LCg.range_walks hA' a n) (fun i h st => ⟨_, st⟩) (by
    have e : (a + ((0 : Nat) : Int) * 1) = a := by simp
    have e2 : ((n : Int) - ((0 : Nat) : Int)) = n := by simp
    rw [e, e2, hn]
    exact Heap.get?_push_size _ rfl) (fun b hb => .inl (by simpa using hb)) rfl)
theorem x_range1U {n : Nat} {u : Tok} {Q : Value → Shared → Prop} (hn : n < 2 ^ 62)
    (h : ∀ c' r t', (∀ T W, Ext T W c c') → (∀ T V, (∀ b ∈ T, ∃ o, c'.h.get? b = some o) → IterInU prog w T V d os (.ref r) c' n (fun i v => ∃ t, v = .int ((i : Nat) : Int) t)) → Q (.ref r) ⟨c'.h, c'.g, d, t', os⟩) :
    wpAny (model prog w) A (call (.type "range") [.int n u]) Q E ⟨c.h, c.g, d, t, os⟩ := by
  refine PySem.call_range_1 (s := ⟨c.h, c.g, d, t, os⟩) (h ⟨c.h.push { cls := .type "range", data := .fields #[.int 0 t, .int n u, .int 1 (t + 1)] }, c.g⟩ c.h.objs.size _ (fun _ _ => Ext.push) fun T V hT => ?_)
  have hs : Builtin.Range.rangeSize 0 (n : Int) 1 = ((n : Nat) : Int) := by
    rw [rangeSize_one]; split <;> omega
  have := iter_rangeU (prog := prog) (w := w) (d := d) (os := os) (T := T) (V := V) (c := ⟨c.h.push { cls := .type "range", data := .fields #[.int 0 t, .int n u, .int 1 (t + 1)] }, c.g⟩) (IsRange.new c.h 0 n 1 t u (t + 1)) (small_one (by decide) (by decide) (by omega) (by omega)) hs hT
  simpa using this
end
end Mine
end

section
open PySem PySem.W PySem.Calls PyProof.Rows
set_option Elab.async false
set_option maxRecDepth 100000
set_option linter.unusedSimpArgs false
set_option linter.unusedVariables false
namespace Mine
noncomputable abbrev dot0 : Str := Str.ofString ".0"
section
variable {prog : Program} {w : World} {A : Around} {E : Value → Shared → Prop} {c c₀ : Cr} {d : Drawn} {t : Nat} {os : OsState} {env : Env} {m : Str → Option Value} {T W O O₂ : List Addr}
noncomputable abbrev GTurn (prog : Program) (w : World) (kk : Nat) (d : Drawn) (os : OsState) (c₀ c₁ : Cr) (T W O O₂ : List Addr) (env : Env) (m : Str → Option Value) (n : Nat) (P : Nat → Value → Prop) (elt : Expr) (x : Str) (scope : Scope) (cl : List (Str × Addr))
    (El : Nat → Value → List Addr → Heap → Prop) : Prop :=
  ∀ M A' i v it C code c t Q' E', Rm kk A' → i < n → P i v → Sx w.params T W c₀ c (M ++ O) (M ++ O₂) (genEnv scope cl C code builtinsNs env) (upd (upd (cNames scope m) dot0 it) x v) → Up O c₁.h (M ++ O) c.h → Up O₂ c₁.h (M ++ O₂) c.h →
      (∀ c' t' y, Ext T [] c c' → El i y (M ++ O₂) c'.h → Q' y ⟨c'.h, c'.g, d, t', os⟩) → wpAny (model prog w) A' (eval elt (genEnv scope cl C code builtinsNs env)) Q' E' ⟨c.h, c.g, d, t, os⟩
theorem sx_gen {elt iter : Expr} {x : Str} {px : Pos} {scope : Scope} {pos : Pos} {cl : List (Str × Addr)} {Q : Value → Shared → Prop} {cA PA : Addr} {kk : Nat} (S₀ : Sx w.params T W c₀ c O O₂ env m) (El : Nat → Value → List Addr → Heap → Prop) (hA : Rm (kk + 5) A)
    (hcA : env.code = .ref cA) (hrow : codeRow (KK w.params) cA PA = true) (hPA : PA ∈ T)
    (h : wpAny (model prog w) A (eval iter env) (fun xv s₁ => ∃ c₁ t₁ n P, s₁ = ⟨c₁.h, c₁.g, d, t₁, os⟩ ∧ Sx w.params T W c₀ c₁ O O₂ env m ∧ IterInU prog w T O d os xv c₁ n P ∧ 
      GTurn prog w kk d os c₀ c₁ T W O O₂ env m n P elt x scope cl El ∧
      (∀ c₅ t₅ M C I a, Sx w.params T W c₀ c₅ O O₂ env m → Ext T [] c₁ c₅ → Up O c₁.h O c₅.h → Up O₂ c₁.h O₂ c₅.h → (∀ b ∈ [C, I, a], c₁.h.get? b = none ∧ b ∉ T ∧ b ∈ M ∧ ∃ o, c₅.h.get? b = some o) → a ≠ C → a ≠ I → (∀ b ∈ M, c₁.h.get? b = none ∨ b ∈ O) → (∀ b ∈ M, ∃ o, c₅.h.get? b = some o) → c₁.g.size < c₅.g.size →
        (∀ A', Rm (kk + 2) A' → Ready prog w A' T M O₂ d os c₁ n El C I a c₁.g.size 0 c₅) → c₁.g[c₁.g.size]? = none → Q (.ref a) ⟨c₅.h, c₅.g, d, t₅, os⟩)) E ⟨c.h, c.g, d, t, os⟩)
    (hglob : env.globals = 3 := by rfl) (hs : ∀ x, genFold iter env x = pure x := by intro _; rfl)
    (hcl : closL env.cells scope.names [] = some cl := by rfl) (hok : scopeOk scope env = true := by rfl) (hk : scope.kind = .function := by rfl) (hco : scope.isCoroutine = false := by rfl) (hx : scope.names.lookup x = some .local := by rfl)
    (hcell : ∀ y ∈ scope.names, y.2 ≠ .cell := by decide) (h0 : scope.names.lookup dot0 = some NameKind.local := by rfl) :
    wpAny (model prog w) A (eval (.GeneratorExp elt [⟨.Name x px, iter, [], 0⟩] scope pos) env) Q E ⟨c.h, c.g, d, t, os⟩ := by
  have hnd : (scope.names.map (·.1)).Nodup := by simpa using (Bool.and_eq_true_iff.mp hok).1
  have hfree : ∀ x, (x, NameKind.free) ∈ scope.names → env.kindOf x = some .cell ∨ env.kindOf x = some .free := fun x hx => by
    have := List.all_eq_true.mp (Bool.and_eq_true_iff.mp hok).2 _ hx
    simpa using this
  refine wpAny_GeneratorExp_make hco (closL_closureFor hcl) hcell h0 hk hA.room (wpAny_mono h (fun xv s₁ h₁ => ?_) fun _ _ e => e) hs
  obtain ⟨c₁, t₁, n, P, rfl, S₁, it, turn, done⟩ := h₁
  refine it _ _ _ _ hA.1 fun c₂ I fp St e₂ hI hIT W₀ hIo st₀ hfp hg₂ => ?_
  have S₂ := S₁.go e₂.nil
  refine ⟨S₂.X.lim, ?_⟩
  obtain ⟨ps, hcode, htb⟩ := codeRow_is S₂.X.k hrow S₂.F.tab hPA
  refine wpAny_gcode (s := ⟨c₂.h, c₂.g, d, t₁, os⟩) hcA hcode htb fun code h₃ tk₃ ps' hb₃ hcode' htb' => ?_
  have e₃ : Ext T [] c₂ ⟨h₃, c₂.g⟩ := by
    refine ⟨fun b o hT _ q => hb₃ b o (fun z => hT (z ▸ hPA)) q, fun b o q => ?_, fun ht P hP => ?_, ⟨fun _ _ e => e, id⟩⟩
    · by_cases z : b = PA
      · obtain ⟨_, _, _, _, _, _, _, _, _, op, _, _, _, _, _, _, _, z2, _⟩ := hcode'
        exact ⟨op, z ▸ z2⟩
      · exact ⟨o, hb₃ b o z q⟩
    · by_cases z : P = PA
      · obtain ⟨_, _, _, _, _, _, _, _, _, op, _, _, _, _, _, _, _, z2, z3, z4, _⟩ := hcode'
        exact ⟨ps', z ▸ htb'.2, z4⟩
      · obtain ⟨o, q, r⟩ := ht P hP
        exact ⟨o, hb₃ P _ z q, r⟩
  have S₃ := S₂.go e₃.nil
  rw [hglob]
  refine x_builtinsFor S₃.X ?_
  dsimp only
  intro h' hn' hs'
  generalize hC : h₃.objs.size = C at hn' hs'
  have hCn : h₃.get? C = none := hC ▸ size_none
  have keep' : ∀ b o, h₃.get? b = some o → h'.get? b = some o := fun b o e => hs'.extBut b o (hC ▸ Nat.ne_of_lt (Heap.lt_size e)) (Heap.get?_push_of_some _ e)
  generalize hgo : (Obj.mk (.type "generator") none (.fields #[.int c₂.g.size 0, .str "<genexpr>" (tk₃ + 1), .str (env.qual ++ "<genexpr>") (tk₃ + 1 + 1)]) #[]) = go
  have hgof : go.isFreed = false := by subst hgo; rfl
  generalize ha : h'.objs.size = a
  have hac : (h'.push go).get? a = some go := ha ▸ Heap.get?_push_size _ hgof
  have hCh' : ∃ o, h'.get? C = some o := by obtain ⟨o, _, _, e, _⟩ := hn'; exact ⟨o, e⟩
  have han : h'.get? a = none := ha ▸ size_none
  have haC : a ≠ C := Ne.symm (ne_of_none han hCh'.choose_spec)
  generalize hfr : GenState.fresh (.compStart (.GeneratorExp elt [⟨.Name x px, iter, [], 0⟩] scope pos) 0 (.ref I) .none (genEnv scope cl C code builtinsNs env)) = fr
  let c₅ : Cr := ⟨h'.push go, c₂.g.push fr⟩
  have keep₅ : ∀ b o, h₃.get? b = some o → c₅.h.get? b = some o := fun b o e => Heap.get?_push_of_some _ (keep' b o e)
  have e₅ : Ext T [] ⟨h₃, c₂.g⟩ c₅ := ⟨fun b o _ _ e => keep₅ b o e, fun b o e => ⟨o, keep₅ b o e⟩, fun z P hP => let ⟨o, e, q⟩ := z P hP; ⟨o, keep₅ _ _ e, q⟩, ⟨fun k y e => by
      show (c₂.g.push fr)[k]? = some y
      have hk : k < c₂.g.size := by
        rcases Nat.lt_or_ge k c₂.g.size with q | q
        · exact q
        · have : c₂.g[k]? = none := Array.getElem?_eq_none q
          rw [this] at e; cases e
      rw [Array.getElem?_push_lt hk]; rw [Array.getElem?_eq_getElem hk] at e; exact e, fun b => b.push (by subst hfr; rfl)⟩⟩
  have e₁₅ : Ext T [] c₁ c₅ := (e₂.trans e₃).trans e₅
  have S₅ := S₁.go e₁₅.nil
  have ownG : ownOf (genEnv scope cl C code builtinsNs env) = C :: cl.map (·.2) := rfl
  have clm : ∀ x a, (x, a) ∈ cl → env.cells.lookup x = some a ∧ (x, NameKind.free) ∈ scope.names := fun x a h => (closL_mem _ _ _ hcl x a h).elim (by simp) id
  have clown : ∀ b ∈ cl.map (·.2), b ∈ ownOf env := fun b hb => by
    obtain ⟨⟨y, a⟩, hm, rfl⟩ := List.mem_map.mp hb
    exact own_cell (mem_of_lookup (clm y a hm).1)
  have hC1 : c₁.h.get? C = none := (e₂.trans e₃).none hCn
  have ha1 : c₁.h.get? a = none := ((e₂.trans e₃).trans (Ext.of_keep (c := ⟨h₃, c₂.g⟩) keep')).none han
  have hIc3 : ∃ o, h₃.get? I = some o := by
    obtain ⟨o, q⟩ := hIo 0 _ st₀
    exact e₃.there I o q
  have hCI : C ≠ I := Ne.symm (ne_of_none hCn hIc3.choose_spec)
  have haI : a ≠ I := Ne.symm (ne_of_none han (keep' _ _ hIc3.choose_spec))
  have notT : ∀ b, c₁.h.get? b = none → b ∉ T := fun b q z => by obtain ⟨o, e⟩ := S₁.F.low b (S₁.F.tin b z); rw [q] at e; cases e
  let M : List Addr := ownOf (genEnv scope cl C code builtinsNs env) ++ [I, a]
  have hM : ∀ b ∈ M, c₁.h.get? b = none ∨ b ∈ O := fun b hb => by
    rcases List.mem_append.mp hb with q | q
    · rw [ownG] at q
      rcases List.mem_cons.mp q with rfl | q
      · exact .inl hC1
      · exact .inr (S₁.F.own b (clown b q))
    · simp at q
      rcases q with rfl | rfl
      · exact .inl hI
      · exact .inl ha1
  have hMlow : ∀ b ∈ M, ∃ o, c₅.h.get? b = some o := fun b hb => by
    rcases List.mem_append.mp hb with q | q
    · rw [ownG] at q
      rcases List.mem_cons.mp q with rfl | q
      · exact ⟨_, Heap.get?_push_of_some _ hCh'.choose_spec⟩
      · exact S₅.F.low b (S₅.F.own b (clown b q))
    · simp at q
      rcases q with rfl | rfl
      · exact ⟨_, keep₅ _ _ hIc3.choose_spec⟩
      · exact ⟨_, hac⟩
  refine done c₅ _ M C I a S₅ e₁₅ (S₁.up e₁₅.nil) (S₁.up2 e₁₅.nil) (fun b hb => ?_) haC haI hM hMlow (by show c₁.g.size < (c₂.g.push fr).size; rw [hg₂]; simp) (fun A' hA' => ?_) (Array.getElem?_eq_none (Nat.le_refl _))
  · simp at hb
    rcases hb with rfl | rfl | rfl
    · exact ⟨hC1, notT _ hC1, List.mem_append_left _ (by rw [ownG]; exact List.mem_cons_self ..), _, Heap.get?_push_of_some _ hCh'.choose_spec⟩
    · exact ⟨hI, hIT, List.mem_append_right _ (by simp), _, keep₅ _ _ hIc3.choose_spec⟩
    · exact ⟨ha1, notT _ ha1, List.mem_append_right _ (by simp), _, hac⟩
  have hfrm : (c₂.g.push fr)[c₁.g.size]? = some fr := by rw [← hg₂]; exact Array.getElem?_push_size
  have gk₀ : ∀ (j : Nat) (y : GenState), c₀.g[j]? = some y → j ≠ c₁.g.size := fun j y q z => by
    have := S₁.F.ext.gens.1 j y q
    rw [z, Array.getElem?_eq_none (Nat.le_refl _)] at this; cases this
  have clnd := closL_apart S₁.F.vars.apart _ _ _ hcl hnd (by simp) (by simp)
  have isC : ∀ x a, cl.lookup x = some a → c₅.h.IsCell a (m x) ∧ scope.names.lookup x = some .free := fun y b hyb => by
    have := clm y b (mem_of_lookup hyb)
    exact ⟨S₅.F.vars.cel y b this.1 (hfree y this.2), lookup_of_mem_nd hnd this.2⟩
  let c₆ : Cr := ⟨c₅.h, setR c₅.g c₁.g.size .running⟩
  have F₆ : Fx T W c₀ c₆ (M ++ O) (genEnv scope cl C code builtinsNs env) (upd (cNames scope m) dot0 (.ref I)) := by
    refine ⟨⟨S₅.F.ext.heap, S₅.F.ext.there, S₅.F.ext.tab, fun j y q => ?_, fun b => setR_bare rfl (S₅.F.ext.gens.2 b)⟩, ⟨hk, ⟨_, hn'.push go, fun y hy => ?_⟩, fun y b hyb hyk => ?_, clnd, fun y b hyb => ?_⟩, fun b hb => List.mem_append_left _ (List.mem_append_left _ hb), fun b hb => List.mem_append_right _ (S₁.F.tin b hb), fun b hb => List.mem_append_right _ (S₁.F.win b hb), fun b hb => ?_, fun b hb => ?_, S₅.F.tab⟩
    · show (setR c₅.g c₁.g.size .running)[j]? = some y
      rw [setR_get, if_neg (gk₀ j y q)]
      exact S₅.F.ext.gens.1 j y q
    · have hy : scope.names.lookup y = some .local := hy
      show (if y = dot0 then some (Value.ref I) else none) = upd (cNames scope m) dot0 (.ref I) y
      by_cases q : y = dot0
      · simp [upd, q]
      · simp [upd, q, cNames, hy]
    · obtain ⟨q1, q2⟩ := isC y b hyb
      have ne : y ≠ dot0 := by rintro rfl; rw [h0] at q2; cases q2
      have : upd (cNames scope m) dot0 (.ref I) y = m y := by simp [upd, ne, cNames, q2]
      rw [this]; exact q1
    · show C ≠ b
      obtain ⟨o, q⟩ := S₃.F.low b (S₃.F.own b (clown b (List.mem_map_of_mem (f := Prod.snd) hyb)))
      exact Ne.symm (ne_of_none hCn q)
    · rcases List.mem_append.mp hb with q | q
      · exact hMlow b q
      · exact S₅.F.low b q
    · rw [ownG] at hb
      rcases List.mem_cons.mp hb with rfl | q
      · exact ⟨S₁.F.none hC1, notT _ hC1, fun z => by obtain ⟨o, e⟩ := S₁.F.low _ (S₁.F.win _ z); rw [hC1] at e; cases e⟩
      · exact S₁.F.new b (clown b q)
  have fpIn : ∀ b ∈ fp, b = I ∨ ((∃ o, c₁.h.get? b = some o) ∧ b ∉ T) := fun b hb => (hfp b hb).imp id fun z => ⟨z.1, z.2.1⟩
  have st₅ : St 0 c₅.h := (W₀ A hA.1).frame 0 _ _ st₀ fun b hb o q => by
    have hT : b ∉ T := by
      rcases fpIn b hb with rfl | ⟨_, z⟩
      · exact hIT
      · exact z
    exact (e₃.trans e₅).heap b o hT (by simp) q
  refine ⟨⟨go, .str "<genexpr>" (tk₃ + 1), .str (env.qual ++ "<genexpr>") (tk₃ + 1 + 1), hac, by subst hgo; rfl, by subst hgo; rw [hg₂], by subst hgo; rfl⟩, S₅.X.lim, fr, hfrm, by subst hfr; rfl, fun c'' t'' ⟨V, eV, hV⟩ => ?_⟩
  have eV : Ext T V c₆ c'' := eV
  have upc : ∀ OO : List Addr, (∀ b ∈ T, b ∈ OO) → Up OO c₁.h (M ++ OO) c₅.h → Up OO c₁.h (M ++ OO) c''.h := fun OO hT u b o q => by
    obtain ⟨q1, q2⟩ := u b o q
    exact ⟨q1, eV.heap b o (fun z => q.1 (hT b z)) (fun z => by have := (hV b z).2; rw [q.2] at this; cases this) q2⟩
  have upM : ∀ OO : List Addr, (∀ b ∈ O, b ∈ OO) → Up OO c₁.h OO c₅.h → Up OO c₁.h (M ++ OO) c₅.h := fun OO hO u b o q => ⟨fun z => by
    rcases List.mem_append.mp z with z | z
    · rcases hM b z with y | y
      · rw [q.2] at y; cases y
      · exact q.1 (hO b y)
    · exact q.1 z, (u b o q).2⟩
  have F₇ : Fx T W c₀ c'' (M ++ O) (genEnv scope cl C code builtinsNs env) (upd (cNames scope m) dot0 (.ref I)) := ⟨F₆.ext.absorb eV fun b hb => .inl (S₁.F.none (hV b hb).2), F₆.vars.keeps fun b hb o q => eV.heap b o (F₆.new b hb).2.1 (fun z => (hV b z).1 (List.mem_append_left _ hb)) q, F₆.own, F₆.tin, F₆.win, fun b hb => by
    obtain ⟨o, q⟩ := F₆.low b hb
    exact eV.there b o q, F₆.new, eV.tab F₆.tab⟩
  have st₇ : St 0 c''.h := (W₀ A hA.1).frame 0 _ _ st₅ fun b hb o q => by
    rcases fpIn b hb with rfl | ⟨⟨o', q'⟩, z⟩
    · exact eV.heap _ o hIT (fun y => (hV _ y).1 (List.mem_append_right _ (by simp))) q
    · exact eV.heap b o z (fun y => by have := (hV b y).2; rw [q'] at this; cases this) q
  have u₇ := upc O S₁.F.tin (upM O (fun _ h => h) (S₁.up e₁₅.nil))
  have u₇2 := upc O₂ (fun b hb => S₁.B.sub b (S₁.F.tin b hb)) (upM O₂ S₁.B.sub (S₁.up2 e₁₅.nil))
  have lw₇ : Low O₂ c''.h := fun b hb => by
    obtain ⟨o, q⟩ := S₅.B.low b hb
    exact eV.there b o q
  subst hfr
  refine ⟨rfl, ?_⟩
  refine gen_start hA'.1 W₀ st₇ ?_
  have kx : (genEnv scope cl C code builtinsNs env).kindOf x = some .local := hx
  exact gen_loop (C := C) (kk := kk) (O := O) (M := M) (m0 := upd (cNames scope m) dot0 (.ref I)) El (hA'.in1.mono (Nat.le_refl _)) W₀ hIo (by unfold isVar; rw [kx]) (by rw [kx]; rfl) (fun a hl => by
      rcases hl with ⟨_, rfl⟩ | ⟨q, _⟩
      · rfl
      · rw [kx] at q; cases q) hco (List.mem_append_right _ (by simp)) (List.mem_append_left _ (by rw [ownG]; exact List.mem_cons_self ..)) (fun b hb => List.mem_append_left _ hb) (by rw [ownG]; exact List.mem_cons_self ..) (fun q => by
      rw [ownG] at q
      rcases List.mem_cons.mp q with q | q
      · exact hCI q.symm
      · obtain ⟨o, e⟩ := S₁.F.low I (S₁.F.own I (clown I q))
        rw [hI] at e; cases e) (S₁.F.none hI) hIT (notT _ hC1) hI hC1 fpIn hM S₁.F.tin (fun b hb => S₁.B.sub b (S₁.F.tin b hb)) S₁.B.sub S₁.F.low (fun b => S₁.F.none)
      (fun A'' i v cc tt Q' E' hR' hi hPv F u u2 lw k => turn M A'' i v (.ref I) C code cc tt Q' E' hR' hi hPv ⟨F, S₁.X.up u, ⟨fun b hb => by
        rcases List.mem_append.mp hb with q | q
        · exact List.mem_append_left _ q
        · exact List.mem_append_right _ (S₁.B.sub b q), fun b hb => by
        rcases List.mem_append.mp hb with q | q
        · exact F.low b (List.mem_append_left _ q)
        · exact lw b q⟩⟩ u u2 k)
      n 0 ⟨c''.h, c''.g, d, t'', os⟩ c'' t'' _ (Nat.sub_zero _) (Nat.zero_le _) F₇ (fun _ => rfl) st₇ u₇ u₇2 lw₇ (Ext.refl ..)
end
end Mine
end

section
open PySem PySem.W PySem.Calls PyProof.Rows
set_option Elab.async false
set_option maxRecDepth 100000
set_option linter.unusedSimpArgs false
set_option linter.unusedVariables false
namespace Mine
theorem ext_nx {T WG : List Addr} {k : Nat} {c₁ c c' : Cr} (e : Ext T [] c₁ c) (nx : Nx T WG k c c') (th : ∀ b o, c.h.get? b = some o → ∃ o', c'.h.get? b = some o') (hW : ∀ b ∈ WG, c₁.h.get? b = none) (hk : c₁.g[k]? = none) : Ext T [] c₁ c' :=
  ⟨fun b o t w q => nx.heap b o t (fun z => by rw [hW b z] at q; cases q) (e.heap b o t w q), fun b o q => by
    obtain ⟨o', q'⟩ := e.there b o q
    exact th b o' q', fun z => nx.tab (e.tab z), fun j y q => nx.gens j y (fun z => by rw [z, hk] at q; cases q) (e.gens.1 j y q), fun b => nx.bare (e.gens.2 b)⟩
section
variable {prog : Program} {w : World} {A : Around} {E : Value → Shared → Prop} {c c₀ c₁ : Cr} {d : Drawn} {t : Nat} {os : OsState} {env : Env} {m : Str → Option Value} {T W O O₂ M : List Addr} {n : Nat} {El : Nat → Value → List Addr → Heap → Prop} {C I a : Addr} {R : Result → Shared → Prop}
structure GenOk (T M : List Addr) (c₁ : Cr) (C I a : Addr) : Prop where
  fresh : ∀ b ∈ [C, I, a], c₁.h.get? b = none ∧ b ∉ T ∧ b ∈ M
  aC : a ≠ C
  aI : a ≠ I
theorem GenOk.aW {T M c₁ C I a} (G : GenOk T M c₁ C I a) : a ∉ [C, I] := by simp [G.aC, G.aI]
theorem GenOk.wg {T M c₁ C I a} (G : GenOk T M c₁ C I a) : ∀ b ∈ [C, I], c₁.h.get? b = none := fun b hb => (G.fresh b (by simp at hb ⊢; rcases hb with rfl | rfl <;> simp)).1
theorem all_loop (S₁ : Sx w.params T W c₀ c₁ O O₂ env m) (hA : A.handled = none) (hr : A.depth < recursionLimit) (G : GenOk T M c₁ C I a) (hEl : ∀ i v O h, El i v O h → v = .bool true)
    (hR : ∀ c' t', Ext T [] c₁ c' → R (.ok (.ret (.bool true))) ⟨c'.h, c'.g, d, t', os⟩) :
    ∀ (j i : Nat) (c : Cr) (t : Nat), n - i = j → i ≤ n → Ext T [] c₁ c → c₁.g.size < c.g.size → Ready prog w A.in1 T M O₂ d os c₁ n El C I a c₁.g.size i c → codeAny (model prog w) A (.builtin "all.loop" ⟨[.ref a], []⟩) R ⟨c.h, c.g, d, t, os⟩ := by
  have hkn : c₁.g[c₁.g.size]? = none := Array.getElem?_eq_none (Nat.le_refl _)
  have haT : a ∉ T := (G.fresh a (by simp)).2.1
  intro j
  induction j with
  | zero =>
    intro i c t hj hi e hks r
    obtain rfl : i = n := by omega
    refine codeAny_builtin F.entry_all_loop ?_
    rw [Around.under_plainId F.plain_all_loop _]
    show wpAny _ A.in1 (pyNext (.ref a) >>= _) _ _ _
    refine wpAny_bind (r.done hA hr fun c' t' k1 k2 k3 k4 k5 => ?_)
    refine wpAny_bind (wpAny_rule (wpAny_pure ?_))
    refine hR c' t' ⟨fun b o hT _ q => k1 b o hT (fun z => by rw [G.wg b z] at q; cases q) (e.heap b o hT (by simp) q), fun b o q => ?_, fun z => k4 (e.tab z) (fun b hb z => ?_), fun j y q => k2 j y (fun z => by rw [z, hkn] at q; cases q) (e.gens.1 j y q), fun b => k3 (e.gens.2 b)⟩
    · obtain ⟨o', q'⟩ := e.there b o q
      exact k5 b o' (fun z => by rw [G.wg b z] at q; cases q) q'
    · have := (G.fresh b (by simp at z ⊢; rcases z with rfl | rfl <;> simp)).2.1
      exact this hb
  | succ j ih =>
    intro i c t hj hi e hks r
    have hlt : i < n := by omega
    refine codeAny_builtin F.entry_all_loop ?_
    rw [Around.under_plainId F.plain_all_loop _]
    show wpAny _ A.in1 (pyNext (.ref a) >>= _) _ _ _
    refine wpAny_bind (r.next hA hr hlt haT G.aW hks (fun c' nx th => ?_) fun c' t' v nx th hv r' => ?_)
    · have e' := ext_nx e nx th G.wg hkn
      exact (S₁.X.up (S₁.up e'.nil)).lim
    · have e' := ext_nx e nx th G.wg hkn
      obtain rfl := hEl i v _ _ hv
      refine wpAny_bind (wpAny_holding (wpAny_truthy_bool ?_))
      refine wpAny_bind (wpAny_letGo ?_)
      simp only [if_true]
      have hks' : c₁.g.size < c'.g.size := by
        obtain ⟨gs, q, _⟩ := r'.go
        rcases Nat.lt_or_ge c₁.g.size c'.g.size with z | z
        · exact z
        · rw [Array.getElem?_eq_none z] at q; cases q
      exact wpAny_pure ⟨plainId_quiet F.plain_all_loop _, ih (i + 1) c' t' (by omega) hlt e' hks' r'⟩
theorem call_all_gen {Q : Value → Shared → Prop} (S₁ : Sx w.params T W c₀ c₁ O O₂ env m) (hA : A.handled = none) (hr : A.depth < recursionLimit) (G : GenOk T M c₁ C I a) (hEl : ∀ i v O h, El i v O h → v = .bool true) (e : Ext T [] c₁ c) (hks : c₁.g.size < c.g.size) (r : Ready prog w A.in1 T M O₂ d os c₁ n El C I a c₁.g.size 0 c)
    (hQ : ∀ c' t', Ext T [] c₁ c' → Q (.bool true) ⟨c'.h, c'.g, d, t', os⟩) :
    wpAny (model prog w) A (call (.builtin "all") [.ref a]) Q E ⟨c.h, c.g, d, t, os⟩ := by
  refine call_function_tree F.kind_all F.plain_all F.entry_all (F.args_all1 _) ?_
  unfold Builtin.«all»
  refine wpAny_bind (m := oneArg "all" _) (wpAny_pure ?_)
  refine wpAny_bind (wpAny_pyIter_gen (s := ⟨c.h, c.g, d, t, os⟩) r.gen ?_)
  exact wpAny_pure ⟨plainId_quiet F.plain_all_loop _, all_loop S₁ hA hr G hEl (fun c' t' e' => hQ c' t' e') n 0 c t (Nat.sub_zero _) (Nat.zero_le _) e hks r⟩
theorem sx_all {elt iter : Expr} {x : Str} {px : Pos} {scope : Scope} {pos : Pos} {cl : List (Str × Addr)} {Q : Value → Shared → Prop} {cA PA : Addr} {kk : Nat} (S₀ : Sx w.params T W c₀ c O O₂ env m) (hA : Rm (kk + 5) A)
    (hcA : env.code = .ref cA) (hrow : codeRow (KK w.params) cA PA = true) (hPA : PA ∈ T)
    (h : wpAny (model prog w) A (eval iter env) (fun xv s₁ => ∃ c₁ t₁ n P, s₁ = ⟨c₁.h, c₁.g, d, t₁, os⟩ ∧ Sx w.params T W c₀ c₁ O O₂ env m ∧ IterInU prog w T O d os xv c₁ n P ∧ 
      GTurn prog w kk d os c₀ c₁ T W O O₂ env m n P elt x scope cl (fun _ v _ _ => v = .bool true) ∧
      (∀ c' t', Sx w.params T W c₀ c' O O₂ env m → Ext T [] c₁ c' → Up O c₁.h O c'.h → Up O₂ c₁.h O₂ c'.h → Q (.bool true) ⟨c'.h, c'.g, d, t', os⟩)) E ⟨c.h, c.g, d, t, os⟩)
    (hglob : env.globals = 3 := by rfl) (hs : ∀ x, genFold iter env x = pure x := by intro _; rfl)
    (hcl : closL env.cells scope.names [] = some cl := by rfl) (hok : scopeOk scope env = true := by rfl) (hk : scope.kind = .function := by rfl) (hco : scope.isCoroutine = false := by rfl) (hx : scope.names.lookup x = some .local := by rfl)
    (hcell : ∀ y ∈ scope.names, y.2 ≠ .cell := by decide) (h0 : scope.names.lookup dot0 = some NameKind.local := by rfl) :
    wpAny (model prog w) A (eval (.GeneratorExp elt [⟨.Name x px, iter, [], 0⟩] scope pos) env) (fun v s₁ => wpAny (model prog w) A (call (.builtin "all") [v]) Q E s₁) E ⟨c.h, c.g, d, t, os⟩ := by
  refine sx_gen (cl := cl) S₀ (fun _ v _ _ => v = .bool true) hA hcA hrow hPA (wpAny_mono h (fun xv s₁ h₁ => ?_) fun _ _ e => e) hglob hs hcl hok hk hco hx hcell h0
  obtain ⟨c₁, t₁, n, P, rfl, S₁, it, turn, done⟩ := h₁
  refine ⟨c₁, t₁, n, P, rfl, S₁, it, turn, fun c₅ t₅ M C I a S₅ e₅ u u2 fr aC aI _ _ hks r _ => ?_⟩
  refine call_all_gen S₁ hA.1 hA.room ⟨fun b hb => ⟨(fr b hb).1, (fr b hb).2.1, (fr b hb).2.2.1⟩, aC, aI⟩ (fun _ _ _ _ h => h) e₅ hks (r A.in1 ((hA.mono (by omega)).in1 (n := kk + 2))) fun c' t' e' => ?_
  exact done c' t' (S₁.go e'.nil) e' (S₁.up e'.nil) (S₁.up2 e'.nil)
end
end Mine
end

section
open PySem PySem.W PySem.Calls PyProof.Rows
set_option Elab.async false
set_option maxRecDepth 100000
set_option linter.unusedSimpArgs false
set_option linter.unusedVariables false
namespace Mine
theorem regH1 : PySem.Challenge.rw_yd0003_04 = PySem.Challenge.rw_yd0003_04 ∧ hd.heap_1 = hd.heap_1 := by k_fill; exact ⟨rfl, rfl⟩
theorem int_add_ref (z : Int) (tz : Tok) (p C dx : Addr) : Meets (Builtin.«int.__add__» ⟨[.int z tz, .ref p], []⟩) (fun _ R s => s.heap.get? p = some (instObj C dx) ∧ R (.ok (.ret .notImplemented)) s) :=
  .of_wp fun prog w A R s h => by
    obtain ⟨hp, g, d, tk, os⟩ := s; obtain ⟨hl, h⟩ := h
    wp_walk using wpAny_loadPart' hl
    exact ⟨_, rfl, h⟩
noncomputable def raddOk (K : Frag) (C : Addr) (f r : Addr) : Bool := selfFirst K C && findIn K (.ref C) (PySem.dunder "add") == some (some (.ref f)) && findIn K (.ref C) (dunderR "add") == some (some (.ref r)) && isFn K (.ref r) && typeIn K (.ref r) == some (.type "function") && subIn K (.ref C) (.type "int") == some false
theorem ok_radd (P : Params) : raddOk (KK P) 220 137 144 = true := by kernel_rfl
theorem fills_int (K : Frag) : findIn K (.type "int") (PySem.dunder "add") = some (some (.builtin "int.__add__")) ∧ findIn K (.type "int") (dunderR "add") = some (some (.builtin "int.__radd__")) := ⟨by rfl, by rfl⟩
section
variable {prog : Program} {w : World} {A : Around} {E : Value → Shared → Prop} {hp : Heap} {g : Array GenState} {d : Drawn} {t : Nat} {os : OsState} {O : List Addr} {x C : Addr} {fs : List (Str × Value)}
theorem x_radd {z : Int} {tz : Tok} {f r : Addr} {Q : Value → Shared → Prop} (X : Wd w.params O hp) (I : Ins O hp x C fs) (hk : raddOk (KK w.params) C f r = true)
    (h : wpAny (model prog w) A (call (.ref r) [.ref x, .int z tz]) (PySem.W.CmpBack Q) E ⟨hp, g, d, t, os⟩) : wpAny (model prog w) A (binaryOp .Add (.int z tz) (.ref x)) Q E ⟨hp, g, d, t, os⟩ := by
  obtain ⟨dx, es, n, J, rr⟩ := I.at
  unfold raddOk at hk
  simp only [Bool.and_eq_true, beq_iff_eq] at hk
  obtain ⟨⟨⟨⟨⟨k1, k2⟩, k3⟩, k4⟩, k5⟩, k6⟩ := hk
  obtain ⟨cd, rest, hcd, hm⟩ := ksp_first k1
  have X' := X.k
  have one := ksp_try (E := E) (M := model prog w) (A := A) (s := ⟨hp, g, d, t, os⟩) X' J k3 k4 h
  have L1 : Looks (model prog w) hp (typeOf (.ref x)) (.ref C) := J.type
  have L2 : Looks (model prog w) hp (typeOf (.int z tz)) (.type "int") := Looks.of_pure rfl
  have L3 : Looks (model prog w) hp (fillsNumberSlot (.ref C) "add") true := fills_K X' hcd hm k2
  have L4 : Looks (model prog w) hp (fillsNumberSlot (.type "int") "add") true := ksp_fillsT X' (fills_int _).1 (fills_int _).2
  have L5 : Looks (model prog w) hp (isSubtype (.ref C) (.type "int")) false := looks_subIn X' k6
  have L7 : Looks (model prog w) hp (numberSlotInPython (.type "int") "add") false := Looks.of_pure rfl
  have hne : (Value.type "int" == Value.ref C) = false := Bool.eq_false_iff.mpr fun q => by cases beq_iff_eq.mp q
  have hi : Operator.Add.info = ("+", "add") := rfl
  have hT : (⟨hp, g, d, t, os⟩ : Shared).TypeIs (.int z tz) "int" := typeIs_int _ z tz
  simp only [binaryOp, hi]
  refine wpAny_holding (wpAny_bind ?_)
  unfold binaryOp1
  refine wpAny_bind (L2.at (wpAny_bind (L1.at (wpAny_bind (L4.at ?_)))))
  simp only [hne, Bool.false_eq_true, if_false]
  have none1 : wpAny (model prog w) A (tryMethod (.int z tz) (PySem.dunder "add") (.ref x)) (fun v s' => v = none ∧ s' = ⟨hp, g, d, t, os⟩) E ⟨hp, g, d, t, os⟩ := by
    unfold tryMethod
    refine wpAny_bind (wpAny_callSpecial?_slot (name := PySem.dunder "add") (T := "int") (id := "int.__add__") hT PySem.F.slot_int_add ?_)
    refine call_meets (name := PySem.dunder "add") (T := "int") PySem.F.slot_int_add hT PySem.F.entry_int_add (PySem.F.args_int_add_2 _ _) (int_add_ref z tz x C dx) ?_
    refine ⟨J.at_, ?_⟩
    exact wpAny_pure ⟨rfl, rfl⟩
  ksp_lk
  refine wpAny_mono none1 (fun v s' hv => ?_) fun _ _ e => e
  obtain ⟨rfl, rfl⟩ := hv
  ksp_lk
  refine wpAny_mono one (fun r s' hr' => ?_) fun _ _ e => e
  obtain ⟨v, rfl, hq⟩ := hr'
  ksp_lk
  exact hq
end
end Mine
end

section
open PySem PySem.W PySem.Calls PyProof.Rows
set_option Elab.async false
set_option maxRecDepth 100000
set_option linter.unusedSimpArgs false
set_option linter.unusedVariables false
namespace Mine
noncomputable def accP (f : Nat → Nat → Int) (q : Int) : Nat → Nat → Int
  | 0 => fun _ => 0
  | 1 => addAt0 (f 0) 0 q
  | i + 2 => fun k => (accP f q (i + 1) k + f (i + 1) k).fmod q
noncomputable def AccAt (f : Nat → Nat → Int) (q : Int) (r : Addr) (nn i : Nat) (v : Value) (O : List Addr) (h : Heap) : Prop := (i = 0 ∧ ∃ u, v = .int 0 u) ∨ (0 < i ∧ ∃ p, v = .ref p ∧ IsPoly O h p r nn (accP f q i))
section
variable {prog : Program} {w : World} {A : Around} {E : Value → Shared → Prop} {c c₀ c₁ : Cr} {d : Drawn} {t : Nat} {os : OsState} {env : Env} {m : Str → Option Value} {T W O O₂ M : List Addr} {n : Nat} {C I a : Addr} {R : Result → Shared → Prop}
theorem x_updSeq {l : Addr} {vs : List Value} {r : Value} {Q : Unit → Shared → Prop} (hl : LsO c.h l (List.toArray vs)) (hT : l ∉ T) (hz : vs.length ≤ 10)
    (h : ∀ c', LsO c'.h l (List.toArray [r]) → Ext T [l] c c' → Q () ⟨c'.h, c'.g, d, t, os⟩) : wpAny (model prog w) A (updateSeq l fun _ => #[r]) Q E ⟨c.h, c.g, d, t, os⟩ := by
  obtain ⟨n, ho⟩ := hl
  have sb : Heap.SameBut l c.h (c.h.update l (Obj.mapSeq fun _ => #[r])) := Heap.SameBut.update ..
  have fin : LsO (c.h.update l (Obj.mapSeq fun _ => #[r])) l (List.toArray [r]) := ⟨_, Heap.get?_update_self _ ho rfl⟩
  refine wpAny_updateSeq (s := ⟨c.h, c.g, d, t, os⟩) ho rfl (h ⟨_, c.g⟩ fin (Ext.but sb hT (by simp) ⟨_, fin.choose_spec⟩)) (by simp; rw [sizeLine_eq]; omega) (by simp)
theorem sum_loop {r Sl : Addr} {q : Int} {nn : Nat} {f : Nat → Nat → Int} (S₁ : Sx w.params T0 W c₀ c₁ O O₂ env m) (hA : Rm 12 A) (G : GenOk T0 M c₁ C I a) (hMO : ∀ b ∈ [C, I], b ∈ M) (hr : IsRing O c₁.h r q nn) (hq : q ≠ 0) (hn1 : 1 ≤ nn) (hn : nn ≤ 1000) (hS : c₁.h.get? Sl = none ∧ Sl ∉ M)
    (hR : ∀ c' t' p, Ext T0 [] c₁ c' → IsPoly O₂ c'.h p r nn (accP f q n) → R (.ok (.ret (.ref p))) ⟨c'.h, c'.g, d, t', os⟩) (hpos : 0 < n) :
    ∀ (j i : Nat) (c : Cr) (t : Nat) (tot : Value), n - i = j → i ≤ n → Ext T0 [] c₁ c → c₁.g.size < c.g.size → Low (M ++ O₂) c.h → LsO c.h Sl (List.toArray [tot]) → AccAt f q r nn i tot (Sl :: (M ++ O₂)) c.h → Ready prog w A.in1 T0 M O₂ d os c₁ n (fun i v O h => PolyEl r nn (f i) v O h) C I a c₁.g.size i c →
      codeAny (model prog w) A (.builtin "sum.loop" ⟨[.ref a, .ref Sl, rawInt (if i = 0 then 0 else 2), rawInt 0], []⟩) R ⟨c.h, c.g, d, t, os⟩ := by
  have hkn : c₁.g[c₁.g.size]? = none := Array.getElem?_eq_none (Nat.le_refl _)
  have haT : a ∉ T0 := (G.fresh a (by simp)).2.1
  have hSlT : Sl ∉ T0 := fun z => by obtain ⟨o, e⟩ := S₁.F.low Sl (S₁.F.tin _ z); rw [hS.1] at e; cases e
  have hSlW : Sl ∉ [C, I] := fun z => hS.2 (hMO Sl z)
  intro j
  induction j with
  | zero =>
    intro i c t tot hj hi e hks lw ⟨cn, hSl⟩ acc r'
    obtain rfl : i = n := by omega
    rw [if_neg (by omega)]
    refine codeAny_builtin F.entry_sum_loop ?_
    rw [Around.under_plainId F.plain_sum_loop _]
    show wpAny _ A.in1 (seqItems? (.ref Sl) >>= _) _ _ _
    refine wpAny_bind (wpAny_seqItems hSl rfl ?_)
    show wpAny _ A.in1 (tryCatch (pyNext (.ref a)) _ >>= _) _ _ _
    rcases acc with ⟨z, _⟩ | ⟨_, p, rfl, hp⟩
    · omega
    refine wpAny_bind (wpAny_tryCatch (r'.done hA.1 hA.room fun c' t' k1 k2 k3 k4 k5 => ?_))
    have e' : Ext T0 [] c₁ c' := ⟨fun b o hT _ q => k1 b o hT (fun z => by rw [G.wg b z] at q; cases q) (e.heap b o hT (by simp) q), fun b o q => (by
      obtain ⟨o', q'⟩ := e.there b o q
      exact k5 b o' (fun z => by rw [G.wg b z] at q; cases q) q'), fun z => k4 (e.tab z) (fun b hb z => (by
      have := (G.fresh b (by simp at z ⊢; rcases z with rfl | rfl <;> simp)).2.1
      exact this hb)), fun j y q => k2 j y (fun z => by rw [z, hkn] at q; cases q) (e.gens.1 j y q), fun b => k3 (e.gens.2 b)⟩
    refine wpAny_pure (hR c' t' p e' (hp.up fun b o q => ⟨fun z => q.1 (.tail _ (List.mem_append_right _ z)), k1 b o (fun z => q.1 (.tail _ (List.mem_append_right _ (S₁.B.sub _ (S₁.F.tin b z))))) (fun z => q.1 (.tail _ (List.mem_append_left _ (hMO b z)))) q.2⟩))
  | succ j ih =>
    intro i c t tot hj hi e hks lw ⟨cn, hSl⟩ acc r'
    have hlt : i < n := by omega
    refine codeAny_builtin F.entry_sum_loop ?_
    rw [Around.under_plainId F.plain_sum_loop _]
    show wpAny _ A.in1 (seqItems? (.ref Sl) >>= _) _ _ _
    refine wpAny_bind (wpAny_seqItems hSl rfl ?_)
    show wpAny _ A.in1 (tryCatch (pyNext (.ref a)) _ >>= _) _ _ _
    refine wpAny_bind (wpAny_tryCatch (r'.next hA.1 hA.room hlt haT G.aW hks (fun c' nx th => ?_) fun c' t' v nx th hv r'' => ?_))
    · have e' := ext_nx e nx th G.wg hkn
      exact (S₁.X.up (S₁.up e'.nil)).lim
    · have e' := ext_nx e nx th G.wg hkn
      obtain ⟨p2, rfl, hp2⟩ := hv
      have hSl' := nx.heap Sl _ hSlT hSlW hSl
      have lw' : Low (M ++ O₂) c'.h := fun b hb => by
        obtain ⟨o, z⟩ := lw b hb
        exact th b o z
      have hks' : c₁.g.size < c'.g.size := by
        obtain ⟨gs, q, _⟩ := r''.go
        rcases Nat.lt_or_ge c₁.g.size c'.g.size with z | z
        · exact z
        · rw [Array.getElem?_eq_none z] at q; cases q
      have S' := S₁.go e'.nil
      have hr' := hr.up (S₁.up e'.nil)
      rcases acc with ⟨rfl, u, rfl⟩ | ⟨hi0, p, rfl, hp⟩
      · rw [if_pos rfl]
        repeat ((fail_if_success (with_reducible show wpAny _ _ (Sem.attempt _) _ _ _)); lk)
        refine wpAny_attempt (wpAny_holding ?_)
        obtain ⟨l2, i2, v2⟩ := id hp2
        have toT : ∀ b ∈ T0, b ∈ M ++ O₂ := fun b hb => List.mem_append_right _ (S₁.B.sub _ (S₁.F.tin b hb))
        have i2T : Ins O₂ c'.h p2 220 (pf r l2) := i2.up (Up.less fun b hb => List.mem_append_right _ hb)
        have i2O : Ins O c'.h p2 220 (pf r l2) := i2T.up (Up.less S'.B.sub)
        show wpAny _ _ (binaryOp .Add (.int 0 u) (.ref p2)) _ _ _
        have bg : Bg T0 (Sl :: (M ++ O₂)) c'.h := ⟨fun b hb => .tail _ (toT b hb), fun b hb => by
          rcases List.mem_cons.mp hb with rfl | hb
          · exact ⟨_, hSl'⟩
          · exact lw' b hb⟩
        refine x_radd S'.X i2O (ok_radd _) (wpAny_call (raddi_spec ((hA.mono (by decide)).in1 (n := 9)) S'.gdT bg S'.xT (hr'.up S'.uT) (hp2.up (Up.less toT)) hq hn1 hn fun c3 t3 p3 e3 hp3 => ?_))
        have hSl3 : LsO c3.h Sl (List.toArray [.int 0 u]) := ⟨cn, e3.heap Sl _ hSlT (by simp) hSl'⟩
        show wpAny _ A.in1 (updateSeq Sl (fun _ => #[.ref p3]) >>= _) _ _ _
        refine wpAny_bind (x_updSeq (T := T0) hSl3 hSlT (by simp) fun c4 hSl4 e4 => ?_)
        refine wpAny_bind (wpAny_letGo ?_)
        refine wpAny_bind (x_updSeq (T := T0) hSl4 hSlT (by simp) fun c5 hSl5 e5 => ?_)
        have e45 := e4.trans e5
        have e35 : Ext T0 [Sl] c' c5 := (e3.wide (by simp)).trans e45
        have e15 : Ext T0 [] c₁ c5 := e'.absorb e35 fun b hb => .inl (by rw [List.mem_singleton.mp hb]; exact hS.1)
        have r5 := r''.go_on e35 (fun b hb => by rw [List.mem_singleton.mp hb]; exact ⟨hS.2, hS.1⟩) (G.fresh a (by simp)).2.2 haT (S₁.X.up (S₁.up e15.nil)).lim
        have hks5 : c₁.g.size < c5.g.size := by
          obtain ⟨gs, q, _⟩ := r5.go
          rcases Nat.lt_or_ge c₁.g.size c5.g.size with z | z
          · exact z
          · rw [Array.getElem?_eq_none z] at q; cases q
        have hp5 : IsPoly (Sl :: (M ++ O₂)) c5.h p3 r nn (accP f q 1) := hp3.up (e45.up (fun b hb => .tail _ (toT b hb)) (by simp))
        have := ih 1 c5 t3 (.ref p3) (by omega) (by omega) e15 hks5 (fun b hb => by
          obtain ⟨o, z⟩ := lw' b hb
          exact e35.there b o z) hSl5 (.inr ⟨by decide, p3, rfl, hp5⟩) r5
        rw [if_neg (by decide)] at this
        exact wpAny_pure ⟨plainId_quiet F.plain_sum_loop _, this⟩
      · rw [if_neg (by omega)]
        repeat ((fail_if_success (with_reducible show wpAny _ _ (Sem.attempt _) _ _ _)); lk)
        refine wpAny_attempt (wpAny_holding ?_)
        obtain ⟨l2, i2, v2⟩ := id hp2
        have toT : ∀ b ∈ T0, b ∈ M ++ O₂ := fun b hb => List.mem_append_right _ (S₁.B.sub _ (S₁.F.tin b hb))
        have i2T : Ins O₂ c'.h p2 220 (pf r l2) := i2.up (Up.less fun b hb => List.mem_append_right _ hb)
        have i2O : Ins O c'.h p2 220 (pf r l2) := i2T.up (Up.less S'.B.sub)
        have hpc : IsPoly (Sl :: (M ++ O₂)) c'.h p r nn (accP f q i) := hp.up fun b o z => ⟨z.1, nx.heap b o (fun y => z.1 (.tail _ (toT b y))) (fun y => z.1 (.tail _ (List.mem_append_left _ (hMO b y)))) z.2⟩
        obtain ⟨l1, i1, v1⟩ := id hpc
        have i1O : Ins O c'.h p 220 (pf r l1) := i1.up (Up.less fun b hb => .tail _ (List.mem_append_right _ (S'.B.sub b hb)))
        show wpAny _ _ (binaryOp .Add (.ref p) (.ref p2)) _ _ _
        have bg : Bg T0 (Sl :: (M ++ O₂)) c'.h := ⟨fun b hb => .tail _ (toT b hb), fun b hb => by
          rcases List.mem_cons.mp hb with rfl | hb
          · exact ⟨_, hSl'⟩
          · exact lw' b hb⟩
        refine x_bin S'.X i1O i2O (ok_add220 _) (wpAny_call (add_spec ((hA.mono (by decide)).in1 (n := 8)) S'.gdT bg S'.xT (hr'.up S'.uT) (hpc.up (Up.less fun b hb => .tail _ (toT b hb))) (hp2.up (Up.less toT)) hq hn fun c3 t3 p3 e3 hp3 => ?_))
        have hSl3 : LsO c3.h Sl (List.toArray [.ref p]) := ⟨cn, e3.heap Sl _ hSlT (by simp) hSl'⟩
        show wpAny _ A.in1 (updateSeq Sl (fun _ => #[.ref p3]) >>= _) _ _ _
        refine wpAny_bind (x_updSeq (T := T0) hSl3 hSlT (by simp) fun c4 hSl4 e4 => ?_)
        refine wpAny_bind (wpAny_letGo ?_)
        refine wpAny_bind (x_updSeq (T := T0) hSl4 hSlT (by simp) fun c5 hSl5 e5 => ?_)
        have e45 := e4.trans e5
        have e35 : Ext T0 [Sl] c' c5 := (e3.wide (by simp)).trans e45
        have e15 : Ext T0 [] c₁ c5 := e'.absorb e35 fun b hb => .inl (by rw [List.mem_singleton.mp hb]; exact hS.1)
        have r5 := r''.go_on e35 (fun b hb => by rw [List.mem_singleton.mp hb]; exact ⟨hS.2, hS.1⟩) (G.fresh a (by simp)).2.2 haT (S₁.X.up (S₁.up e15.nil)).lim
        have hks5 : c₁.g.size < c5.g.size := by
          obtain ⟨gs, q, _⟩ := r5.go
          rcases Nat.lt_or_ge c₁.g.size c5.g.size with z | z
          · exact z
          · rw [Array.getElem?_eq_none z] at q; cases q
        have hp5 : IsPoly (Sl :: (M ++ O₂)) c5.h p3 r nn (accP f q (i + 1)) := by
          obtain ⟨i', rfl⟩ : ∃ i', i = i' + 1 := ⟨i - 1, by omega⟩
          exact hp3.up (e45.up (fun b hb => .tail _ (toT b hb)) (by simp))
        have := ih (i + 1) c5 t3 (.ref p3) (by omega) (by omega) e15 hks5 (fun b hb => by
          obtain ⟨o, z⟩ := lw' b hb
          exact e35.there b o z) hSl5 (.inr ⟨by omega, p3, rfl, hp5⟩) r5
        rw [if_neg (by omega)] at this
        exact wpAny_pure ⟨plainId_quiet F.plain_sum_loop _, this⟩
end
end Mine
end

section
open PySem PySem.W PySem.Calls PyProof.Rows
set_option Elab.async false
set_option maxRecDepth 100000
set_option linter.unusedSimpArgs false
set_option linter.unusedVariables false
namespace Mine
section
variable {prog : Program} {w : World} {A : Around} {E : Value → Shared → Prop} {c c₀ c₁ : Cr} {d : Drawn} {t : Nat} {os : OsState} {env : Env} {m : Str → Option Value} {T W O O₂ M : List Addr} {n : Nat} {C I a : Addr} {R : Result → Shared → Prop}
theorem call_sum_gen {r : Addr} {q : Int} {nn : Nat} {f : Nat → Nat → Int} {Q : Value → Shared → Prop} (S₁ : Sx w.params T0 W c₀ c₁ O O₂ env m) (hA : Rm 12 A) (G : GenOk T0 M c₁ C I a) (hMO : ∀ b ∈ [C, I], b ∈ M) (hM : ∀ b ∈ M, ∃ o, c.h.get? b = some o) (hr : IsRing O c₁.h r q nn) (hq : q ≠ 0) (hn1 : 1 ≤ nn) (hn : nn ≤ 1000) (e : Ext T0 [] c₁ c) (hks : c₁.g.size < c.g.size)
    (rr : Ready prog w A.in1 T0 M O₂ d os c₁ n (fun i v O h => PolyEl r nn (f i) v O h) C I a c₁.g.size 0 c) (hpos : 0 < n)
    (hQ : ∀ c' t' p, Ext T0 [] c₁ c' → IsPoly O₂ c'.h p r nn (accP f q n) → Q (.ref p) ⟨c'.h, c'.g, d, t', os⟩) :
    wpAny (model prog w) A (call (.builtin "sum") [.ref a]) Q E ⟨c.h, c.g, d, t, os⟩ := by
  refine call_function_tree F.kind_sum F.plain_sum F.entry_sum (F.args_sum1 _) ?_
  unfold Builtin.«sum»
  simp only [List.length_cons, List.length_nil]
  rw [if_neg (by decide)]
  refine wpAny_bind (wpAny_of_eq (show Builtin.Builtins.bindParams "sum" ["start"] 0 { } = pure [none] from rfl) ?_)
  refine wpAny_bind (wpAny_pyIter_gen (s := ⟨c.h, c.g, d, t, os⟩) rr.gen ?_)
  refine wpAny_bind (wpAny_mkInt ?_)
  refine wpAny_bind (wpAny_pure ?_)
  simp only [List.forIn_cons, List.forIn_nil]
  refine wpAny_bind (wpAny_bind (wpAny_bind (wpAny_isInstance (T := "int") (b := false) (typeIs_int _ _ _) PySem.sub_int_str ?_)))
  simp only [Bool.false_eq_true, if_false]
  refine wpAny_pure (wpAny_bind (wpAny_bind (wpAny_isInstance (T := "int") (b := false) (typeIs_int _ _ _) PySem.sub_int_bytes ?_)))
  simp only [Bool.false_eq_true, if_false]
  refine wpAny_pure (wpAny_bind (wpAny_bind (wpAny_isInstance (T := "int") (b := false) (typeIs_int _ _ _) PySem.sub_int_bytearray ?_)))
  simp only [Bool.false_eq_true, if_false]
  refine wpAny_pure (wpAny_pure ?_)
  refine wpAny_bind (wpAny_newObj_type ?_)
  let c5 : Cr := ⟨c.h.push { cls := .type "list", data := .seq #[.int 0 t] }, c.g⟩
  have e5 : Ext T0 [] c c5 := Ext.push
  have hS1 : c₁.h.get? c.h.objs.size = none := e.none size_none
  have hSM : c.h.objs.size ∉ M := fun z => by obtain ⟨o, q⟩ := hM _ z; rw [size_none] at q; cases q
  have e15 := e.trans e5
  have r5 := rr.go_on e5 (by simp) (G.fresh a (by simp)).2.2 (G.fresh a (by simp)).2.1 (S₁.X.up (S₁.up e15.nil)).lim
  have := sum_loop (R := fun r s' => match r with | .ok (.ret v) => Q v s' | .ok _ => False | .error e => E e s') S₁ hA G hMO hr hq hn1 hn ⟨hS1, hSM⟩ (fun c' t' p e' hp => hQ c' t' p e' hp) hpos n 0 c5 (t + 1) (.int 0 t) (Nat.sub_zero _) (Nat.zero_le _) e15 hks (fun b hb => by
    rcases List.mem_append.mp hb with z | z
    · obtain ⟨o, y⟩ := hM b z
      exact e5.there b o y
    · obtain ⟨o, y⟩ := S₁.B.low b z
      exact e15.there b o y) ⟨_, Heap.get?_push_size _ rfl⟩ (.inl ⟨rfl, t, rfl⟩) r5
  rw [if_pos rfl] at this
  exact wpAny_pure ⟨plainId_quiet F.plain_sum_loop _, this⟩
theorem sx_sum {elt iter : Expr} {x : Str} {px : Pos} {scope : Scope} {pos : Pos} {cl : List (Str × Addr)} {Q : Value → Shared → Prop} {cA PA r : Addr} {kk nn : Nat} {q : Int} {f : Nat → Nat → Int} (S₀ : Sx w.params T0 W c₀ c O O₂ env m) (hA : Rm (kk + 14) A)
    (hcA : env.code = .ref cA) (hrow : codeRow (KK w.params) cA PA = true) (hPA : PA ∈ T0)
    (h : wpAny (model prog w) A (eval iter env) (fun xv s₁ => ∃ c₁ t₁ n P, s₁ = ⟨c₁.h, c₁.g, d, t₁, os⟩ ∧ Sx w.params T0 W c₀ c₁ O O₂ env m ∧ IterInU prog w T0 O d os xv c₁ n P ∧ 0 < n ∧ IsRing O c₁.h r q nn ∧ q ≠ 0 ∧ 1 ≤ nn ∧ nn ≤ 1000 ∧
      GTurn prog w kk d os c₀ c₁ T0 W O O₂ env m n P elt x scope cl (fun i v O h => PolyEl r nn (f i) v O h) ∧
      (∀ c' t' p, Sx w.params T0 W c₀ c' O O₂ env m → Ext T0 [] c₁ c' → Up O c₁.h O c'.h → Up O₂ c₁.h O₂ c'.h → IsPoly O₂ c'.h p r nn (accP f q n) → Q (.ref p) ⟨c'.h, c'.g, d, t', os⟩)) E ⟨c.h, c.g, d, t, os⟩)
    (hglob : env.globals = 3 := by rfl) (hs : ∀ x, genFold iter env x = pure x := by intro _; rfl)
    (hcl : closL env.cells scope.names [] = some cl := by rfl) (hok : scopeOk scope env = true := by rfl) (hk : scope.kind = .function := by rfl) (hco : scope.isCoroutine = false := by rfl) (hx : scope.names.lookup x = some .local := by rfl)
    (hcell : ∀ y ∈ scope.names, y.2 ≠ .cell := by decide) (h0 : scope.names.lookup dot0 = some NameKind.local := by rfl) :
    wpAny (model prog w) A (eval (.GeneratorExp elt [⟨.Name x px, iter, [], 0⟩] scope pos) env) (fun v s₁ => wpAny (model prog w) A (call (.builtin "sum") [v]) Q E s₁) E ⟨c.h, c.g, d, t, os⟩ := by
  refine sx_gen (cl := cl) (kk := kk) S₀ (fun i v O h => PolyEl r nn (f i) v O h) (hA.mono (by omega)) hcA hrow hPA (wpAny_mono h (fun xv s₁ h₁ => ?_) fun _ _ e => e) hglob hs hcl hok hk hco hx hcell h0
  obtain ⟨c₁, t₁, n, P, rfl, S₁, it, hpos, hr, hq, hn1, hn, turn, done⟩ := h₁
  refine ⟨c₁, t₁, n, P, rfl, S₁, it, turn, fun c₅ t₅ M C I a S₅ e₅ u u2 fr aC aI hM hMl hks rr _ => ?_⟩
  have G : GenOk T0 M c₁ C I a := ⟨fun b hb => ⟨(fr b hb).1, (fr b hb).2.1, (fr b hb).2.2.1⟩, aC, aI⟩
  refine call_sum_gen S₁ (hA.mono (by omega)) G (fun b hb => (fr b (by simp at hb ⊢; rcases hb with rfl | rfl <;> simp)).2.2.1) hMl hr hq hn1 hn e₅ hks (rr A.in1 ((hA.mono (by omega)).in1 (n := kk + 2))) hpos fun c' t' p e' hp => ?_
  exact done c' t' p (S₁.go e'.nil) e' (S₁.up e'.nil) (S₁.up2 e'.nil) hp
end
end Mine
end

section
open PySem PySem.W PySem.Calls PyProof.Rows
set_option Elab.async false
set_option maxRecDepth 100000
set_option linter.unusedSimpArgs false
set_option linter.unusedVariables false
namespace Mine
theorem regM3 : PySem.Challenge.rw_yd0003_04 = PySem.Challenge.rw_yd0003_04 ∧ hd.heap_1 = hd.heap_1 := by k_fill; exact ⟨rfl, rfl⟩
theorem is_220cls (P : Params) : kitOne (KK P) (.ref 220) (.ref 220) = some true := by kernel_rfl
section
variable {prog : Program} {w : World} {A : Around} {E : Value → Shared → Prop} {c : Cr} {hp : Heap} {g : Array GenState} {d : Drawn} {t : Nat} {os : OsState} {O O₂ : List Addr} {R : Result → Shared → Prop}
theorem mkmat_spec {md ld r : Addr} {tr : Bool} {n RR C : Nat} {f : Mat} (hR : Rm 5 A) (G : Gd T0 [] O c.h) (B : Bg O O₂ c.h) (X : Wd w.params O c.h) (hd : Data O₂ c.h ld RR C r n f) (h3 : RR ≤ 1000) (h4 : C ≤ 1000)
    (hQ : ∀ c' t' m, Ext T0 [] c c' → Ins O₂ c'.h m 331 (mf md ld tr) → Data O₂ c'.h ld RR C r n f → R (.ok (.ret (.ref m))) ⟨c'.h, c'.g, d, t', os⟩) :
    codeAny (model prog w) A (.call (.ref 331) ⟨[.ref md, .ref ld], [("transpose", .bool tr)]⟩) R ⟨c.h, c.g, d, t, os⟩ := by
  refine x_make X.k (ok_mk331 _) fun c₁ p dx e₁ hpn hdn hpd hI _ => ?_
  have tO : ∀ b ∈ T0, b ∈ O := G.tin
  have hdT : dx ∉ T0 := fun z => G.fresh hdn (tO dx z)
  have hpT : p ∉ T0 := fun z => G.fresh hpn (tO p z)
  have e₁ := e₁ T0 []
  have uT : Up O c.h (dx :: T0) c₁.h := fun b o z => ⟨fun y => (by
    rcases List.mem_cons.mp y with rfl | y
    · have := z.2; rw [hdn] at this; cases this
    · exact z.1 (tO b y)), e₁.heap b o (fun y => z.1 (tO b y)) (by simp) z.2⟩
  have uT2 : Up O₂ c.h (dx :: T0) c₁.h := (Up.less B.sub).trans uT
  have u2 : Up O₂ c.h O₂ c₁.h := e₁.up (fun b hb => B.sub b (tO b hb)) (by simp)
  have hI' := hI (dx :: T0) (fun z => (by
    rcases List.mem_cons.mp z with z | z
    · exact hpd z
    · exact hpT z))
  obtain ⟨es, nn, hdc, _⟩ := hI'.dc
  have G₁ : Gd T0 [dx] (dx :: T0) c₁.h := ⟨fun b hb => .tail _ hb, fun b hb => by rw [List.mem_singleton.mp hb]; exact ⟨List.mem_cons_self .., hdT⟩, fun b hb => by
    rcases List.mem_cons.mp hb with rfl | hb
    · exact ⟨_, hdc⟩
    · obtain ⟨o, z⟩ := G.low b (tO b hb); exact e₁.there b o z, e₁.tab G.tab⟩
  refine matinit_spec (tr := tr) hR.make G₁ (X.up uT) hI' (hd.up uT2) h3 h4 fun c₂ t₂ e₂ hm => ?_
  have hdO₂ : dx ∉ O₂ := B.off hdn
  have e₂' := e₁.absorb e₂ fun b hb => .inl (by rw [List.mem_singleton.mp hb]; exact hdn)
  exact ⟨rfl, hQ c₂ t₂ p e₂' ⟨dx, hdO₂, ⟨B.off hpn, hm.ob.2⟩, hm.dc⟩ (hd.up (e₂'.up (fun b hb => B.sub b (tO b hb)) (by simp)))⟩
theorem matof_spec {md ld r : Addr} {tr : Bool} {n RR C : Nat} {f : Mat} (hR : Rm 6 A) (G : Gd T0 [] O c.h) (B : Bg O O₂ c.h) (X : Wd w.params O c.h) (hd : Data O₂ c.h ld RR C r n f) (h3 : RR ≤ 1000) (h4 : C ≤ 1000)
    (hQ : ∀ c' t' m, Ext T0 [] c c' → Ins O₂ c'.h m 331 (mf md ld tr) → Data O₂ c'.h ld RR C r n f → R (.ok (.ret (.ref m))) ⟨c'.h, c'.g, d, t', os⟩) :
    codeAny (model prog w) A (.call (.ref 357) ⟨[.ref md, .ref ld], [("transpose", .bool tr)]⟩) R ⟨c.h, c.g, d, t, os⟩ := by
  refine fn_in (f := 357) [("self", .ref md), ("data", .ref ld), ("transpose", .bool tr)] hR.room G X B (kk_lookup (by k_is) rfl) (by kernel_rfl) (binds_K (K := KK w.params) (s := ⟨c.h, c.g, d, t, os⟩) X.k rfl (kk_lookup (a := 350) (by k_is) rfl) rfl rfl rfl) (by kernel_rfl) (by decide +kernel) rfl rfl rfl ?_
  intro env c₁ t₁ O' O₂' he S u u2 sub subO e
  subst he
  refine wpAny_execs_cons (wpAny_Return_some (wpAny_Call_Name_kw (gl_name S.X (g_matrix _) (cwK2k S.X.k (keep_331 _) (x_name S.F.vars rfl (x_name S.F.vars rfl (x_name S.F.vars rfl ⟨S.X.k, wpAny_call ?_⟩)))))))
  refine mkmat_spec hR.deeper S.gdT S.bT S.xT (hd.up u2) h3 h4 fun c₂ t₂ m e₂ hm hd' => ?_
  exact hQ c₂ t₂ m (S.go e₂).F.ext (hm.up (Up.less sub)) (hd'.up (Up.less sub))
theorem modcall_spec {md ld r : Addr} {tr : Bool} {n RR C : Nat} {f : Mat} {args : Args} (hargs : (args = ⟨[.ref md, .ref ld], []⟩ ∧ tr = false) ∨ args = ⟨[.ref md, .ref ld, .bool tr], []⟩ ∨ args = ⟨[.ref md, .ref ld], [("transpose", .bool tr)]⟩)
    (hR : Rm 12 A) (G : Gd T0 [] O c.h) (B : Bg O O₂ c.h) (X : Wd w.params O c.h) (hmd : IsMod O c.h md r) (hd : Data O₂ c.h ld RR C r n f) (h1 : 1 ≤ RR) (h3 : RR ≤ 1000) (h4 : C ≤ 1000)
    (hQ : ∀ c' t' m, Ext T0 [] c c' → Ins O₂ c'.h m 331 (mf md ld tr) → Data O₂ c'.h ld RR C r n f → R (.ok (.ret (.ref m))) ⟨c'.h, c'.g, d, t', os⟩) :
    codeAny (model prog w) A (.call (.ref 365) args) R ⟨c.h, c.g, d, t, os⟩ := by
  refine fn_in (f := 365) [("self", .ref md), ("matrix_elements", .ref ld), ("transpose", .bool tr)] hR.room G X B (kk_lookup (by k_is) rfl) (by kernel_rfl) ?_ (by kernel_rfl) (by decide +kernel) rfl rfl rfl ?_
  · rcases hargs with ⟨rfl, rfl⟩ | rfl | rfl
    · exact binds_K (K := KK w.params) (s := ⟨c.h, c.g, d, t, os⟩) X.k rfl (kk_lookup (a := 358) (by k_is) rfl) rfl rfl rfl
    · exact binds_K (K := KK w.params) (s := ⟨c.h, c.g, d, t, os⟩) X.k rfl (kk_lookup (a := 358) (by k_is) rfl) rfl rfl rfl
    · exact binds_K (K := KK w.params) (s := ⟨c.h, c.g, d, t, os⟩) X.k rfl (kk_lookup (a := 358) (by k_is) rfl) rfl rfl rfl
  intro env c₁ t₁ O' O₂' he S u u2 sub subO e
  subst he
  have hd := hd.up u2
  have hdO : Data O' c₁.h ld RR C r n f := hd.up (Up.less S.B.sub)
  obtain ⟨vs, a1, a2, a3⟩ := id hdO
  obtain ⟨vs0, lr0, z1, z2, z3, z4⟩ := hdO.row (i := 0) (by omega)
  obtain ⟨ws0, y1, y2, y3⟩ := id z4
  refine wpAny_execs_cons (wpAny_If (isTrue_not (isTrue_plain (Call_ (bi_name S.X (nb_isinstance _) (bb_isinstance _) (cwB2 (x_name S.F.vars rfl (bi_name S.X (nb_list _) (bb_list _) (x_isList S.X a1.2 (is_listlist _) fun t' => x_truth ?_)))))))))
  refine ifFalse rfl (wpAny_execs_nil ?_)
  refine wpAny_execs_cons (wpAny_If (isTrue_plain (Call_ (bi_name S.X (nb_isinstance _) (bb_isinstance _) (cwB2 (Subscript_ (x_name S.F.vars rfl (x_int (x_item z1.2 (by decide) (by decide) z3 (bi_name S.X (nb_list _) (bb_list _) (x_isList S.X y1.2 (is_listlist _) fun t' => x_truth ?_)))))))))))
  refine ifTrue rfl ?_
  refine wpAny_execs_cons (sx_for S [] (fun i mm _ h => mm "self" = some (.ref md) ∧ mm "matrix_elements" = some (.ref ld) ∧ mm "transpose" = some (.bool tr)) ?_)
  refine x_name S.F.vars rfl ⟨c₁, _, vs.length, _, rfl, S, iter_list hR.1 a1.2 (fun z => a1.1 (S.F.tin _ z)) a1.1 (fun b hb => S.F.low b (S.F.tin b hb)), by simp, fun i mm O h O' h' a _ k => a, ⟨rfl, rfl, rfl⟩, ?_, ?_⟩
  · rintro I i v c₂ mm t R' E' hI hIO hIe hj hP S₂ u u2 ⟨n1, n2, n3⟩ k
    have hdO := hdO.up u
    obtain ⟨vs', lr, b1, b2, b3, b4⟩ := hdO.row (i := i) (by omega)
    have same : vs' = vs := by
      obtain ⟨k1, e1⟩ := b1.2
      obtain ⟨k2, e2⟩ := (a1.up u).2
      rw [e1] at e2
      injection e2 with e2; injection e2 with _ _ e3; injection e3 with e4; simpa using e4
    rw [same] at b3
    rw [b3] at hP
    obtain rfl : v = .ref lr := (Option.some.inj hP).symm
    obtain ⟨ws, w1, w2, w3⟩ := id b4
    refine wpAny_execs_cons (wpAny_If (isTrue_not (isTrue_plain (Call_ (bi_name S₂.X (nb_all _) (bb_all _) (cwB1 (sx_all (kk := 1) S₂ (hR.deeper.mono (by decide)) rfl (code_364 _) (by decide) ?_)))))))
    refine x_name S₂.F.vars rfl ⟨c₂, _, ws.length, _, rfl, S₂, iter_listU w1.2 (fun z => w1.1 (S₂.F.tin _ z)) w1.1 (fun b hb => S₂.F.low b (S₂.F.tin b hb)), ?_, ?_⟩
    · intro M A' j v it CC code c₃ t₃ Q' E' hA' hj hv S₃ u₃ u₃2 kq
      obtain ⟨vs3, p, x1, x2, x3, x4⟩ := Row.at b4 (j := j) (by omega)
      have e3 : vs3 = ws := by
        obtain ⟨k1, e1⟩ := x1.2
        obtain ⟨k2, e2⟩ := w1.2
        rw [e1] at e2
        injection e2 with e2; injection e2 with _ _ e3; injection e3 with e4; simpa using e4
      rw [e3] at x3
      rw [x3] at hv
      obtain rfl : v = .ref p := (Option.some.inj hv).symm
      obtain ⟨l, ip, _⟩ := x4.up u₃
      refine Call_ (bi_name S₃.X (nb_isinstance _) (bb_isinstance _) (cwB2 (x_name S₃.F.vars rfl (gl_name S₃.X (g_poly _) (x_isI S₃.X ip (ok_cls220 _) (is_220 _) fun t' => ?_)))))
      exact kq c₃ t' _ (Ext.refl ..) rfl
    · intro c₃ t₃ S₃ e₃ u₃ u₃2
      refine x_truth (ifFalse rfl (wpAny_execs_nil (wpAny_execs_nil (k c₃ _ _ S₃ u₃ ⟨n1, n2, n3⟩))))
  · rintro c₂ t₂ mm S₂ u u2 ⟨n1, n2, n3⟩
    have hmd := (hmd.up ‹Up O c.h O' c₁.h›).up u
    refine wpAny_execs_cons (wpAny_Return_some (methodCall_KW (x_name S₂.F.vars n1 (x_getM S₂.X hmd (cwK1k S₂.X.k (keep_357 _) (x_name S₂.F.vars n2 (x_name S₂.F.vars n3 ⟨S₂.X.k, wpAny_call ?_⟩))) rfl (meth_357 _)))))
    refine matof_spec (hR.deeper.mono (by decide)) S₂.gdT S₂.bT S₂.xT (hd.up u2) h3 h4 fun c₃ t₃ m e₃ hm hd' => ?_
    exact hQ c₃ t₃ m (S₂.go e₃).F.ext (hm.up (Up.less sub)) (hd'.up (Up.less sub))
end
end Mine
end

section
open PySem PySem.W PySem.Calls PyProof.Rows
set_option Elab.async false
set_option maxRecDepth 100000
set_option linter.unusedSimpArgs false
set_option linter.unusedVariables false
namespace Mine
theorem regM4 : PySem.Challenge.rw_yd0003_04 = PySem.Challenge.rw_yd0003_04 ∧ hd.heap_1 = hd.heap_1 := by k_fill; exact ⟨rfl, rfl⟩
theorem kf_375 (P : Params) : ∃ nm q bs hdct sn sub ab col dd k0 k1 k2 k3 k5 newId, (KK P).lookup 375 = some (excClassObj nm q 375 374 bs [.type "object"] hdct sn sub ab col dd k0 k1 k2 k3 k5 newId) :=
  ⟨_, _, _, _, _, _, _, _, _, _, _, _, _, _, _, kk_lookup (by k_is) rfl⟩
theorem ns374_eq (P : Params) : nsIn (KK P) 374 "__eq__" = some none ∧ nsIn (KK P) 374 "__ne__" = some none := ⟨by kernel_rfl, by kernel_rfl⟩
section
variable {prog : Program} {w : World} {A : Around} {E : Value → Shared → Prop} {c : Cr} {hp : Heap} {g : Array GenState} {d : Drawn} {t : Nat} {os : OsState} {O O₂ : List Addr} {R : Result → Shared → Prop} {x : Addr} {fs : List (Str × Value)}
theorem cmp_inst (X : Wd w.params O hp) (I : Ins O hp x 375 fs) : hp.CmpInst x 375 [.type "object"] := by
  obtain ⟨dx, es, n, J, r⟩ := I.at
  obtain ⟨nm, q, bs, hdct, sn, sub, ab, col, dd, k0, k1, k2, k3, k5, newId, e⟩ := kf_375 w.params
  obtain ⟨c, d, es', n', sl, e', k⟩ := kf_ns374 w.params
  have N : hp.Ns 374 _ := ⟨_, _, _, (X _ _ e').2, rfl, strKeys_of k, fun _ => rfl⟩
  exact ⟨_, nm, q, 374, bs, hdct, sn, sub, ab, col, dd, k0, k1, k2, k3, k5, newId, _, J.at_, J.cls, X.k _ _ e, N, ns_find X.k N (ns374_eq _).1, ns_find X.k N (ns374_eq _).2⟩
theorem x_neSame {Q : Value → Shared → Prop} (X : Wd w.params O hp) (I : Ins O hp x 375 fs) (hu : A.units + 1 < cLine) (h : Q (.bool false) ⟨hp, g, d, t, os⟩) : wpAny (model prog w) A (compareOp .NotEq (.ref x) (.ref x)) Q E ⟨hp, g, d, t, os⟩ :=
  compareOp_ne_same F.cmp_object (cmp_inst X I) hu h
/-- pairs of whole numbers -/
theorem x_neTup {l1 l2 : Addr} {a1 a2 b1 b2 : Int} {u1 u2 v1 v2 : Tok} {Q : Value → Shared → Prop} (hu : A.units < cLine) (h1 : hp.IsTuple l1 (List.toArray [.int a1 u1, .int a2 u2])) (h2 : hp.IsTuple l2 (List.toArray [.int b1 v1, .int b2 v2]))
    (h : Q (.bool (!(a1 == b1 && a2 == b2))) ⟨hp, g, d, t, os⟩) : wpAny (model prog w) A (compareOp .NotEq (.ref l1) (.ref l2)) Q E ⟨hp, g, d, t, os⟩ := by
  refine SeqAt.RcNeAt.tuples (e := fun k => if k = 0 then a1 == b1 else a2 == b2) (s := ⟨hp, g, d, t, os⟩) h1 h2 hu (fun j j1 j2 => ?_) prog w E Q ?_
  · have : j = 0 ∨ j = 1 := by simp at j1; omega
    rcases this with rfl | rfl
    · exact SeqAt.EqAt.int_int a1 u1 b1 v1
    · exact SeqAt.EqAt.int_int a2 u2 b2 v2
  · have : ((List.range (min (List.toArray [Value.int a1 u1, .int a2 u2]).size (List.toArray [Value.int b1 v1, .int b2 v2]).size)).all (fun k => if k = 0 then a1 == b1 else a2 == b2) && (List.toArray [Value.int a1 u1, .int a2 u2]).size == (List.toArray [Value.int b1 v1, .int b2 v2]).size) = (a1 == b1 && a2 == b2) := by
      simp [List.range_succ]
    rw [this]; exact h
theorem getitem_spec {m md r tp : Addr} {n high wide i j : Nat} {u1 u2 : Tok} {f : Mat} (hR : Rm 3 A) (G : Gd T0 [] O c.h) (X : Wd w.params O c.h) (hm : IsMat O c.h m md r n high wide f) (ht : Tup O c.h tp [.int i u1, .int j u2]) (hi : i < high) (hj : j < wide) (h3 : high ≤ 1000) (h4 : wide ≤ 1000)
    (hQ : ∀ c' t' p, Ext T0 [] c c' → IsPoly O c.h p r n (f i j) → R (.ok (.ret (.ref p))) ⟨c'.h, c'.g, d, t', os⟩) :
    codeAny (model prog w) A (.call (.ref 282) ⟨[.ref m, .ref tp], []⟩) R ⟨c.h, c.g, d, t, os⟩ := by
  refine fn_in (f := 282) [("self", .ref m), ("idx", .ref tp)] hR.room G X (O₂ := O) ⟨fun _ h => h, G.low⟩ (kk_lookup (by k_is) rfl) (by kernel_rfl) (BindsTo.of_eq rfl) (by kernel_rfl) (by decide +kernel) rfl rfl rfl ?_
  intro env c₁ t₁ O' O₂' he S u u2 sub subO e
  subst he
  obtain ⟨ld, tr, hi', hd⟩ := hm
  have hi₁ := hi'.up u
  have ht := ht.up u
  refine wpAny_execs_cons (wpAny_Assert_holds (isTrue_and (isTrue_plain (Call_ (bi_name S.X (nb_isinstance _) (bb_isinstance _) (cwB2 (x_name S.F.vars rfl (bi_name S.X (nb_tuple _) (bb_tuple _) (x_isTup S.X ht.2 (is_tuptup _) fun t' => x_truth ?_)))))))))
  simp only [if_true]
  refine isTrue_and (wpAny_isTrue_Compare1 (Call_ (bi_name S.X (nb_len _) (bb_len _) (cwB1 (x_name S.F.vars rfl (x_lenT ht.2 (by simp) (x_int (x_eq (x_truth ?_)))))))))
  refine ifTrue rfl (isTrue_and_nil ⟨rfl, ?_⟩)
  refine wpAny_execs_cons (wpAny_If (isTrue_not (isTrue_plain (Attribute_any_ (x_name S.F.vars rfl (x_get S.X hi₁ (x_truth ?_) rfl (ok_own331t _)))))))
  cases tr with
  | false =>
    obtain ⟨vs, lr, a1, a2, a3, a4⟩ := hd.row (i := i) (by simpa using hi)
    obtain ⟨ws, p, b1, b2, b3, b4⟩ := Row.at a4 (j := j) (by simpa using hj)
    refine ifTrue rfl (wpAny_execs_cons (wpAny_Return_some ?_))
    refine Subscript_ (Subscript_ (Attribute_any_ (x_name S.F.vars rfl (x_get S.X hi₁ ?_ rfl (ok_own331d _)))))
    refine Subscript_ (x_name S.F.vars rfl (x_int (x_itemT ht.2 (by decide) (by decide) rfl ?_)))
    refine x_item (a1.up u).2 (by omega) (by omega) (by simpa using a3) ?_
    refine Subscript_ (x_name S.F.vars rfl (x_int (x_itemT ht.2 (by decide) (by decide) rfl ?_)))
    refine x_item (b1.up u).2 (by omega) (by omega) (by simpa using b3) ?_
    exact hQ c₁ _ p e b4
  | true =>
    obtain ⟨vs, lr, a1, a2, a3, a4⟩ := hd.row (i := j) (by simpa using hj)
    obtain ⟨ws, p, b1, b2, b3, b4⟩ := Row.at a4 (j := i) (by simpa using hi)
    refine ifFalse rfl (wpAny_execs_cons (wpAny_Return_some ?_))
    refine Subscript_ (Subscript_ (Attribute_any_ (x_name S.F.vars rfl (x_get S.X hi₁ ?_ rfl (ok_own331d _)))))
    refine Subscript_ (x_name S.F.vars rfl (x_int (x_itemT ht.2 (by decide) (by decide) rfl ?_)))
    refine x_item (a1.up u).2 (by omega) (by omega) (by simpa using a3) ?_
    refine Subscript_ (x_name S.F.vars rfl (x_int (x_itemT ht.2 (by decide) (by decide) rfl ?_)))
    refine x_item (b1.up u).2 (by omega) (by omega) (by simpa using b3) ?_
    exact hQ c₁ _ p e b4
/-- `x[y, z]` -/
theorem x_mitem {W : List Addr} {c₀ : Cr} {env : Env} {mm : Str → Option Value} {pos p1 p2 p3 p4 : Pos} {kk} {x y z : Str} {m md r : Addr} {n high wide i j : Nat} {u1 u2 : Tok} {f : Mat} {Q : Value → Shared → Prop} (hR : Rm 4 A) (S : Sx w.params T0 W c₀ c O O₂ env mm) (hm : IsMat O c.h m md r n high wide f)
    (hx : mm x = some (.ref m)) (hy : mm y = some (.int i u1)) (hz : mm z = some (.int j u2)) (hi : i < high) (hj : j < wide) (h3 : high ≤ 1000) (h4 : wide ≤ 1000)
    (hQ : ∀ c' t' p, Ext T0 [] c c' → IsPoly O c'.h p r n (f i j) → Q (.ref p) ⟨c'.h, c'.g, d, t', os⟩)
    (vx : isVar env x = true := by rfl) (vy : isVar env y = true := by rfl) (vz : isVar env z = true := by rfl) (dx : (x == ("__debug__" : Str)) = false := by decide) (nx : (x == ("__classdict__" : Str)) = false := by decide) (dy : (y == ("__debug__" : Str)) = false := by decide) (ny : (y == ("__classdict__" : Str)) = false := by decide)
    (dz : (z == ("__debug__" : Str)) = false := by decide) (nz : (z == ("__classdict__" : Str)) = false := by decide) :
    wpAny (model prog w) A (eval (.Subscript (.Name x p1) (.Tuple [.Name y p2, .Name z p3] kk p4) pos) env) Q E ⟨c.h, c.g, d, t, os⟩ := by
  refine Subscript_ (x_name S.F.vars hx (x_tuple (args_cons (x_name S.F.vars hy (args_cons (x_name S.F.vars hz (args_nil ⟨c, _, rfl, Nat.le_of_ble_eq_true rfl, fun c₂ tp e₂ htp hn => ?_⟩) vz dz nz)) vy dy ny))) vx dx nx)
  have e₂ := e₂ T0 []
  have S₂ := S.go e₂.nil
  have hm₂ := hm.up (S.up e₂.nil)
  obtain ⟨ld, tr, hi', hd⟩ := id hm₂
  refine x_sub_ S₂.X hi' (ok_item331 _) (wpAny_call (getitem_spec (hR.in1 (n := 3)) S₂.gd0 S₂.X hm₂ ⟨fun q => S.B.off hn (S.B.sub _ q), htp⟩ hi hj h3 h4 fun c₃ t₃ p e₃ hp => ?_))
  exact hQ c₃ t₃ p (e₂.trans e₃) (hp.up (S₂.up e₃.nil))
end
end Mine
end

section
open PySem PySem.W PySem.Calls PyProof.Rows
set_option Elab.async false
set_option maxRecDepth 100000
set_option linter.unusedSimpArgs false
set_option linter.unusedVariables false
namespace Mine
theorem regM5 : PySem.Challenge.rw_yd0003_04 = PySem.Challenge.rw_yd0003_04 ∧ hd.heap_1 = hd.heap_1 := by k_fill; exact ⟨rfl, rfl⟩
section
variable {prog : Program} {w : World} {A : Around} {E : Value → Shared → Prop} {c c₀ : Cr} {hp : Heap} {g : Array GenState} {d : Drawn} {t : Nat} {os : OsState} {T W O O₂ : List Addr} {R : Result → Shared → Prop} {env : Env} {m : Str → Option Value}
theorem sx_unpack2 {x y : Str} {px py tpos : Pos} {kk} {tp : Addr} {v1 v2 : Value} {Q : Unit → Shared → Prop} (S : Sx w.params T W c₀ c O O₂ env m) (hh : A.handled = none) (ht : c.h.IsTuple tp (List.toArray [v1, v2]))
    (h : ∀ c' t', Sx w.params T W c₀ c' O O₂ env (upd (upd m x v1) y v2) → Up O c.h O c'.h → Up O₂ c.h O₂ c'.h → Q () ⟨c'.h, c'.g, d, t', os⟩) (hx : isVar env x = true := by rfl) (hxf : (env.kindOf x == some .free) = false := by rfl) (hy : isVar env y = true := by rfl) (hyf : (env.kindOf y == some .free) = false := by rfl) :
    wpAny (model prog w) A (assign (.Tuple [.Name x px, .Name y py] kk tpos) env (.ref tp)) Q E ⟨c.h, c.g, d, t, os⟩ := by
  refine wpAny_assign_Tuple (s := ⟨c.h, c.g, d, t, os⟩) hh ht rfl rfl fun h₁ he₁ => ?_
  have e1 : Ext T [] c ⟨h₁, c.g⟩ := Ext.of_keep fun b o e => he₁ b o (Nat.ne_of_lt (Heap.lt_size e)) e
  have S₁ := S.go e1.nil
  show wpAny _ _ (assignInOrder [assign (.Name x px) env, assign (.Name y py) env] [v1, v2]) _ _ _
  refine assignInOrder_cons (wpAny_assign_Name (sx_store S₁ (fun c₂ t₂ _ _ S₂ u u2 _ => ?_) hx hxf))
  refine assignInOrder_cons (wpAny_assign_Name (sx_store S₂ (fun c₃ t₃ _ _ S₃ u' u2' _ => ?_) hy hyf))
  exact assignInOrder_nil (h c₃ t₃ S₃ (((S.up e1.nil).trans u).trans u') (((S.up2 e1.nil).trans u2).trans u2'))
end
section
variable {prog : Program} {w : World} {A : Around} {E : Value → Shared → Prop} {hp : Heap} {g : Array GenState} {d : Drawn} {t : Nat} {os : OsState} {O : List Addr} {x C : Addr} {fs : List (Str × Value)} {env : Env}
theorem cwI2 {f : Addr} {pos : Pos} {e e' : Expr} {Q : Value → Shared → Prop} (X : Wd w.params O hp) (I : Ins O hp x C fs) (hk : icOk (KK w.params) C f = true)
    (h : wpAny (model prog w) A (eval e env) (fun v s₁ => wpAny (model prog w) A (eval e' env) (fun v' s₁ => (∃ O', Wd w.params O' s₁.heap ∧ Up O hp O' s₁.heap) ∧ codeAny (model prog w) A (.call (.ref f) ⟨[.ref x, v, v'], []⟩) (fun r s' => match r with | .ok (.ret v) => Q v s' | .ok _ => False | .error e => E e s') s₁) E s₁) E ⟨hp, g, d, t, os⟩)
    (he : starEach [e, e'] env = (false, eval e env) :: starEach [e'] env := by rfl) (he' : starEach [e'] env = [(false, eval e' env)] := by rfl) : wpAny (model prog w) A (callWith pos (.ref x) [] (backTo pos (starEach [e, e'] env)) []) Q E ⟨hp, g, d, t, os⟩ := by
  refine cwI_of X I hk (by rw [he, he']; rfl) ?_
  have z : wpAny (model prog w) A (spliced (backTo pos (starEach [e, e'] env))) (fun vs s₁ => (∃ O', Wd w.params O' s₁.heap ∧ Up O hp O' s₁.heap) ∧ codeAny (model prog w) A (.call (.ref f) ⟨.ref x :: vs, []⟩) (fun r s' => match r with | .ok (.ret v) => Q v s' | .ok _ => False | .error e => E e s') s₁) E ⟨hp, g, d, t, os⟩ :=
    args_cons (wpAny_mono h (fun v s₁ h₁ => args_cons (wpAny_mono h₁ (fun v s₁ h₁ => args_nil h₁) fun _ _ e => e) he') fun _ _ e => e) he
  rw [he] at z ⊢
  exact evalArgs_plain z
end
section
variable {prog : Program} {w : World} {A : Around} {E : Value → Shared → Prop} {c : Cr} {d : Drawn} {t : Nat} {os : OsState} {O O₂ : List Addr} {R : Result → Shared → Prop}
set_option maxHeartbeats 1000000 in
theorem madd_spec {m1 m2 md r : Addr} {q : Int} {n high wide : Nat} {f1 f2 : Mat} (hR : Rm 14 A) (G : Gd T0 [] O c.h) (B : Bg O O₂ c.h) (X : Wd w.params O c.h) (hmd : IsMod O c.h md r) (hr : IsRing O c.h r q n) (h1 : IsMat O c.h m1 md r n high wide f1) (h2 : IsMat O c.h m2 md r n high wide f2) (hq : q ≠ 0) (hn : n ≤ 1000)
    (a1 : 1 ≤ high) (a2 : 1 ≤ wide) (a3 : high ≤ 1000) (a4 : wide ≤ 1000)
    (hQ : ∀ c' t' m', Ext T0 [] c c' → IsMat O₂ c'.h m' md r n high wide (fun i j k => (f1 i j k + f2 i j k).fmod q) → R (.ok (.ret (.ref m'))) ⟨c'.h, c'.g, d, t', os⟩) :
    codeAny (model prog w) A (.call (.ref 297) ⟨[.ref m1, .ref m2], []⟩) R ⟨c.h, c.g, d, t, os⟩ := by
  refine fn_in (f := 297) [("self", .ref m1), ("other", .ref m2)] hR.room G X B (kk_lookup (by k_is) rfl) (by kernel_rfl) (BindsTo.of_eq rfl) (by kernel_rfl) (by decide +kernel) rfl rfl rfl ?_
  intro env c₁ t₁ O' O₂' he S u u2 sub subO e
  have hR := hR.deeper (env := env)
  subst he
  have h1 := h1.up u; have h2 := h2.up u; have hmd := hmd.up u; have hr := hr.up u
  obtain ⟨ld1, tr1, i1, _⟩ := id h1
  obtain ⟨ld2, tr2, i2, _⟩ := id h2
  refine wpAny_execs_cons (wpAny_If (isTrue_not (isTrue_plain (Call_ (bi_name S.X (nb_isinstance _) (bb_isinstance _) (cwB2 (x_name S.F.vars rfl (Call_ (bi_name S.X (nb_type _) (bb_type _) (cwT1 (x_name S.F.vars rfl (x_type i1 (x_isI S.X i2 (ok_cls331 _) (is_331 _) fun t' => x_truth ?_)))))))))))))
  refine ifFalse rfl (wpAny_execs_nil ?_)
  refine wpAny_execs_cons (wpAny_If (wpAny_isTrue_Compare1 (Attribute_any_ (x_name S.F.vars rfl (x_get S.X i1 (Attribute_any_ (x_name S.F.vars rfl (x_get S.X i2 (x_neSame S.X hmd (by have := hR.2.2; show _ < 9900; omega) (x_truth ?_)) rfl (ok_own331p _)))) rfl (ok_own331p _))))))
  refine ifFalse rfl (wpAny_execs_nil ?_)
  refine wpAny_execs_cons (wpAny_If (wpAny_isTrue_Compare1 (MethodCall_ (x_name S.F.vars rfl (x_getM S.X i1 (cwK0 (keep_246 _) S.X.k (wpAny_call (dim_spec (hR.mono (by decide)) S.gd0 S.B S.X h1 a1 a2 a3 a4 fun c₂ t₂ tp1 u1 u2 e₂ ht1 => ?_))) rfl (meth_246 _))))))
  have S := S.go e₂
  have u := ‹Sx w.params T0 [] c c₁ O' O₂' _ _›.up e₂
  have h1 := h1.up u; have h2 := h2.up u; have hmd := hmd.up u; have hr := hr.up u; have i1 := i1.up u; have i2 := i2.up u
  refine MethodCall_ (x_name S.F.vars rfl (x_getM S.X i2 (cwK0 (keep_246 _) S.X.k (wpAny_call (dim_spec (hR.mono (by decide)) S.gd0 S.B S.X h2 a1 a2 a3 a4 fun c₃ t₃ tp2 u1' u2' e₃ ht2 => ?_))) rfl (meth_246 _)))
  have u3 := S.up e₃
  have ht1 := ht1.up (S.up2 e₃)
  have S₃ := S.go e₃
  have h1 := h1.up u3; have h2 := h2.up u3; have hmd := hmd.up u3; have hr := hr.up u3; have i1 := i1.up u3
  refine x_neTup hR.units ht1.2 ht2.2 (x_truth ?_)
  refine ifFalse (by simp) (wpAny_execs_nil ?_)
  refine wpAny_execs_cons (Assign_Tuple (MethodCall_ (x_name S₃.F.vars rfl (x_getM S₃.X i1 (cwK0 (keep_246 _) S₃.X.k (wpAny_call (dim_spec (hR.mono (by decide)) S₃.gd0 S₃.B S₃.X h1 a1 a2 a3 a4 fun c₄ t₄ tp3 v1 v2 e₄ ht3 => ?_))) rfl (meth_246 _)))))
  have u4 := S₃.up e₄
  have S₄ := S₃.go e₄
  have h1 := h1.up u4; have h2 := h2.up u4; have hmd := hmd.up u4; have hr := hr.up u4; have i1 := i1.up u4
  refine sx_unpack2 S₄ hR.1 ht3.2 fun c₅ t₅ S₅ u5 u52 => ?_
  have h1 := h1.up u5; have h2 := h2.up u5; have hmd := hmd.up u5; have hr := hr.up u5; have i1 := i1.up u5
  refine wpAny_execs_cons (wpAny_Return_some (MethodCall_ (x_name S₅.F.vars rfl (x_getMo S₅.X i1 (cwI2 S₅.X hmd (ok_call375 _) ?_)))))
  refine sx_comp0 S₅ (fun i v O h => RowEl r n wide (fun j k => (f1 i j k + f2 i j k).fmod q) v O h) ?_
  refine Call_ (bi_name S₅.X (nb_range _) (bb_range _) (cwT1 (x_name S₅.F.vars rfl (x_range1 (by omega) fun c₆ rg t₆ e₆ it => ?_))))
  have u6 := S₅.up (e₆ _ _)
  have S₆ := S₅.go (e₆ _ _)
  have h1 := h1.up u6; have h2 := h2.up u6; have hmd₆ := hmd.up u6; have hr := hr.up u6
  refine ⟨c₆, t₆, high, _, rfl, S₆, it T0 [] _ hR.1 (fun b hb => S₆.F.low b (S₆.F.tin b hb)), by rw [sizeLine_eq]; omega, rowEl_up, ?_, ?_⟩
  · rintro M i v nn L c t Q' E' hi ⟨ti, hv⟩ S e u u2 k
    subst hv
    have h1 := h1.up u; have h2 := h2.up u; have hr := hr.up u
    refine sx_comp0 S (fun j v O h => PolyEl r n (fun k => (f1 i j k + f2 i j k).fmod q) v O h) ?_
    refine Call_ (bi_name S.X (nb_range _) (bb_range _) (cwT1 (x_name S.F.vars rfl (x_range1 (by omega) fun c₇ rg t₇ e₇ it => ?_))))
    have u7 := S.up (e₇ _ _)
    have S₇ := S.go (e₇ _ _)
    have h1 := h1.up u7; have h2 := h2.up u7; have hr := hr.up u7
    refine ⟨c₇, t₇, wide, _, rfl, S₇, it T0 [] _ hR.1 (fun b hb => S₇.F.low b (S₇.F.tin b hb)), by rw [sizeLine_eq]; omega, polyEl_up, ?_, ?_⟩
    · rintro M' j v nn' L' c t Q'' E'' hj ⟨tj, hv⟩ S e u u2 k'
      subst hv
      have h1 := h1.up u; have h2 := h2.up u; have hr := hr.up u
      refine wpAny_BinOp (x_mitem (hR.mono (by decide)) S h1 rfl rfl rfl hi hj a3 a4 fun ca ta pa ea hpa => ?_)
      have Sa := S.go ea
      have ua := S.up ea
      have h2 := h2.up ua; have hr := hr.up ua
      refine x_mitem (hR.mono (by decide)) Sa h2 rfl rfl rfl hi hj a3 a4 fun cb tb pb eb hpb => ?_
      have Sb := Sa.go eb
      have ub := Sa.up eb
      have hpa := hpa.up ub; have hr := hr.up ub
      obtain ⟨la, ia, _⟩ := id hpa
      obtain ⟨lb, ib, _⟩ := id hpb
      refine x_bin Sb.X ia ib (ok_add220 _) (wpAny_call (add_spec (hR.mono (by decide)) Sb.gdT Sb.bT Sb.xT (hr.up Sb.uT) (hpa.up Sb.uT) (hpb.up Sb.uT) hq hn fun cc tc pc ec hpc => ?_))
      exact k' cc tc _ ((ea.trans eb).trans ec) ⟨pc, rfl, hpc⟩
    · rintro D c₈ t₈ _ S₈ e₈ u₈ u₈2 hD
      exact k c₈ t₈ _ ((e₇ _ _).trans e₈) ⟨D, rfl, hD⟩
  · rintro D c₈ t₈ _ S₈ e₈ u₈ u₈2 hD
    have hmd₈ := hmd₆.up u₈
    refine x_bool ⟨⟨O', S₈.X, u6.trans u₈⟩, ?_⟩
    refine modcall_spec (.inr (.inl rfl)) (hR.mono (by decide)) S₈.gdT S₈.bT S₈.xT (hmd₈.up S₈.uT) hD a1 a3 a4 fun c₉ t₉ m' e₉ hm' hd' => ?_
    exact hQ c₉ t₉ m' (S₈.go e₉).F.ext (IsMat.up (O := O₂') ⟨D, false, hm', hd'⟩ (Up.less sub))
end
end Mine
end

section
open PySem PySem.W PySem.Calls PyProof.Rows
set_option Elab.async false
set_option maxRecDepth 100000
set_option linter.unusedSimpArgs false
set_option linter.unusedVariables false
namespace Mine
theorem regM6 : PySem.Challenge.rw_yd0003_04 = PySem.Challenge.rw_yd0003_04 ∧ hd.heap_1 = hd.heap_1 := by k_fill; exact ⟨rfl, rfl⟩
section
variable {prog : Program} {w : World} {A : Around} {E : Value → Shared → Prop} {c : Cr} {d : Drawn} {t : Nat} {os : OsState} {O O₂ : List Addr} {R : Result → Shared → Prop}
set_option maxHeartbeats 1000000 in
theorem msub_spec {m1 m2 md r : Addr} {q : Int} {n high wide : Nat} {f1 f2 : Mat} (hR : Rm 14 A) (G : Gd T0 [] O c.h) (B : Bg O O₂ c.h) (X : Wd w.params O c.h) (hmd : IsMod O c.h md r) (hr : IsRing O c.h r q n) (h1 : IsMat O c.h m1 md r n high wide f1) (h2 : IsMat O c.h m2 md r n high wide f2) (hq : q ≠ 0) (hn : n ≤ 1000)
    (a1 : 1 ≤ high) (a2 : 1 ≤ wide) (a3 : high ≤ 1000) (a4 : wide ≤ 1000)
    (hQ : ∀ c' t' m', Ext T0 [] c c' → IsMat O₂ c'.h m' md r n high wide (fun i j k => (f1 i j k - f2 i j k).fmod q) → R (.ok (.ret (.ref m'))) ⟨c'.h, c'.g, d, t', os⟩) :
    codeAny (model prog w) A (.call (.ref 309) ⟨[.ref m1, .ref m2], []⟩) R ⟨c.h, c.g, d, t, os⟩ := by
  refine fn_in (f := 309) [("self", .ref m1), ("other", .ref m2)] hR.room G X B (kk_lookup (by k_is) rfl) (by kernel_rfl) (BindsTo.of_eq rfl) (by kernel_rfl) (by decide +kernel) rfl rfl rfl ?_
  intro env c₁ t₁ O' O₂' he S u u2 sub subO e
  have hR := hR.deeper (env := env)
  subst he
  have h1 := h1.up u; have h2 := h2.up u; have hmd := hmd.up u; have hr := hr.up u
  obtain ⟨ld1, tr1, i1, _⟩ := id h1
  obtain ⟨ld2, tr2, i2, _⟩ := id h2
  refine wpAny_execs_cons (wpAny_If (isTrue_not (isTrue_plain (Call_ (bi_name S.X (nb_isinstance _) (bb_isinstance _) (cwB2 (x_name S.F.vars rfl (Call_ (bi_name S.X (nb_type _) (bb_type _) (cwT1 (x_name S.F.vars rfl (x_type i1 (x_isI S.X i2 (ok_cls331 _) (is_331 _) fun t' => x_truth ?_)))))))))))))
  refine ifFalse rfl (wpAny_execs_nil ?_)
  refine wpAny_execs_cons (wpAny_If (wpAny_isTrue_Compare1 (Attribute_any_ (x_name S.F.vars rfl (x_get S.X i1 (Attribute_any_ (x_name S.F.vars rfl (x_get S.X i2 (x_neSame S.X hmd (by have := hR.2.2; show _ < 9900; omega) (x_truth ?_)) rfl (ok_own331p _)))) rfl (ok_own331p _))))))
  refine ifFalse rfl (wpAny_execs_nil ?_)
  refine wpAny_execs_cons (wpAny_If (wpAny_isTrue_Compare1 (MethodCall_ (x_name S.F.vars rfl (x_getM S.X i1 (cwK0 (keep_246 _) S.X.k (wpAny_call (dim_spec (hR.mono (by decide)) S.gd0 S.B S.X h1 a1 a2 a3 a4 fun c₂ t₂ tp1 u1 u2 e₂ ht1 => ?_))) rfl (meth_246 _))))))
  have S := S.go e₂
  have u := ‹Sx w.params T0 [] c c₁ O' O₂' _ _›.up e₂
  have h1 := h1.up u; have h2 := h2.up u; have hmd := hmd.up u; have hr := hr.up u; have i1 := i1.up u; have i2 := i2.up u
  refine MethodCall_ (x_name S.F.vars rfl (x_getM S.X i2 (cwK0 (keep_246 _) S.X.k (wpAny_call (dim_spec (hR.mono (by decide)) S.gd0 S.B S.X h2 a1 a2 a3 a4 fun c₃ t₃ tp2 u1' u2' e₃ ht2 => ?_))) rfl (meth_246 _)))
  have u3 := S.up e₃
  have ht1 := ht1.up (S.up2 e₃)
  have S₃ := S.go e₃
  have h1 := h1.up u3; have h2 := h2.up u3; have hmd := hmd.up u3; have hr := hr.up u3; have i1 := i1.up u3
  refine x_neTup hR.units ht1.2 ht2.2 (x_truth ?_)
  refine ifFalse (by simp) (wpAny_execs_nil ?_)
  refine wpAny_execs_cons (Assign_Tuple (MethodCall_ (x_name S₃.F.vars rfl (x_getM S₃.X i1 (cwK0 (keep_246 _) S₃.X.k (wpAny_call (dim_spec (hR.mono (by decide)) S₃.gd0 S₃.B S₃.X h1 a1 a2 a3 a4 fun c₄ t₄ tp3 v1 v2 e₄ ht3 => ?_))) rfl (meth_246 _)))))
  have u4 := S₃.up e₄
  have S₄ := S₃.go e₄
  have h1 := h1.up u4; have h2 := h2.up u4; have hmd := hmd.up u4; have hr := hr.up u4; have i1 := i1.up u4
  refine sx_unpack2 S₄ hR.1 ht3.2 fun c₅ t₅ S₅ u5 u52 => ?_
  have h1 := h1.up u5; have h2 := h2.up u5; have hmd := hmd.up u5; have hr := hr.up u5; have i1 := i1.up u5
  refine wpAny_execs_cons (wpAny_Return_some (MethodCall_ (x_name S₅.F.vars rfl (x_getMo S₅.X i1 (cwI2 S₅.X hmd (ok_call375 _) ?_)))))
  refine sx_comp0 S₅ (fun i v O h => RowEl r n wide (fun j k => (f1 i j k - f2 i j k).fmod q) v O h) ?_
  refine Call_ (bi_name S₅.X (nb_range _) (bb_range _) (cwT1 (x_name S₅.F.vars rfl (x_range1 (by omega) fun c₆ rg t₆ e₆ it => ?_))))
  have u6 := S₅.up (e₆ _ _)
  have S₆ := S₅.go (e₆ _ _)
  have h1 := h1.up u6; have h2 := h2.up u6; have hmd₆ := hmd.up u6; have hr := hr.up u6
  refine ⟨c₆, t₆, high, _, rfl, S₆, it T0 [] _ hR.1 (fun b hb => S₆.F.low b (S₆.F.tin b hb)), by rw [sizeLine_eq]; omega, rowEl_up, ?_, ?_⟩
  · rintro M i v nn L c t Q' E' hi ⟨ti, hv⟩ S e u u2 k
    subst hv
    have h1 := h1.up u; have h2 := h2.up u; have hr := hr.up u
    refine sx_comp0 S (fun j v O h => PolyEl r n (fun k => (f1 i j k - f2 i j k).fmod q) v O h) ?_
    refine Call_ (bi_name S.X (nb_range _) (bb_range _) (cwT1 (x_name S.F.vars rfl (x_range1 (by omega) fun c₇ rg t₇ e₇ it => ?_))))
    have u7 := S.up (e₇ _ _)
    have S₇ := S.go (e₇ _ _)
    have h1 := h1.up u7; have h2 := h2.up u7; have hr := hr.up u7
    refine ⟨c₇, t₇, wide, _, rfl, S₇, it T0 [] _ hR.1 (fun b hb => S₇.F.low b (S₇.F.tin b hb)), by rw [sizeLine_eq]; omega, polyEl_up, ?_, ?_⟩
    · rintro M' j v nn' L' c t Q'' E'' hj ⟨tj, hv⟩ S e u u2 k'
      subst hv
      have h1 := h1.up u; have h2 := h2.up u; have hr := hr.up u
      refine wpAny_BinOp (x_mitem (hR.mono (by decide)) S h1 rfl rfl rfl hi hj a3 a4 fun ca ta pa ea hpa => ?_)
      have Sa := S.go ea
      have ua := S.up ea
      have h2 := h2.up ua; have hr := hr.up ua
      refine x_mitem (hR.mono (by decide)) Sa h2 rfl rfl rfl hi hj a3 a4 fun cb tb pb eb hpb => ?_
      have Sb := Sa.go eb
      have ub := Sa.up eb
      have hpa := hpa.up ub; have hr := hr.up ub
      obtain ⟨la, ia, _⟩ := id hpa
      obtain ⟨lb, ib, _⟩ := id hpb
      refine x_bin Sb.X ia ib (ok_sub220 _) (wpAny_call (sub_spec (hR.mono (by decide)) Sb.gdT Sb.bT Sb.xT (hr.up Sb.uT) (hpa.up Sb.uT) (hpb.up Sb.uT) hq hn fun cc tc pc ec hpc => ?_))
      exact k' cc tc _ ((ea.trans eb).trans ec) ⟨pc, rfl, hpc⟩
    · rintro D c₈ t₈ _ S₈ e₈ u₈ u₈2 hD
      exact k c₈ t₈ _ ((e₇ _ _).trans e₈) ⟨D, rfl, hD⟩
  · rintro D c₈ t₈ _ S₈ e₈ u₈ u₈2 hD
    have hmd₈ := hmd₆.up u₈
    refine x_bool ⟨⟨O', S₈.X, u6.trans u₈⟩, ?_⟩
    refine modcall_spec (.inr (.inl rfl)) (hR.mono (by decide)) S₈.gdT S₈.bT S₈.xT (hmd₈.up S₈.uT) hD a1 a3 a4 fun c₉ t₉ m' e₉ hm' hd' => ?_
    exact hQ c₉ t₉ m' (S₈.go e₉).F.ext (IsMat.up (O := O₂') ⟨D, false, hm', hd'⟩ (Up.less sub))
theorem miadd_spec {m1 m2 md r : Addr} {q : Int} {n high wide : Nat} {f1 f2 : Mat} (hR : Rm 15 A) (G : Gd T0 [] O c.h) (B : Bg O O₂ c.h) (X : Wd w.params O c.h) (hmd : IsMod O c.h md r) (hr : IsRing O c.h r q n) (h1 : IsMat O c.h m1 md r n high wide f1) (h2 : IsMat O c.h m2 md r n high wide f2) (hq : q ≠ 0) (hn : n ≤ 1000)
    (a1 : 1 ≤ high) (a2 : 1 ≤ wide) (a3 : high ≤ 1000) (a4 : wide ≤ 1000)
    (hQ : ∀ c' t' m', Ext T0 [] c c' → IsMat O₂ c'.h m' md r n high wide (fun i j k => (f1 i j k + f2 i j k).fmod q) → R (.ok (.ret (.ref m'))) ⟨c'.h, c'.g, d, t', os⟩) :
    codeAny (model prog w) A (.call (.ref 304) ⟨[.ref m1, .ref m2], []⟩) R ⟨c.h, c.g, d, t, os⟩ := by
  refine fn_in (f := 304) [("self", .ref m1), ("other", .ref m2)] hR.room G X B (kk_lookup (by k_is) rfl) (by kernel_rfl) (BindsTo.of_eq rfl) (by kernel_rfl) (by decide +kernel) rfl rfl rfl ?_
  intro env c₁ t₁ O' O₂' he S u u2 sub subO e
  have hR := hR.deeper (env := env)
  subst he
  have h1 := h1.up u; have h2 := h2.up u; have hmd := hmd.up u; have hr := hr.up u
  obtain ⟨ld1, tr1, i1, _⟩ := id h1
  obtain ⟨ld2, tr2, i2, _⟩ := id h2
  refine wpAny_execs_cons (wpAny_Assign_Name (wpAny_BinOp (x_name S.F.vars rfl (x_name S.F.vars rfl (x_bin S.X i1 i2 (ok_add331 _) (wpAny_call (madd_spec hR S.gdT S.bT S.xT (hmd.up S.uT) (hr.up S.uT) (h1.up S.uT) (h2.up S.uT) hq hn a1 a2 a3 a4 fun c₂ t₂ m' e₂ hm' => ?_)))))))
  refine sx_store (S.go e₂) fun c₃ t₃ _ _ S₃ u3 u32 _ => ?_
  refine wpAny_execs_cons (wpAny_Return_some (x_name S₃.F.vars rfl ?_))
  exact hQ c₃ _ m' S₃.F.ext ((hm'.up u32).up (Up.less sub))
theorem misub_spec {m1 m2 md r : Addr} {q : Int} {n high wide : Nat} {f1 f2 : Mat} (hR : Rm 15 A) (G : Gd T0 [] O c.h) (B : Bg O O₂ c.h) (X : Wd w.params O c.h) (hmd : IsMod O c.h md r) (hr : IsRing O c.h r q n) (h1 : IsMat O c.h m1 md r n high wide f1) (h2 : IsMat O c.h m2 md r n high wide f2) (hq : q ≠ 0) (hn : n ≤ 1000)
    (a1 : 1 ≤ high) (a2 : 1 ≤ wide) (a3 : high ≤ 1000) (a4 : wide ≤ 1000)
    (hQ : ∀ c' t' m', Ext T0 [] c c' → IsMat O₂ c'.h m' md r n high wide (fun i j k => (f1 i j k - f2 i j k).fmod q) → R (.ok (.ret (.ref m'))) ⟨c'.h, c'.g, d, t', os⟩) :
    codeAny (model prog w) A (.call (.ref 316) ⟨[.ref m1, .ref m2], []⟩) R ⟨c.h, c.g, d, t, os⟩ := by
  refine fn_in (f := 316) [("self", .ref m1), ("other", .ref m2)] hR.room G X B (kk_lookup (by k_is) rfl) (by kernel_rfl) (BindsTo.of_eq rfl) (by kernel_rfl) (by decide +kernel) rfl rfl rfl ?_
  intro env c₁ t₁ O' O₂' he S u u2 sub subO e
  have hR := hR.deeper (env := env)
  subst he
  have h1 := h1.up u; have h2 := h2.up u; have hmd := hmd.up u; have hr := hr.up u
  obtain ⟨ld1, tr1, i1, _⟩ := id h1
  obtain ⟨ld2, tr2, i2, _⟩ := id h2
  refine wpAny_execs_cons (wpAny_Assign_Name (wpAny_BinOp (x_name S.F.vars rfl (x_name S.F.vars rfl (x_bin S.X i1 i2 (ok_sub331 _) (wpAny_call (msub_spec hR S.gdT S.bT S.xT (hmd.up S.uT) (hr.up S.uT) (h1.up S.uT) (h2.up S.uT) hq hn a1 a2 a3 a4 fun c₂ t₂ m' e₂ hm' => ?_)))))))
  refine sx_store (S.go e₂) fun c₃ t₃ _ _ S₃ u3 u32 _ => ?_
  refine wpAny_execs_cons (wpAny_Return_some (x_name S₃.F.vars rfl ?_))
  exact hQ c₃ _ m' S₃.F.ext ((hm'.up u32).up (Up.less sub))
end
end Mine
end

section
open PySem PySem.W PySem.Calls PyProof.Rows
set_option Elab.async false
set_option maxRecDepth 100000
set_option linter.unusedSimpArgs false
set_option linter.unusedVariables false
namespace Mine
theorem regM7 : PySem.Challenge.rw_yd0003_04 = PySem.Challenge.rw_yd0003_04 ∧ hd.heap_1 = hd.heap_1 := by k_fill; exact ⟨rfl, rfl⟩
noncomputable def prodM (n : Nat) (q : Int) (mid : Nat) (f g : Mat) : Mat := fun i j => accP (fun k => fun x => (conv n (f i k) (g k j) x).fmod q) q mid
section
variable {prog : Program} {w : World} {A : Around} {E : Value → Shared → Prop} {c : Cr} {d : Drawn} {t : Nat} {os : OsState} {O O₂ : List Addr} {R : Result → Shared → Prop}
set_option maxHeartbeats 2000000 in
theorem mmul_spec {m1 m2 md r : Addr} {q : Int} {n high mid wide : Nat} {f1 f2 : Mat} (hR : Rm 26 A) (G : Gd T0 [] O c.h) (B : Bg O O₂ c.h) (X : Wd w.params O c.h) (hmd : IsMod O c.h md r) (hr : IsRing O c.h r q n) (h1 : IsMat O c.h m1 md r n high mid f1) (h2 : IsMat O c.h m2 md r n mid wide f2) (hq : q ≠ 0) (hn1 : 1 ≤ n) (hn : n ≤ 1000)
    (a1 : 1 ≤ high) (a2 : 1 ≤ wide) (a3 : high ≤ 1000) (a4 : wide ≤ 1000) (a5 : 1 ≤ mid) (a6 : mid ≤ 1000)
    (hm : ∀ i k j, i < high → k < mid → j < wide → ∀ a b, a < n → b < n → IntMulOk (f1 i k a) (f2 k j b))
    (hQ : ∀ c' t' m', Ext T0 [] c c' → IsMat O₂ c'.h m' md r n high wide (prodM n q mid f1 f2) → R (.ok (.ret (.ref m'))) ⟨c'.h, c'.g, d, t', os⟩) :
    codeAny (model prog w) A (.call (.ref 321) ⟨[.ref m1, .ref m2], []⟩) R ⟨c.h, c.g, d, t, os⟩ := by
  refine fn_in (f := 321) [("self", .ref m1), ("other", .ref m2)] hR.room G X B (kk_lookup (by k_is) rfl) (by kernel_rfl) (BindsTo.of_eq rfl) (by kernel_rfl) (by decide +kernel) rfl rfl rfl ?_
  intro env c₁ t₁ O' O₂' he S u u2 sub subO e
  have hR := hR.deeper (env := env)
  subst he
  have h1 := h1.up u; have h2 := h2.up u; have hmd := hmd.up u; have hr := hr.up u
  obtain ⟨ld1, tr1, i1, _⟩ := id h1
  obtain ⟨ld2, tr2, i2, _⟩ := id h2
  refine wpAny_execs_cons (wpAny_If (isTrue_not (isTrue_plain (Call_ (bi_name S.X (nb_isinstance _) (bb_isinstance _) (cwB2 (x_name S.F.vars rfl (Call_ (bi_name S.X (nb_type _) (bb_type _) (cwT1 (x_name S.F.vars rfl (x_type i1 (x_isI S.X i2 (ok_cls331 _) (is_331 _) fun t' => x_truth ?_)))))))))))))
  refine ifFalse rfl (wpAny_execs_nil ?_)
  refine wpAny_execs_cons (wpAny_If (wpAny_isTrue_Compare1 (Attribute_any_ (x_name S.F.vars rfl (x_get S.X i1 (Attribute_any_ (x_name S.F.vars rfl (x_get S.X i2 (x_neSame S.X hmd (by have := hR.2.2; show _ < 9900; omega) (x_truth ?_)) rfl (ok_own331p _)))) rfl (ok_own331p _))))))
  refine ifFalse rfl (wpAny_execs_nil ?_)
  refine wpAny_execs_cons (Assign_Tuple (MethodCall_ (x_name S.F.vars rfl (x_getM S.X i1 (cwK0 (keep_246 _) S.X.k (wpAny_call (dim_spec (hR.mono (by decide)) S.gd0 S.B S.X h1 a1 a5 a3 a6 fun c₂ t₂ tp1 v1 v2 e₂ ht1 => ?_))) rfl (meth_246 _)))))
  have u2_ := S.up e₂
  have S₂ := S.go e₂
  have h1 := h1.up u2_; have h2 := h2.up u2_; have hmd := hmd.up u2_; have hr := hr.up u2_; have i1 := i1.up u2_; have i2 := i2.up u2_
  refine sx_unpack2 S₂ hR.1 ht1.2 fun c₃ t₃ S₃ u3 u32 => ?_
  have h1 := h1.up u3; have h2 := h2.up u3; have hmd := hmd.up u3; have hr := hr.up u3; have i1 := i1.up u3; have i2 := i2.up u3
  refine wpAny_execs_cons (Assign_Tuple (MethodCall_ (x_name S₃.F.vars rfl (x_getM S₃.X i2 (cwK0 (keep_246 _) S₃.X.k (wpAny_call (dim_spec (hR.mono (by decide)) S₃.gd0 S₃.B S₃.X h2 a5 a2 a6 a4 fun c₄ t₄ tp2 v3 v4 e₄ ht2 => ?_))) rfl (meth_246 _)))))
  have u4 := S₃.up e₄
  have S₄ := S₃.go e₄
  have h1 := h1.up u4; have h2 := h2.up u4; have hmd := hmd.up u4; have hr := hr.up u4; have i1 := i1.up u4; have i2 := i2.up u4
  refine sx_unpack2 S₄ hR.1 ht2.2 fun c₅ t₅ S₅ u5 u52 => ?_
  have h1 := h1.up u5; have h2 := h2.up u5; have hmd := hmd.up u5; have hr := hr.up u5; have i1 := i1.up u5; have i2 := i2.up u5
  refine wpAny_execs_cons (wpAny_If (isTrue_not (wpAny_isTrue_Compare1 (x_name S₅.F.vars rfl (x_name S₅.F.vars rfl (x_eq (x_truth ?_)))))))
  refine ifFalse (by simp) (wpAny_execs_nil ?_)
  refine wpAny_execs_cons (wpAny_Return_some (MethodCall_ (x_name S₅.F.vars rfl (x_getMo S₅.X i1 (cwI1 S₅.X hmd (ok_call375 _) ?_)))))
  refine sx_comp0 S₅ (fun i v O h => RowEl r n wide (fun j => prodM n q mid f1 f2 i j) v O h) ?_
  refine Call_ (bi_name S₅.X (nb_range _) (bb_range _) (cwT1 (x_name S₅.F.vars rfl (x_range1 (by omega) fun c₆ rg t₆ e₆ it => ?_))))
  have u6 := S₅.up (e₆ _ _)
  have S₆ := S₅.go (e₆ _ _)
  have h1 := h1.up u6; have h2 := h2.up u6; have hmd₆ := hmd.up u6; have hr := hr.up u6
  refine ⟨c₆, t₆, high, _, rfl, S₆, it T0 [] _ hR.1 (fun b hb => S₆.F.low b (S₆.F.tin b hb)), by rw [sizeLine_eq]; omega, rowEl_up, ?_, ?_⟩
  · rintro M i v nn L c t Q' E' hi ⟨ti, hv⟩ S e u u2 k
    subst hv
    have h1 := h1.up u; have h2 := h2.up u; have hr := hr.up u
    refine sx_comp0 S (fun j v O h => PolyEl r n (prodM n q mid f1 f2 i j) v O h) ?_
    refine Call_ (bi_name S.X (nb_range _) (bb_range _) (cwT1 (x_name S.F.vars rfl (x_range1 (by omega) fun c₇ rg t₇ e₇ it => ?_))))
    have u7 := S.up (e₇ _ _)
    have S₇ := S.go (e₇ _ _)
    have h1 := h1.up u7; have h2 := h2.up u7; have hr := hr.up u7
    refine ⟨c₇, t₇, wide, _, rfl, S₇, it T0 [] _ hR.1 (fun b hb => S₇.F.low b (S₇.F.tin b hb)), by rw [sizeLine_eq]; omega, polyEl_up, ?_, ?_⟩
    · rintro M' j v nn' L' c t Q'' E'' hj ⟨tj, hv⟩ S e u u2 k'
      subst hv
      have h1 := h1.up u; have h2 := h2.up u; have hr := hr.up u
      refine Call_ (bi_name S.X (nb_sum _) (bb_sum _) (cwB1 (sx_sum (kk := 10) (r := r) (q := q) (nn := n) (f := fun k => fun x => (conv n (f1 i k) (f2 k j) x).fmod q) S (hR.mono (by decide)) rfl (code_320 _) (by decide) ?_)))
      refine Call_ (bi_name S.X (nb_range _) (bb_range _) (cwT1 (x_name S.F.vars rfl (x_range1U (by omega) fun c₈ rg t₈ e₈ itU => ?_))))
      have u8 := S.up (e₈ _ _)
      have S₈ := S.go (e₈ _ _)
      have h1 := h1.up u8; have h2 := h2.up u8; have hr := hr.up u8
      refine ⟨c₈, t₈, mid, _, rfl, S₈, itU T0 _ (fun b hb => S₈.F.low b (S₈.F.tin b hb)), by omega, hr, hq, hn1, hn, ?_, ?_⟩
      · intro M2 A' l v it CC code c t Q3 E3 hA' hl hv S u u2 k3
        obtain ⟨tl, hv⟩ := hv
        subst hv
        have h1 := h1.up u; have h2 := h2.up u; have hr := hr.up u
        refine wpAny_BinOp (x_mitem (hA'.mono (by decide)) S h1 rfl rfl rfl hi hl a3 a6 fun ca ta pa ea hpa => ?_)
        have Sa := S.go ea
        have ua := S.up ea
        have h2 := h2.up ua; have hr := hr.up ua
        refine x_mitem (hA'.mono (by decide)) Sa h2 rfl rfl rfl hl hj a6 a4 fun cb tb pb eb hpb => ?_
        have Sb := Sa.go eb
        have ub := Sa.up eb
        have hpa := hpa.up ub; have hr := hr.up ub
        obtain ⟨la, ia, _⟩ := id hpa
        obtain ⟨lb, ib, _⟩ := id hpb
        refine x_bin Sb.X ia ib (ok_mul220 _) (wpAny_call (mul_spec (hA'.mono (by decide)) Sb.gdT Sb.bT Sb.xT (hr.up Sb.uT) (hpa.up Sb.uT) (hpb.up Sb.uT) hq hn (fun a b ha hb => hm i l j hi hl hj a b ha hb) fun cc tc pc ec hpc => ?_))
        exact k3 cc tc _ ((ea.trans eb).trans ec) ⟨pc, rfl, hpc⟩
      · intro c₉ t₉ p S₉ e₉ u₉ u₉2 hp
        exact k' c₉ t₉ _ ((e₈ _ _).trans e₉) ⟨p, rfl, hp⟩
    · rintro D c₈ t₈ _ S₈ e₈ u₈ u₈2 hD
      exact k c₈ t₈ _ ((e₇ _ _).trans e₈) ⟨D, rfl, hD⟩
  · rintro D c₈ t₈ _ S₈ e₈ u₈ u₈2 hD
    have hmd₈ := hmd₆.up u₈
    refine ⟨⟨O', S₈.X, u6.trans u₈⟩, ?_⟩
    refine modcall_spec (.inl ⟨rfl, rfl⟩) (hR.mono (by decide)) S₈.gdT S₈.bT S₈.xT (hmd₈.up S₈.uT) hD a1 a3 a4 fun c₉ t₉ m' e₉ hm' hd' => ?_
    exact hQ c₉ t₉ m' (S₈.go e₉).F.ext (IsMat.up (O := O₂') ⟨D, false, hm', hd'⟩ (Up.less sub))
end
end Mine
end

section
open PySem PySem.W PySem.Calls PyProof.Rows
set_option Elab.async false
set_option maxRecDepth 100000
set_option linter.unusedSimpArgs false
set_option linter.unusedVariables false
namespace Mine
theorem regL1 : PySem.Challenge.rw_yd0003_04 = PySem.Challenge.rw_yd0003_04 ∧ hd.heap_1 = hd.heap_1 := by k_fill; exact ⟨rfl, rfl⟩
theorem keep_386 (P : Params) : keepIn (KK P) (.ref 386) = true := by kernel_rfl
theorem keep_391 (P : Params) : keepIn (KK P) (.ref 391) = true := by kernel_rfl
theorem keep_396 (P : Params) : keepIn (KK P) (.ref 396) = true := by kernel_rfl
theorem keep_401 (P : Params) : keepIn (KK P) (.ref 401) = true := by kernel_rfl
theorem keep_406 (P : Params) : keepIn (KK P) (.ref 406) = true := by kernel_rfl
theorem keep_411 (P : Params) : keepIn (KK P) (.ref 411) = true := by kernel_rfl
theorem keep_59 (P : Params) : keepIn (KK P) (.ref 59) = true := by kernel_rfl
theorem keep_375 (P : Params) : keepIn (KK P) (.ref 375) = true := by kernel_rfl
noncomputable def drawn (ns : List Int) (k : Nat) : Int := if k < ns.length then ns.getD k 0 else ((k : Int) * k * 13 + k * 29 + 5).fmod 101 - 40
/-- the script: a list of ints that nobody turns -/
structure Scr (O : List Addr) (h : Heap) (sc : Addr) (ns : List Int) : Prop where
  off : sc ∉ O
  is : ∃ vs : List Value, h.IsList sc vs.toArray ∧ IntsAre vs ns
theorem Scr.up {O h sc ns O' h'} (x : Scr O h sc ns) (u : Up O h O' h') : Scr O' h' sc ns := by
  obtain ⟨n, vs, ⟨o, e, r⟩, i⟩ := x
  exact ⟨(u sc o ⟨n, e⟩).1, vs, ⟨o, (u sc o ⟨n, e⟩).2, r⟩, i⟩
/-- the state of the draws -/
noncomputable def Dr (h : Heap) (st sc : Addr) (k : Nat) : Prop := ∃ tk, LsO h st (List.toArray [.ref sc, .int k tk])
theorem Dr.ext {T W c c' st sc k} (x : Dr c.h st sc k) (e : Ext T W c c') (h1 : st ∉ T) (h2 : st ∉ W) : Dr c'.h st sc k := let ⟨tk, y⟩ := x; ⟨tk, list_ext y e h1 h2⟩
theorem Dr.kp {V h h' st sc k} (x : Dr h st sc k) (e : Kp V h h') (h1 : st ∈ V) : Dr h' st sc k := let ⟨tk, n, y⟩ := x; ⟨tk, n, e st h1 _ y⟩
theorem Dr.get {h st sc k} (x : Dr h st sc k) : ∃ o, h.get? st = some o := let ⟨_, y⟩ := x; list_get y
section
variable {prog : Program} {w : World} {A : Around} {E : Value → Shared → Prop} {c : Cr} {d : Drawn} {t : Nat} {os : OsState} {O O₂ : List Addr} {R : Result → Shared → Prop}
theorem small_mul {a b : Int} (ha : a.natAbs < 2 ^ 60) (hb : b.natAbs < 2 ^ 60) : IntMulOk a b :=
  IntMulOk.of_le (m := 60) (n := 60) (intBits_le_iff.mpr ha) (intBits_le_iff.mpr hb) (by decide)
set_option maxHeartbeats 1000000 in
theorem draw_spec {st sc : Addr} {k : Nat} {ns : List Int} (hR : Rm 2 A) (G : Gd T0 [st] O c.h) (X : Wd w.params O c.h) (hst : Dr c.h st sc k) (hsc : Scr O c.h sc ns) (hk : k ≤ 1000) (hl : ns.length ≤ 1000)
    (hQ : ∀ c' t' u, Ext T0 [st] c c' → Dr c'.h st sc (k + 1) → R (.ok (.ret (.int (drawn ns k) u))) ⟨c'.h, c'.g, d, t', os⟩) :
    codeAny (model prog w) A (.call (.ref 386) ⟨[.ref st], []⟩) R ⟨c.h, c.g, d, t, os⟩ := by
  have nT : st ∉ T0 := (G.win st (by simp)).2
  obtain ⟨ost, est⟩ := hst.get
  obtain ⟨tk, hst⟩ := hst
  refine fn_in (f := 386) [("state", .ref st)] hR.room G X (O₂ := O) ⟨fun _ h => h, G.low⟩ (kk_lookup (by k_is) rfl) (by kernel_rfl) (BindsTo.of_eq rfl) (by kernel_rfl) (by decide +kernel) rfl rfl rfl ?_
  intro env c₁ t₁ O' O₂' he S u u2 sub subO e
  subst he
  have hst := list_ext hst e nT (by simp)
  refine wpAny_execs_cons (wpAny_Assign_Name (Subscript_ (x_name S.F.vars rfl (x_int (x_item hst (by decide) (by decide) rfl ?_)))))
  refine sx_store S fun c₂ t₂ a hloc S₂ u₂ _ e₂ => ?_
  have hst := list_ext hst e₂ nT (by simp; rintro rfl; exact S.F.notOwn est hloc.own)
  refine wpAny_execs_cons (wpAny_Assign_Subscript (wpAny_BinOp (x_name S₂.F.vars rfl (x_int (x_add (x_name S₂.F.vars rfl (x_int (x_setItem (W := [st]) hst nT (by simp) (by decide) (by decide) (by simp) ?_))))))))
  intro c₃ hst₃ e₃ _ _
  have S₃ := S₂.go e₃
  have hsc := ((hsc.up u).up u₂).up (S₂.up e₃)
  obtain ⟨vs, hl', hi⟩ := hsc.is
  have hn : vs.length = ns.length := hi.length
  have hst₃ : LsO c₃.h st (List.toArray [.ref sc, .int ((k + 1 : Nat) : Int) _]) := hst₃
  refine wpAny_execs_cons (wpAny_If (wpAny_isTrue_Compare1 (x_name S₃.F.vars rfl (Call_ (bi_name S₃.X (nb_len _) (bb_len _) (cwB1 (Subscript_ (x_name S₃.F.vars rfl (x_int (x_item hst₃ (by decide) (by decide) rfl (x_lenW hl' (by omega) (x_lt (x_truth ?_)))))))))))))
  by_cases hlt : k < ns.length
  · refine ifTrue (by simp; omega) ?_
    obtain ⟨u₀, hv⟩ := ints_get hi hlt
    refine wpAny_execs_cons (wpAny_Return_some (Subscript_ (Subscript_ (x_name S₃.F.vars rfl (x_int (x_item hst₃ (by decide) (by decide) rfl (x_name S₃.F.vars rfl (x_itemW hl' (by omega) (by omega) (by simpa using hv) ?_))))))))
    simp only [drawn, if_pos hlt] at hQ
    exact hQ c₃ _ u₀ S₃.F.ext ⟨_, hst₃⟩
  · refine ifFalse (by simp; omega) (wpAny_execs_nil ?_)
    refine wpAny_execs_cons (wpAny_Return_some (wpAny_BinOp (wpAny_BinOp (wpAny_BinOp (wpAny_BinOp (wpAny_BinOp (wpAny_BinOp (x_name S₃.F.vars rfl (x_name S₃.F.vars rfl (x_mul ?_ (x_int (x_mul ?_ ?_))))))))))))
    · exact small_mul (by omega) (by omega)
    · have h1 : (k : Int) * k ≤ 1000 * 1000 := Int.mul_le_mul (by omega) (by omega) (by omega) (by omega)
      have h2 : (0 : Int) ≤ (k : Int) * k := Int.mul_nonneg (by omega) (by omega)
      exact small_mul (by omega) (by decide)
    · refine wpAny_BinOp (x_name S₃.F.vars rfl (x_int (x_mul (small_mul (by omega) (by decide)) (x_add (x_int (x_add (x_int (x_mod (by decide) (x_int (x_sub ?_)))))))))) 
      simp only [drawn, if_neg hlt] at hQ
      exact hQ c₃ _ _ S₃.F.ext ⟨_, hst₃⟩
end
end Mine
end

section
open PySem PySem.W PySem.Calls PyProof.Rows
set_option Elab.async false
set_option maxRecDepth 100000
set_option linter.unusedSimpArgs false
set_option linter.unusedVariables false
namespace Mine
theorem regL2 : PySem.Challenge.rw_yd0003_04 = PySem.Challenge.rw_yd0003_04 ∧ hd.heap_1 = hd.heap_1 := by k_fill; exact ⟨rfl, rfl⟩
noncomputable def CellEl (n : Nat) (f : Nat → Int) (v : Value) (O : List Addr) (h : Heap) : Prop := ∃ l, v = .ref l ∧ Ints O h l n f
noncomputable def LineEl (n cols : Nat) (f : Nat → Nat → Int) (v : Value) (O : List Addr) (h : Heap) : Prop := ∃ l, v = .ref l ∧ Ls O h l cols (fun j v O h => CellEl n (f j) v O h)
noncomputable def Grid (O : List Addr) (h : Heap) (l : Addr) (rows cols n : Nat) (f : Mat) : Prop := Ls O h l rows (fun i v O h => LineEl n cols (f i) v O h)
theorem cellEl_up {n} {f : Nat → Nat → Int} : UpC (fun j v O h => CellEl n (f j) v O h) := fun k v O h O' h' ⟨l, e, x⟩ u => ⟨l, e, x.up u⟩
theorem lineEl_up {n cols} {f : Mat} : UpC (fun i v O h => LineEl n cols (f i) v O h) := fun k v O h O' h' ⟨l, e, x⟩ u => ⟨l, e, x.up cellEl_up u⟩
theorem Grid.up {O h l R C n f O' h'} (x : Grid O h l R C n f) (u : Up O h O' h') : Grid O' h' l R C n f := Ls.up x lineEl_up u
theorem Grid.row {O h l R C n f} (x : Grid O h l R C n f) {i : Nat} (hi : i < R) : ∃ vs lr, Lst O h l vs ∧ vs.length = R ∧ vs[i]? = some (.ref lr) ∧ Ls O h lr C (fun j v O h => CellEl n (f i j) v O h) := by
  obtain ⟨vs, v, a, b, e, lr, rfl, y⟩ := x.get hi
  exact ⟨vs, lr, a, b, e, y⟩
theorem Line.at {O h lr C n} {f : Nat → Nat → Int} (x : Ls O h lr C (fun j v O h => CellEl n (f j) v O h)) {j : Nat} (hj : j < C) : ∃ vs p, Lst O h lr vs ∧ vs.length = C ∧ vs[j]? = some (.ref p) ∧ Ints O h p n (f j) := by
  obtain ⟨vs, v, a, b, e, p, rfl, y⟩ := x.get hj
  exact ⟨vs, p, a, b, e, y⟩
noncomputable def gridF (ns : List Int) (k0 cols n : Nat) : Mat := fun i j a => drawn ns (k0 + (i * cols + j) * n + a)
section
variable {prog : Program} {w : World} {A : Around} {E : Value → Shared → Prop} {c : Cr} {d : Drawn} {t : Nat} {os : OsState} {O O₂ : List Addr} {R : Result → Shared → Prop}
set_option maxHeartbeats 1000000 in
theorem grid_spec {st sc : Addr} {k0 rows cols n : Nat} {ns : List Int} {t1 t2 t3 : Tok} (hR : Rm 4 A) (G : Gd T0 [st] O c.h) (B : Bg O O₂ c.h) (X : Wd w.params O c.h) (hst : Dr c.h st sc k0) (hsc : Scr O c.h sc ns) (hsc2 : sc ∉ O₂) (hk : k0 + rows * cols * n ≤ 1000) (hr : rows ≤ 100) (hcl : cols ≤ 100) (hnn : n ≤ 100) (hl : ns.length ≤ 1000)
    (hQ : ∀ c' t' l, Ext T0 [st] c c' → Dr c'.h st sc (k0 + rows * cols * n) → Grid O₂ c'.h l rows cols n (gridF ns k0 cols n) → R (.ok (.ret (.ref l))) ⟨c'.h, c'.g, d, t', os⟩) :
    codeAny (model prog w) A (.call (.ref 391) ⟨[.ref st, .int rows t1, .int cols t2, .int n t3], []⟩) R ⟨c.h, c.g, d, t, os⟩ := by
  have nT : st ∉ T0 := (G.win st (by simp)).2
  have stO : st ∈ O := (G.win st (by simp)).1
  obtain ⟨ost, est⟩ := hst.get
  have hsc' : Scr O₂ c.h sc ns := ⟨hsc2, hsc.is⟩
  refine fn_in (f := 391) [("state", .ref st), ("rows", .int rows t1), ("cols", .int cols t2), ("n", .int n t3)] hR.room G X B (kk_lookup (by k_is) rfl) (by kernel_rfl) (BindsTo.of_eq rfl) (by kernel_rfl) (by decide +kernel) rfl rfl rfl ?_
  intro env c₁ t₁ O' O₂' he S u u2 sub subO e
  have hR := hR.deeper (env := env)
  have hvv : ∀ {cc : Cr} {OO OO2 : List Addr} {ev : Env} {mm : Str → Option Value}, Sx w.params T0 [st] c cc OO OO2 ev mm → (∀ b ∈ O', b ∈ OO) → ∀ b ∈ [st], (c.h.get? b = none ∨ b ∈ [st]) ∧ b ∉ ownOf ev ∧ b ∈ OO ∧ b ∉ T0 := fun Sx hs b hb => by
    rw [List.mem_singleton.mp hb]
    exact ⟨.inr (by simp), Sx.F.notOwn est, hs _ (subO _ stO), nT⟩
  subst he
  have hst := hst.ext e nT (by simp)
  have hsc' := hsc'.up u2
  refine wpAny_execs_cons (wpAny_Return_some (sx_comp S [st] (fun i v O h => LineEl n cols (gridF ns k0 cols n i) v O h) (fun i O h => Dr h st sc (k0 + i * cols * n) ∧ Scr O h sc ns) ?_))
  refine Call_ (bi_name S.X (nb_range _) (bb_range _) (cwT1 (x_name S.F.vars rfl (x_range1 (by omega) fun c₂ rg t₂ e₂ it => ?_))))
  have S₂ := S.go (e₂ _ _)
  have e₂' := e₂ T0 []
  refine ⟨c₂, t₂, rows, _, rfl, S₂, it T0 _ _ hR.1 (fun b hb => S₂.F.low b (S₂.F.tin b hb)), by rw [sizeLine_eq]; omega, hvv S₂ (fun _ h => h), lineEl_up, fun i O h O' h' ⟨a, b⟩ u k => ⟨a.kp k (by simp), b.up u⟩, ⟨by simpa using hst.ext e₂' nT (by simp), hsc'.up (S.up2 (e₂ _ _))⟩, ?_, ?_⟩
  · rintro M i v nn L c₃ t₃ Q' E' hM hVM hi hP S₃ e₃ u₃ u₃2 ⟨hd, hs⟩ k
    have bR : (i + 1) * cols ≤ rows * cols := Nat.mul_le_mul_right _ hi
    have bR2 : (i + 1) * cols * n ≤ rows * cols * n := Nat.mul_le_mul_right _ bR
    refine sx_comp S₃ [st] (fun j v O h => CellEl n (gridF ns k0 cols n i j) v O h) (fun j O h => Dr h st sc (k0 + (i * cols + j) * n) ∧ Scr O h sc ns) ?_
    refine Call_ (bi_name S₃.X (nb_range _) (bb_range _) (cwT1 (x_name S₃.F.vars rfl (x_range1 (by omega) fun c₄ rg t₄ e₄ it => ?_))))
    have S₄ := S₃.go (e₄ _ _)
    have e₄' := e₄ T0 []
    refine ⟨c₄, t₄, cols, _, rfl, S₄, it T0 _ _ hR.1 (fun b hb => S₄.F.low b (S₄.F.tin b hb)), by rw [sizeLine_eq]; omega, hvv S₄ (fun b h => List.mem_append_right _ h), cellEl_up, fun i O h O' h' ⟨a, b⟩ u k => ⟨a.kp k (by simp), b.up u⟩, ⟨by simpa using hd.ext e₄' nT (by simp), hs.up (S₃.up2 (e₄ _ _))⟩, ?_, ?_⟩
    · rintro M2 j v nn2 L2 c₅ t₅ Q2 E2 hM2 hVM2 hj hP2 S₅ e₅ u₅ u₅2 ⟨hd, hs⟩ k2
      have bC : (i * cols + (j + 1)) ≤ (i + 1) * cols := by rw [Nat.succ_mul]; omega
      have bC2 : (i * cols + (j + 1)) * n ≤ (i + 1) * cols * n := Nat.mul_le_mul_right _ bC
      have eC : (i * cols + (j + 1)) * n = (i * cols + j) * n + n := by rw [← Nat.add_assoc, Nat.succ_mul]
      refine sx_comp S₅ [st] (fun a v O h => ∃ u, v = .int (gridF ns k0 cols n i j a) u) (fun a O h => Dr h st sc (k0 + (i * cols + j) * n + a) ∧ Scr O h sc ns) ?_
      refine Call_ (bi_name S₅.X (nb_range _) (bb_range _) (cwT1 (x_name S₅.F.vars rfl (x_range1 (by omega) fun c₆ rg t₆ e₆ it => ?_))))
      have S₆ := S₅.go (e₆ _ _)
      have e₆' := e₆ T0 []
      refine ⟨c₆, t₆, n, _, rfl, S₆, it T0 _ _ hR.1 (fun b hb => S₆.F.low b (S₆.F.tin b hb)), by rw [sizeLine_eq]; omega, hvv S₆ (fun b h => List.mem_append_right _ (List.mem_append_right _ h)), fun _ _ _ _ _ _ e _ => e, fun i O h O' h' ⟨a, b⟩ u k => ⟨a.kp k (by simp), b.up u⟩, ⟨by simpa using hd.ext e₆' nT (by simp), hs.up (S₅.up2 (e₆ _ _))⟩, ?_, ?_⟩
      · rintro M3 a v nn3 L3 c₇ t₇ Q3 E3 hM3 hVM3 ha hP3 S₇ e₇ u₇ u₇2 ⟨hd, hs⟩ k3
        refine Call_ (gl_name S₇.X (g_draw _) (cwK1 (keep_386 _) (x_name S₇.F.vars rfl ⟨S₇.X.k, wpAny_call (draw_spec (hR.mono (by decide)) (S₇.gd (V := [st]) (fun b hb => ⟨(hvv S₇ (fun b h => List.mem_append_right _ (List.mem_append_right _ (List.mem_append_right _ h))) b hb).2.2.1, by rw [List.mem_singleton.mp hb]; exact nT⟩)) S₇.X hd (hs.up (Up.less S₇.B.sub)) (by omega) hl fun c₈ t₈ uu e₈ hd' => ?_)⟩) S₇.X.k))
        exact k3 c₈ t₈ _ e₈ ⟨uu, rfl⟩ ⟨hd', hs.up (e₈.up (fun b hb => S₇.B.sub _ (S₇.F.tin b hb)) (fun b hb => S₇.B.sub _ (hvv S₇ (fun b h => List.mem_append_right _ (List.mem_append_right _ (List.mem_append_right _ h))) b hb).2.2.1))⟩
      · rintro D c₈ t₈ _ S₈ e₈ u₈ u₈2 hD ⟨hd, hs⟩
        exact k2 c₈ t₈ _ (e₆'.nil.trans e₈) ⟨D, rfl, hD⟩ ⟨by rw [eC, ← Nat.add_assoc]; exact hd, hs⟩
    · rintro D c₈ t₈ _ S₈ e₈ u₈ u₈2 hD ⟨hd, hs⟩
      exact k c₈ t₈ _ (e₄'.nil.trans e₈) ⟨D, rfl, hD⟩ ⟨by rw [Nat.succ_mul]; exact hd, hs⟩
  · rintro D c₈ t₈ _ S₈ e₈ u₈ u₈2 hD ⟨hd, hs⟩
    exact hQ c₈ _ D S₈.F.ext hd (Grid.up (O := O₂') hD (Up.less sub))
end
end Mine
end

section
open PySem PySem.W PySem.Calls PyProof.Rows
set_option Elab.async false
set_option maxRecDepth 100000
set_option linter.unusedSimpArgs false
set_option linter.unusedVariables false
namespace Mine
theorem regL3 : PySem.Challenge.rw_yd0003_04 = PySem.Challenge.rw_yd0003_04 ∧ hd.heap_1 = hd.heap_1 := by k_fill; exact ⟨rfl, rfl⟩
theorem lso_same {h : Heap} {l : Addr} {vs ws : List Value} (a : LsO h l vs.toArray) (b : LsO h l ws.toArray) : vs = ws := by
  obtain ⟨k1, e1⟩ := a
  obtain ⟨k2, e2⟩ := b
  rw [e1] at e2
  injection e2 with e2; injection e2 with _ _ e3; injection e3 with e4; simpa using e4
section
variable {prog : Program} {w : World} {A : Around} {E : Value → Shared → Prop} {c : Cr} {d : Drawn} {t : Nat} {os : OsState} {O O₂ : List Addr} {R : Result → Shared → Prop}
theorem x_listOf {l : Addr} {vs : List Value} {Q : Value → Shared → Prop} (hl : LsO c.h l vs.toArray) (hz : vs.length ≤ sizeLine)
    (h : ∀ c' l', (∀ T W, Ext T W c c') → LsO c'.h l' vs.toArray → c.h.get? l' = none → Q (.ref l') ⟨c'.h, c'.g, d, t, os⟩) :
    wpAny (model prog w) A (call (.type "list") [.ref l]) Q E ⟨c.h, c.g, d, t, os⟩ := by
  obtain ⟨n, ho⟩ := hl
  refine call_list_seq (s := ⟨c.h, c.g, d, t, os⟩) l (.inl rfl) ho rfl rfl (fun h' c' hk hl' => ?_) (by simpa using hz)
  exact h ⟨h', c.g⟩ c.h.objs.size (fun _ _ => Ext.of_keep hk) ⟨c', hl'⟩ size_none
set_option maxHeartbeats 1000000 in
theorem stored_spec {md r gl : Addr} {q : Int} {rows cols n : Nat} {f : Mat} {turned : Bool} (hR : Rm 14 A) (G : Gd T0 [] O c.h) (B : Bg O O₂ c.h) (X : Wd w.params O c.h) (hmd : IsMod O c.h md r) (hr : IsRing O c.h r q n) (hg : Grid O c.h gl rows cols n f)
    (a1 : 1 ≤ rows) (a2 : 1 ≤ cols) (a3 : rows ≤ 1000) (a4 : cols ≤ 1000) (hn : n ≤ 1000)
    (hQ : ∀ c' t' m', Ext T0 [] c c' → IsMat O₂ c'.h m' md r n rows cols f → R (.ok (.ret (.ref m'))) ⟨c'.h, c'.g, d, t', os⟩) :
    codeAny (model prog w) A (.call (.ref 396) ⟨[.ref md, .ref r, .ref gl, .bool turned], []⟩) R ⟨c.h, c.g, d, t, os⟩ := by
  refine fn_in (f := 396) [("module", .ref md), ("ring", .ref r), ("grid", .ref gl), ("turned", .bool turned)] hR.room G X B (kk_lookup (by k_is) rfl) (by kernel_rfl) (BindsTo.of_eq rfl) (by kernel_rfl) (by decide +kernel) rfl rfl rfl ?_
  intro env c₁ t₁ O' O₂' he S u u2 sub subO e
  have hR := hR.deeper (env := env)
  subst he
  have hmd := hmd.up u; have hr := hr.up u; have hg := hg.up u
  refine wpAny_execs_cons (wpAny_If (isTrue_plain (x_name S.F.vars rfl (x_truth ?_))))
  cases turned with
  | true =>
    refine ifTrue rfl ?_
    refine wpAny_execs_cons (sx_compA0 S (fun j v O h => RowEl r n rows (fun i => f i j) v O h) ?_)
    obtain ⟨vs0, lr0, z1, z2, z3, z4⟩ := hg.row (i := 0) (by omega)
    obtain ⟨ws0, y1, y2, _⟩ := z4
    refine Call_ (bi_name S.X (nb_range _) (bb_range _) (cwT1 (Call_ (bi_name S.X (nb_len _) (bb_len _) (cwB1 (Subscript_ (x_name S.F.vars rfl (x_int (x_item z1.2 (by decide) (by decide) z3 (x_len y1.2 (by omega) ?_))))))))))
    rw [y2]
    refine x_range1 (by omega) fun c₂ rg t₂ e₂ it => ?_
    have u₂ := S.up (e₂ _ _)
    have S₂ := S.go (e₂ _ _)
    have hmd₂ := hmd.up u₂; have hr := hr.up u₂; have hg := hg.up u₂
    refine ⟨c₂, t₂, cols, _, rfl, S₂, it T0 [] _ hR.1 (fun b hb => S₂.F.low b (S₂.F.tin b hb)), by rw [sizeLine_eq]; omega, rowEl_up (f := fun j i => f i j), ?_, ?_⟩
    · rintro M j v nn L c₃ t₃ Q' E' hj ⟨tj, hv⟩ S₃ e₃ u₃ u₃2 k
      subst hv
      have hr := hr.up u₃; have hg := hg.up u₃
      obtain ⟨vs, g1, g2, g3⟩ := id hg
      refine sx_comp0 S₃ (fun i v O h => PolyEl r n (f i j) v O h) ?_
      refine x_name S₃.F.vars rfl ⟨c₃, _, vs.length, _, rfl, S₃, iter_list hR.1 g1.2 (fun z => g1.1 (S₃.F.tin _ z)) (by simp) (fun b hb => S₃.F.low b (S₃.F.tin b hb)), by rw [sizeLine_eq]; omega, polyEl_up (f := fun i => f i j), ?_, ?_⟩
      · rintro M2 i v nn2 L2 c₄ t₄ Q2 E2 hi hv S₄ e₄ u₄ u₄2 k2
        have hr := hr.up u₄; have hg := hg.up u₄
        obtain ⟨vs', lr, b1, b2, b3, b4⟩ := hg.row (i := i) (by omega)
        rw [lso_same b1.2 (g1.up u₄).2] at b3
        rw [b3] at hv
        obtain rfl : v = .ref lr := (Option.some.inj hv).symm
        obtain ⟨ws, p, x1, x2, x3, x4⟩ := Line.at b4 (j := j) hj
        obtain ⟨xs, w1, w2, w3⟩ := x4.get
        obtain ⟨tq, tn, hr'⟩ := id hr
        refine Call_ (x_name S₄.F.vars rfl (cwI1 S₄.X hr' (ok_call59 _) (Call_ (bi_name S₄.X (nb_list _) (bb_list _) (cwT1 (Subscript_ (x_name S₄.F.vars rfl (x_name S₄.F.vars rfl (x_item x1.2 (by omega) (by omega) (by simpa using x3) (x_listOf w1.2 (by rw [sizeLine_eq]; omega) fun c₅ l' e₅ hl' hn' => ?_))))))))))
        have S₅ := S₄.go (e₅ _ _)
        have u₅ := S₄.up (e₅ _ _)
        have hi5 : Ints (M2 ++ (M ++ O₂')) c₅.h l' n (f i j) := Ints.of ⟨S₄.B.off hn', hl'⟩ w2 w3
        refine ⟨⟨_, S₅.X, u₅⟩, ringcall_spec (hR.mono (by decide)) S₅.gdT S₅.bT S₅.xT ((hr.up u₅).up S₅.uT) hi5 (Nat.le_refl _) hn fun c₆ t₆ p' e₆ hp => ?_⟩
        exact k2 c₆ t₆ _ ((e₅ _ _).trans e₆) ⟨p', rfl, hp.congr fun k hk => by unfold padTo; rw [if_pos hk]⟩
      · rintro D c₈ t₈ _ S₈ e₈ u₈ u₈2 hD
        rw [g2] at hD
        exact k c₈ t₈ _ e₈ ⟨D, rfl, hD⟩
    · rintro D c₈ t₈ _ S₈ u₈ u₈2 hD
      have hmd := hmd₂.up u₈
      refine wpAny_execs_cons (wpAny_Return_some (wpAny_Call_Name_kw (x_name S₈.F.vars rfl (cwI1k S₈.X hmd (ok_call375 _) (x_name S₈.F.vars rfl (x_bool ⟨⟨_, S₈.X, fun _ _ x => x⟩, ?_⟩))))))
      refine modcall_spec (.inr (.inr rfl)) (hR.mono (by decide)) S₈.gdT S₈.bT S₈.xT (hmd.up S₈.uT) hD a2 a4 a3 fun c₉ t₉ m' e₉ hm' hd' => ?_
      exact hQ c₉ t₉ m' (S₈.go e₉).F.ext (IsMat.up (O := O₂') ⟨D, true, hm', hd'⟩ (Up.less sub))
  | false =>
    refine ifFalse rfl (wpAny_execs_nil ?_)
    obtain ⟨vs, g1, g2, g3⟩ := id hg
    refine wpAny_execs_cons (wpAny_Return_some (Call_ (x_name S.F.vars rfl (cwI1 S.X hmd (ok_call375 _) (sx_comp0 S (fun i v O h => RowEl r n cols (f i) v O h) ?_)))))
    refine x_name S.F.vars rfl ⟨c₁, _, vs.length, _, rfl, S, iter_list hR.1 g1.2 (fun z => g1.1 (S.F.tin _ z)) (by simp) (fun b hb => S.F.low b (S.F.tin b hb)), by rw [sizeLine_eq]; omega, rowEl_up, ?_, ?_⟩
    · rintro M i v nn L c₃ t₃ Q' E' hi hv S₃ e₃ u₃ u₃2 k
      have hr := hr.up u₃; have hg := hg.up u₃
      obtain ⟨vs', lr, b1, b2, b3, b4⟩ := hg.row (i := i) (by omega)
      rw [lso_same b1.2 (g1.up u₃).2] at b3
      rw [b3] at hv
      obtain rfl : v = .ref lr := (Option.some.inj hv).symm
      obtain ⟨ws, y1, y2, y3⟩ := id b4
      refine sx_comp0 S₃ (fun j v O h => PolyEl r n (f i j) v O h) ?_
      refine x_name S₃.F.vars rfl ⟨c₃, _, ws.length, _, rfl, S₃, iter_list hR.1 y1.2 (fun z => y1.1 (S₃.F.tin _ z)) (by simp) (fun b hb => S₃.F.low b (S₃.F.tin b hb)), by rw [sizeLine_eq]; omega, polyEl_up, ?_, ?_⟩
      · rintro M2 j v nn2 L2 c₄ t₄ Q2 E2 hj hv S₄ e₄ u₄ u₄2 k2
        have hr := hr.up u₄
        have b4 := Ls.up b4 cellEl_up u₄
        obtain ⟨ws', p, x1, x2, x3, x4⟩ := Line.at b4 (j := j) (by omega)
        rw [lso_same x1.2 (y1.up u₄).2] at x3
        rw [x3] at hv
        obtain rfl : v = .ref p := (Option.some.inj hv).symm
        obtain ⟨xs, w1, w2, w3⟩ := x4.get
        obtain ⟨tq, tn, hr'⟩ := id hr
        refine Call_ (x_name S₄.F.vars rfl (cwI1 S₄.X hr' (ok_call59 _) (Call_ (bi_name S₄.X (nb_list _) (bb_list _) (cwT1 (x_name S₄.F.vars rfl (x_listOf w1.2 (by rw [sizeLine_eq]; omega) fun c₅ l' e₅ hl' hn' => ?_)))))))
        have S₅ := S₄.go (e₅ _ _)
        have u₅ := S₄.up (e₅ _ _)
        have hi5 : Ints (M2 ++ (M ++ O₂')) c₅.h l' n (f i j) := Ints.of ⟨S₄.B.off hn', hl'⟩ w2 w3
        refine ⟨⟨_, S₅.X, u₅⟩, ringcall_spec (hR.mono (by decide)) S₅.gdT S₅.bT S₅.xT ((hr.up u₅).up S₅.uT) hi5 (Nat.le_refl _) hn fun c₆ t₆ p' e₆ hp => ?_⟩
        exact k2 c₆ t₆ _ ((e₅ _ _).trans e₆) ⟨p', rfl, hp.congr fun k hk => by unfold padTo; rw [if_pos hk]⟩
      · rintro D c₈ t₈ _ S₈ e₈ u₈ u₈2 hD
        rw [y2] at hD
        exact k c₈ t₈ _ e₈ ⟨D, rfl, hD⟩
    · rintro D c₈ t₈ _ S₈ e₈ u₈ u₈2 hD
      rw [g2] at hD
      refine ⟨⟨_, S₈.X, u₈⟩, ?_⟩
      refine modcall_spec (.inl ⟨rfl, rfl⟩) (hR.mono (by decide)) S₈.gdT S₈.bT S₈.xT ((hmd.up u₈).up S₈.uT) hD a1 a3 a4 fun c₉ t₉ m' e₉ hm' hd' => ?_
      exact hQ c₉ t₉ m' (S₈.go e₉).F.ext (IsMat.up (O := O₂') ⟨D, false, hm', hd'⟩ (Up.less sub))
end
end Mine
end

section
open PySem PySem.W PySem.Calls PyProof.Rows
set_option Elab.async false
set_option maxRecDepth 100000
set_option linter.unusedSimpArgs false
set_option linter.unusedVariables false
namespace Mine
theorem regL4 : PySem.Challenge.rw_yd0003_04 = PySem.Challenge.rw_yd0003_04 ∧ hd.heap_1 = hd.heap_1 := by k_fill; exact ⟨rfl, rfl⟩
noncomputable def diag (x : Int) : Mat := fun i j k => if i = j then (if k = 0 then x else 0) else 0
/-- rows that grow -/
noncomputable def Grows (El : Nat → Value → List Addr → Heap → Prop) (D : Addr) (i : Nat) (O : List Addr) (h : Heap) : Prop := ∃ vs, LsO h D (List.toArray vs) ∧ vs.length = i ∧ ∀ k v, vs[k]? = some v → El k v O h
theorem Grows.up {El D i O h O' h' V} (x : Grows El D i O h) (up : UpC El) (u : Up O h O' h') (k : Kp V h h') (hD : D ∈ V) : Grows El D i O' h' := by
  obtain ⟨vs, ⟨n, e⟩, b, r⟩ := x
  exact ⟨vs, ⟨n, k D hD _ e⟩, b, fun j v q => up _ _ _ _ _ _ (r j v q) u⟩
theorem Grows.ext {El D i O T V} {c c' : Cr} (x : Grows El D i O c.h) (up : UpC El) (e : Ext T V c c') (u : Up O c.h O c'.h) (h1 : D ∉ T) (h2 : D ∉ V) : Grows El D i O c'.h := by
  obtain ⟨vs, a, b, r⟩ := x
  exact ⟨vs, list_ext a e h1 h2, b, fun j v q => up _ _ _ _ _ _ (r j v q) u⟩
section
variable {prog : Program} {w : World} {A : Around} {E : Value → Shared → Prop} {c : Cr} {d : Drawn} {t : Nat} {os : OsState} {O O₂ : List Addr} {R : Result → Shared → Prop}
set_option maxHeartbeats 1000000 in
theorem scaled_spec {md r mm1 : Addr} {q x : Int} {high wide n s : Nat} {tx ts : Tok} {f : Mat} (hR : Rm 28 A) (G : Gd T0 [] O c.h) (B : Bg O O₂ c.h) (X : Wd w.params O c.h) (hmd : IsMod O c.h md r) (hr : IsRing O c.h r q n) (hm : IsMat O c.h mm1 md r n high wide f) (hs : s = 0 ∨ s = 1) (hq : q ≠ 0)
    (a1 : 1 ≤ high) (a2 : 1 ≤ wide) (a3 : high ≤ 1000) (a4 : wide ≤ 1000) (hn1 : 1 ≤ n) (hn : n ≤ 1000)
    (hmul : ∀ i j, i < high → j < wide → ∀ a, a < n → IntMulOk x (f i j a) ∧ IntMulOk (f i j a) x)
    (hQ : ∀ c' t' m', Ext T0 [] c c' → IsMat O₂ c'.h m' md r n high wide (if s = 0 then prodM n q high (diag x) f else prodM n q wide f (diag x)) → R (.ok (.ret (.ref m'))) ⟨c'.h, c'.g, d, t', os⟩) :
    codeAny (model prog w) A (.call (.ref 406) ⟨[.ref md, .ref r, .int x tx, .ref mm1, .int s ts], []⟩) R ⟨c.h, c.g, d, t, os⟩ := by
  refine fn_in (f := 406) [("module", .ref md), ("ring", .ref r), ("x", .int x tx), ("made", .ref mm1), ("side", .int s ts)] hR.room G X B (kk_lookup (by k_is) rfl) (by kernel_rfl) (BindsTo.of_eq rfl) (by kernel_rfl) (by decide +kernel) rfl rfl rfl ?_
  intro env c₁ t₁ O' O₂' he S u u2 sub subO e
  have hR := hR.deeper (env := env)
  subst he
  have hmd := hmd.up u; have hr := hr.up u; have hm := hm.up u
  obtain ⟨ld, tr, im, _⟩ := id hm
  refine wpAny_execs_cons (Assign_Tuple (MethodCall_ (x_name S.F.vars rfl (x_getM S.X im (cwK0 (keep_246 _) S.X.k (wpAny_call (dim_spec (hR.mono (by decide)) S.gd0 S.B S.X hm a1 a2 a3 a4 fun c₂ t₂ tp1 v1 v2 e₂ ht1 => ?_))) rfl (meth_246 _)))))
  have u2_ := S.up e₂
  have S₂ := S.go e₂
  have hmd := hmd.up u2_; have hr := hr.up u2_; have hm := hm.up u2_
  refine sx_unpack2 S₂ hR.1 ht1.2 fun c₃ t₃ S₃ u3 u32 => ?_
  have hmd := hmd.up u3; have hr := hr.up u3; have hm := hm.up u3
  -- many
  have hmany : ∃ many : Nat, many = (if s = 0 then high else wide) ∧ 1 ≤ many ∧ many ≤ 1000 := ⟨_, rfl, by split <;> omega, by split <;> omega⟩
  obtain ⟨many, em, b1, b2⟩ := hmany
  refine wpAny_execs_cons (wpAny_Assign_Name (wpAny_mono (Q := fun v s' => ∃ tm tt, v = .int many tm ∧ s' = ⟨c₃.h, c₃.g, d, tt, os⟩) ?_ ?_ (fun _ _ e => e)))
  · refine IfExp_ (wpAny_isTrue_Compare1 (x_name S₃.F.vars rfl (x_int (x_eq (x_truth ?_)))))
    by_cases q : s = 0
    · rw [if_pos q] at em
      refine ifTrue (by simp [q]) (x_name S₃.F.vars rfl ⟨_, _, by rw [em], rfl⟩)
    · rw [if_neg q] at em
      refine ifFalse (by simp; omega) (x_name S₃.F.vars rfl ⟨_, _, by rw [em], rfl⟩)
  rintro v s' ⟨tm, tt, rfl, rfl⟩
  refine sx_store S₃ fun c₄ t₄ _ _ S₄ u4 u42 _ => ?_
  have hmd := hmd.up u4; have hr := hr.up u4; have hm := hm.up u4
  refine wpAny_execs_cons (wpAny_Assign_Name (x_list (args_nil ⟨c₄, _, rfl, Nat.zero_le _, fun c₅ D e₅ hD hDn => ?_⟩)))
  have e₅ := e₅ T0 []
  have hDO : D ∉ O₂' := S₄.B.off hDn
  have hDO1 : D ∉ O' := fun z => hDO (S₄.B.sub _ z)
  have hDT : D ∉ T0 := fun z => hDO1 (S₄.F.tin _ z)
  have hD0 := S₄.F.none hDn
  have S₅ := (S₄.go e₅).more S₄.X (S₄.up e₅) hDn (list_get hD)
  have u5 := (S₄.up e₅).consF hDn
  have hmd := hmd.up u5; have hr := hr.up u5; have hm := hm.up u5
  refine sx_store S₅ fun c₆ t₆ ax hloc S₆ u6 u62 e₆ => ?_
  have hmd := hmd.up u6; have hr := hr.up u6; have hm := hm.up u6
  have hD := list_ext hD e₆ hDT (by simp; rintro rfl; exact hDO1 (S₄.F.own _ hloc.own))
  have hv : ∀ b' ∈ [D], b' ∉ ownOf _ ∧ b' ∈ D :: O' ∧ b' ∉ T0 := fun b' hb => by
    rw [List.mem_singleton.mp hb]
    exact ⟨fun z => hDO1 (S₄.F.own _ z), List.mem_cons_self .., hDT⟩
  refine wpAny_execs_cons (sx_for S₆ [D] (fun i mm O h => (mm "ring" = some (.ref r) ∧ mm "x" = some (.int x tx) ∧ mm "many" = some (.int many tm) ∧ mm "rows" = some (.ref D) ∧ mm "module" = some (.ref md) ∧ mm "made" = some (.ref mm1) ∧ mm "side" = some (.int s ts)) ∧ Grows (fun i v O h => RowEl r n many (diag x i) v O h) D i O h) ?_)
  refine Call_ (bi_name S₆.X (nb_range _) (bb_range _) (cwT1 (x_name S₆.F.vars rfl (x_range1 (by omega) fun c₇ rg t₇ e₇ it => ?_))))
  have u7 := S₆.up (e₇ _ _)
  have S₇ := S₆.go (e₇ _ _)
  have hmd := hmd.up u7; have hr := hr.up u7; have hm := hm.up u7
  refine ⟨c₇, t₇, many, _, rfl, S₇, it T0 _ _ hR.1 (fun b hb => S₇.F.low b (S₇.F.tin b hb)), hv, fun i mm O h O' h' ⟨a, b⟩ u k => ⟨a, b.up rowEl_up u k (by simp)⟩, ⟨⟨rfl, rfl, rfl, rfl, rfl, rfl, rfl⟩, ⟨[], list_ext hD (e₇ T0 []) hDT (by simp), rfl, by simp⟩⟩, ?_, ?_⟩
  · rintro I i v c mm t R' E' hI hIO hIe hi ⟨ti, hvi⟩ S u u2 ⟨⟨n1, n2, n3, n4, n5, n6, n7⟩, hG⟩ k
    subst hvi
    have hr := hr.up u
    obtain ⟨vs, g1, g2, g3⟩ := hG
    refine wpAny_execs_cons (wpAny_Expr_any (MethodCall_ (x_name S.F.vars n4 (x_appendM ⟨vs, g1⟩ (sx_comp0 S (fun j v O h => PolyEl r n (diag x i j) v O h) ?_)))))
    refine Call_ (bi_name S.X (nb_range _) (bb_range _) (cwT1 (x_name S.F.vars n3 (x_range1 (by omega) fun c₈ rg t₈ e₈ it => ?_))))
    have u8 := S.up (e₈ _ _)
    have S₈ := S.go (e₈ _ _)
    have hr := hr.up u8
    refine ⟨c₈, t₈, many, _, rfl, S₈, it T0 [] _ hR.1 (fun b hb => S₈.F.low b (S₈.F.tin b hb)), by rw [sizeLine_eq]; omega, polyEl_up, ?_, ?_⟩
    · rintro M j v nn L c₉ t₉ Q' E'' hj ⟨tj, hvj⟩ S₉ e₉ u₉ u₉2 k2
      subst hvj
      have hr := hr.up u₉
      obtain ⟨tq, tn, hr'⟩ := id hr
      refine IfExp_ (wpAny_isTrue_Compare1 (x_name S₉.F.vars rfl (x_name S₉.F.vars rfl (x_eq (x_truth ?_)))))
      by_cases q : i = j
      · refine ifTrue (by simp [q]) ?_
        refine Call_ (x_name S₉.F.vars n1 (cwI1 S₉.X hr' (ok_call59 _) (x_name S₉.F.vars n2 ⟨⟨_, S₉.X, fun _ _ x => x⟩, ?_⟩)))
        refine ringint_spec (hR.mono (by decide)) S₉.gdT S₉.bT S₉.xT (hr.up S₉.uT) hn1 hn fun ca ta p ea hp => ?_
        exact k2 ca ta _ ea ⟨p, rfl, hp.congr fun k _ => by unfold diag; rw [if_pos q]⟩
      · refine ifFalse (by simp; omega) ?_
        refine Call_ (x_name S₉.F.vars n1 (cwI1 S₉.X hr' (ok_call59 _) (x_int ⟨⟨_, S₉.X, fun _ _ x => x⟩, ?_⟩)))
        refine ringint_spec (hR.mono (by decide)) S₉.gdT S₉.bT S₉.xT (hr.up S₉.uT) hn1 hn fun ca ta p ea hp => ?_
        exact k2 ca ta _ ea ⟨p, rfl, hp.congr fun k _ => by unfold diag; rw [if_neg q]; split <;> rfl⟩
    · rintro D2 ca ta _ Sa ea ua ua2 hD2
      have g1a := list_ext (list_ext g1 (e₈ T0 []) hDT (by simp)) ea hDT (by simp)
      refine ⟨ca, ta, vs, T0, [D], rfl, g1a, hDT, by simp, by rw [sizeLine_eq]; omega, fun cb hDb eb sb => ?_⟩
      have SL := Sa.goL eb fun b hb => by rw [List.mem_singleton.mp hb]; exact ⟨.inl hD0, fun z => hDO1 (S₄.F.own _ z), List.mem_cons_self ..⟩
      have uu := (u8.trans ua).trans SL.2.1
      have uu2 := ((S.up2 (e₈ _ _)).trans ua2).trans SL.2.2
      refine wpAny_execs_nil (k cb _ _ SL.1 uu ⟨⟨n1, n2, n3, n4, n5, n6, n7⟩, vs ++ [.ref D2], hDb, by simp [g2], fun k v hkv => ?_⟩)
      rcases Nat.lt_or_ge k vs.length with z | z
      · rw [List.getElem?_append_left z] at hkv
        exact rowEl_up _ _ _ _ _ _ (g3 k v hkv) uu2
      · rw [List.getElem?_append_right z] at hkv
        have z0 : k - vs.length = 0 := by
          rcases Nat.eq_zero_or_pos (k - vs.length) with y | y
          · exact y
          · rw [List.getElem?_eq_none (by simp; omega)] at hkv; cases hkv
        rw [z0] at hkv
        simp at hkv
        subst hkv
        have : k = i := by omega
        subst this
        exact ⟨D2, rfl, Ls.up hD2 polyEl_up SL.2.2⟩
  · rintro c₈ t₈ mm S₈ u8 u82 ⟨⟨n1, n2, n3, n4, n5, n6, n7⟩, hG⟩
    have hmd := hmd.up u8; have hr := hr.up u8; have hm := hm.up u8
    obtain ⟨vs, g1, g2, g3⟩ := hG
    have hData : Data O₂' c₈.h D many many r n (diag x) := ⟨vs, ⟨hDO, g1⟩, g2, fun k v e => rowEl_up _ _ _ _ _ _ (g3 k v e) (Up.less fun b hb => .tail _ hb)⟩
    have bg : Bg T0 O₂' c₈.h := ⟨fun b hb => by
      rcases List.mem_cons.mp (S₈.B.sub b (S₈.F.tin b hb)) with z | z
      · exact absurd (z ▸ hb) hDT
      · exact z, fun b hb => S₈.B.low b (.tail _ hb)⟩
    refine wpAny_execs_cons (wpAny_If (wpAny_isTrue_Compare1 (x_name S₈.F.vars n7 (x_int (x_eq (x_truth ?_))))))
    have toT : Up O₂' c₈.h T0 c₈.h := Up.less bg.sub
    have zero : ∀ y : Int, IntMulOk 0 y ∧ IntMulOk y 0 := fun y => ⟨IntMulOk.of_left (by decide), IntMulOk.of_right (by decide)⟩
    have hdg : ∀ i j k y, (IntMulOk x y → IntMulOk (diag x i j k) y) ∧ (IntMulOk y x → IntMulOk y (diag x i j k)) := fun i j k y => by
      unfold diag
      split
      · split
        · exact ⟨id, id⟩
        · exact ⟨fun _ => (zero y).1, fun _ => (zero y).2⟩
      · exact ⟨fun _ => (zero y).1, fun _ => (zero y).2⟩
    by_cases q : s = 0
    · rw [if_pos q] at em
      subst em
      simp only [if_pos q] at hQ
      refine ifTrue (by simp [q]) ?_
      refine wpAny_execs_cons (wpAny_Return_some (wpAny_BinOp (Call_ (x_name S₈.F.vars n5 (cwI1 S₈.X hmd (ok_call375 _) (x_name S₈.F.vars n4 ⟨⟨_, S₈.X, fun _ _ x => x⟩, ?_⟩))))))
      refine modcall_spec (.inl ⟨rfl, rfl⟩) (hR.mono (by decide)) S₈.gdT bg S₈.xT (hmd.up S₈.uT) hData a1 a3 a3 fun c₉ t₉ m' e₉ hm' hd' => ?_
      have S₉ := S₈.go e₉
      have u9 := S₈.up e₉
      have hmd := hmd.up u9; have hr := hr.up u9; have hm := hm.up u9
      obtain ⟨ld2, tr2, im2, _⟩ := id hm
      have bg9 : Bg T0 O₂' c₉.h := bg.go e₉
      have toT9 : Up O₂' c₉.h T0 c₉.h := Up.less bg.sub
      have hm1 : IsMat T0 c₉.h m' md r n many many (diag x) := ⟨D, false, hm'.up toT9, hd'.up toT9⟩
      refine x_name S₉.F.vars n6 (x_bin S₉.xT (hm'.up toT9) (im2.up S₉.uT) (ok_mm331 _) (wpAny_call (mmul_spec (hR.mono (by decide)) S₉.gdT bg9 S₉.xT (hmd.up S₉.uT) (hr.up S₉.uT) hm1 (hm.up S₉.uT) hq hn1 hn a1 a2 a3 a4 a1 a3 (fun i k j hi hk hj a b ha hb => (hdg i k a _).1 (hmul k j hk hj b hb).1) fun ca ta mr ea hmr => ?_)))
      exact hQ ca _ mr (S₉.go ea).F.ext (hmr.up (Up.less sub))
    · rw [if_neg q] at em
      subst em
      simp only [if_neg q] at hQ
      refine ifFalse (by simp; omega) (wpAny_execs_nil ?_)
      refine wpAny_execs_cons (wpAny_Return_some (wpAny_BinOp (x_name S₈.F.vars n6 (Call_ (x_name S₈.F.vars n5 (cwI1 S₈.X hmd (ok_call375 _) (x_name S₈.F.vars n4 ⟨⟨_, S₈.X, fun _ _ x => x⟩, ?_⟩)))))))
      refine modcall_spec (.inl ⟨rfl, rfl⟩) (hR.mono (by decide)) S₈.gdT bg S₈.xT (hmd.up S₈.uT) hData a2 a4 a4 fun c₉ t₉ m' e₉ hm' hd' => ?_
      have S₉ := S₈.go e₉
      have u9 := S₈.up e₉
      have hmd := hmd.up u9; have hr := hr.up u9; have hm := hm.up u9
      obtain ⟨ld2, tr2, im2, _⟩ := id hm
      have bg9 : Bg T0 O₂' c₉.h := bg.go e₉
      have toT9 : Up O₂' c₉.h T0 c₉.h := Up.less bg.sub
      have hm1 : IsMat T0 c₉.h m' md r n many many (diag x) := ⟨D, false, hm'.up toT9, hd'.up toT9⟩
      refine x_bin S₉.xT (im2.up S₉.uT) (hm'.up toT9) (ok_mm331 _) (wpAny_call (mmul_spec (hR.mono (by decide)) S₉.gdT bg9 S₉.xT (hmd.up S₉.uT) (hr.up S₉.uT) (hm.up S₉.uT) hm1 hq hn1 hn a1 a2 a3 a4 a2 a4 (fun i k j hi hk hj a b ha hb => (hdg k j b _).2 (hmul i k hi hk a ha).2) fun ca ta mr ea hmr => ?_))
      exact hQ ca _ mr (S₉.go ea).F.ext (hmr.up (Up.less sub))
end
end Mine
end

section
open PySem PySem.W PySem.Calls PyProof.Rows
set_option Elab.async false
set_option maxRecDepth 100000
set_option linter.unusedSimpArgs false
set_option linter.unusedVariables false
namespace Mine
section
variable {prog : Program} {w : World} {A : Around} {s : Shared} {R : Result → Shared → Prop}
theorem turn2a (elt tx ix ty iy : Expr) (scope : Scope) (pos : Pos) (it acc : Value) (env : Env) :
    compTurn (.ListComp elt [⟨tx, ix, [], 0⟩, ⟨ty, iy, [], 0⟩] scope pos) 0 it acc env = (standAt ix.pos >>= fun _ => pyNext it >>= fun r => match r with
      | none => pure (.done .next)
      | some v => letOwnedTupleGo tx it v >>= fun _ => assign tx env v >>= fun _ =>
        eval iy env >>= fun x => standAt iy.pos >>= fun _ => foldedSetIterable iy env x >>= fun x => holding [x] (pyIter x) >>= fun z => runOwn (.compStart (.ListComp elt [⟨tx, ix, [], 0⟩, ⟨ty, iy, [], 0⟩] scope pos) 1 z acc env) env >>= fun _ =>
          again (.compLoop (.ListComp elt [⟨tx, ix, [], 0⟩, ⟨ty, iy, [], 0⟩] scope pos) 0 it acc env)) := by
  unfold compTurn
  simp only [List.getElem?_cons_zero, List.getElem?_cons_succ, Nat.zero_add]
  rfl
theorem turn2b (elt tx ix ty iy : Expr) (scope : Scope) (pos : Pos) (it acc : Value) (env : Env) :
    compTurn (.ListComp elt [⟨tx, ix, [], 0⟩, ⟨ty, iy, [], 0⟩] scope pos) 1 it acc env = (standAt iy.pos >>= fun _ => pyNext it >>= fun r => match r with
      | none => pure (.done .next)
      | some v => letOwnedTupleGo ty it v >>= fun _ => assign ty env v >>= fun _ =>
        (eval elt env >>= fun x => call (.builtin "list.append") [acc, x] >>= fun _ => pure ()) >>= fun _ =>
          again (.compLoop (.ListComp elt [⟨tx, ix, [], 0⟩, ⟨ty, iy, [], 0⟩] scope pos) 1 it acc env)) := by rfl
theorem start2 {e : Expr} {g : Comprehension} {it acc : Value} {env : Env} {k : Nat} (hc : (clausesOf e)[k]? = some g) (ha : g.is_async = 0) (hf : (Code.compStart e k it acc env).isFrame = false)
    (h0 : codeAny (model prog w) A (.compLoop e k it acc env) R s) (h : wpAny (model prog w) A (pyIter it) (fun it' s' => codeAny (model prog w) A (.compLoop e k it' acc env) R s') (notedBy (model prog w) A env fun x s' => R (.error x) s') s)
    (hu : A.under (.compStart e k it acc env) = A := by rfl) (hq : ∀ it, (Code.compLoop e k it acc env).quiet = true := by intro _; rfl) :
    codeAny (model prog w) A (.compStart e k it acc env) R s := by
  refine codeAny_of_tree ?_
  rw [hu]
  have hd : (model prog w).den (.compStart e k it acc env) = (compStart e k it acc env).onRaise (fun x => do noteFrame x env; standAt theWindowsPlace) := by
    show (if (Code.compStart e k it acc env).isFrame then _ else _) = _
    rw [hf]; rfl
  rw [hd]
  refine wpAny_notedAt ?_
  unfold compStart
  rw [hc]
  simp only [Option.elim, ha]
  show wpAny _ _ (ask >>= _) _ _ s
  refine wpAny_bind (wpAny_askSetting (wpAny_ite ?_))
  split
  · first
      | exact wpAny_bind (wpAny_pure (wpAny_pure (And.intro (hq _) h0)))
      | exact wpAny_pure (And.intro (hq _) h0)
  · first
      | exact wpAny_bind (wpAny_rule (wpAny_bind (wpAny_standAt (wpAny_bind (wpAny_mono h (fun it' s' h' => wpAny_pure (And.intro (hq _) h')) fun _ _ x => x)))))
      | (refine wpAny_bind (wpAny_rule ?_); show wpAny _ _ (standAt _ >>= _) _ _ s; exact wpAny_bind (wpAny_standAt (wpAny_bind (wpAny_mono h (fun it' s' h' => wpAny_pure (And.intro (hq _) h')) fun _ _ x => x))))
theorem loop2a {elt tx ix ty iy : Expr} {scope : Scope} {pos : Pos} {it acc : Value} {env : Env} (I : Nat → Shared → Prop)
    (turn : ∀ n s, I n s → wpAny (model prog w) A (pyNext it) (fun r s₁ => match r with
      | none => R (.ok .next) s₁
      | some v => wpAny (model prog w) A (assign tx env v) (fun _ s₂ => wpAny (model prog w) A (eval iy env) (fun x s₃ =>
          wpAny (model prog w) A (pyIter x) (fun z s₄ => codeAny (model prog w) A (.compStart (.ListComp elt [⟨tx, ix, [], 0⟩, ⟨ty, iy, [], 0⟩] scope pos) 1 z acc env) (fun r s' => match r with | .ok f => ∃ m, m < n ∧ I m s' | .error e => cameBackBy (model prog w) A env (notedBy (model prog w) A env fun e s' => R (.error e) s') e s') s₄) (notedBy (model prog w) A env fun e s' => R (.error e) s') s₃)
          (notedBy (model prog w) A env fun e s' => R (.error e) s') s₂) (notedBy (model prog w) A env fun e s' => R (.error e) s') s₁) (notedBy (model prog w) A env fun e s' => R (.error e) s') s)
    (n : Nat) (h : I n s) (hh : A.handled = none) (ht : ∀ v, letOwnedTupleGo tx it v = pure () := by intro _; rfl) (hs : ∀ x, foldedSetIterable iy env x = pure x := by intro _; rfl) :
    codeAny (model prog w) A (.compLoop (.ListComp elt [⟨tx, ix, [], 0⟩, ⟨ty, iy, [], 0⟩] scope pos) 0 it acc env) R s := by
  refine codeAny_loop rfl I (fun n s hI => ?_) n h
  show wpAny _ A ((compTurn (.ListComp elt [⟨tx, ix, [], 0⟩, ⟨ty, iy, [], 0⟩] scope pos) 0 it acc env).onRaise (fun x => do noteFrame x env; theTreesLotGoes x)) _ _ s
  refine wpAny_noted ?_
  rw [turn2a]
  refine wpAny_bind (wpAny_standAt (wpAny_bind (wpAny_mono (turn n s hI) (fun r s₁ h₁ => ?_) fun _ _ h' => h')))
  cases r with
  | none => exact wpAny_pure h₁
  | some v =>
    refine wpAny_bind (wpAny_of_eq (ht v) ?_)
    refine wpAny_bind (wpAny_mono h₁ (fun _ s₂ h₂ => wpAny_bind (wpAny_mono h₂ (fun x s₃ h₃ => ?_) fun _ _ h' => h')) fun _ _ h' => h')
    refine wpAny_bind (wpAny_standAt (wpAny_bind (wpAny_of_eq (hs x) (wpAny_bind (wpAny_holding (wpAny_mono h₃ (fun z s₄ h₄ => ?_) fun _ _ h' => h'))))))
    refine wpAny_bind (wpAny_runOwn ?_ (by intro q; cases q))
    have hm : A.mark none = A := by
      cases A; cases hh; rfl
    rw [hm]
    refine codeAny_mono h₄ fun r s' hr => ?_
    cases r with
    | ok f => exact wpAny_pure ⟨rfl, hr⟩
    | error e => exact hr
theorem loop2b {elt tx ix ty iy : Expr} {scope : Scope} {pos : Pos} {it acc : Value} {env : Env} (I : Nat → Shared → Prop)
    (turn : ∀ n s, I n s → wpAny (model prog w) A (pyNext it) (fun r s₁ => match r with
      | none => R (.ok .next) s₁
      | some v => wpAny (model prog w) A (assign ty env v) (fun _ s₂ => wpAny (model prog w) A (eval elt env) (fun x s₃ =>
          wpAny (model prog w) A (call (.builtin "list.append") [acc, x]) (fun _ s₄ => ∃ m, m < n ∧ I m s₄) (notedBy (model prog w) A env fun e s' => R (.error e) s') s₃)
          (notedBy (model prog w) A env fun e s' => R (.error e) s') s₂) (notedBy (model prog w) A env fun e s' => R (.error e) s') s₁) (notedBy (model prog w) A env fun e s' => R (.error e) s') s)
    (n : Nat) (h : I n s) (ht : ∀ v, letOwnedTupleGo ty it v = pure () := by intro _; rfl) :
    codeAny (model prog w) A (.compLoop (.ListComp elt [⟨tx, ix, [], 0⟩, ⟨ty, iy, [], 0⟩] scope pos) 1 it acc env) R s := by
  refine codeAny_loop rfl I (fun n s hI => ?_) n h
  show wpAny _ _ ((compTurn (.ListComp elt [⟨tx, ix, [], 0⟩, ⟨ty, iy, [], 0⟩] scope pos) 1 it acc env).onRaise (fun x => do noteFrame x env; theTreesLotGoes x)) _ _ s
  refine wpAny_noted ?_
  rw [turn2b]
  refine wpAny_bind (wpAny_standAt (wpAny_bind (wpAny_mono (turn n s hI) (fun r s₁ h₁ => ?_) fun _ _ h' => h')))
  cases r with
  | none => exact wpAny_pure h₁
  | some v =>
    refine wpAny_bind (wpAny_of_eq (ht v) ?_)
    exact wpAny_bind (wpAny_mono h₁ (fun _ s₂ h₂ => wpAny_bind (wpAny_bind (wpAny_mono h₂ (fun x s₃ h₃ => wpAny_bind (wpAny_mono h₃
      (fun _ s₄ h₄ => wpAny_pure (wpAny_pure ⟨rfl, h₄⟩)) fun _ _ h' => h')) fun _ _ h' => h'))) fun _ _ h' => h')
end
end Mine
end

section
open PySem PySem.W PySem.Calls PyProof.Rows
set_option Elab.async false
set_option maxRecDepth 100000
set_option linter.unusedSimpArgs false
set_option linter.unusedVariables false
namespace Mine
section
variable {prog : Program} {w : World} {A : Around} {E : Value → Shared → Prop} {c c₀ c₁ : Cr} {d : Drawn} {t t₁ : Nat} {os : OsState} {env : Env} {m : Str → Option Value} {T W O : List Addr} {R : Result → Shared → Prop}
theorem inner2 {elt ix iy tx : Expr} {y : Str} {py : Pos} {scope : Scope} {pos : Pos} {D : Addr} {n : Nat} {P : Nat → Value → Prop} {xv : Value} {ys : List Value} (PB : Value → Prop) (V' : List Addr) (hV' : ∀ a, Loc env y a → a ∈ V') (hVO : ∀ b ∈ V', b ∈ O)
    (hy : isVar env y = true) (hyf : (env.kindOf y == some .free) = false)
    (F₁ : Fx T W c₀ c₁ O env m) (hD : LsO c₁.h D ys.toArray) (hDO : D ∈ O) (hDT : D ∉ T) (hD0 : c₀.h.get? D = none) (hDown : D ∉ ownOf env)
    (hit : IterIn prog w A T O d os xv c₁ n P) (hsz : ys.length + n ≤ sizeLine)
    (helt : ∀ I j v c mm t Q' E', I ∉ O → c₁.h.get? I = none → j < n → P j v → Fx T W c₀ c O env (upd mm y v) → (∀ z, z ≠ y → mm z = m z) → Up O c₁.h O c.h → (∃ o, c.h.get? I = some o) →
      (∀ c' t' y', Ext T [] c c' → PB y' → Q' y' ⟨c'.h, c'.g, d, t', os⟩) → wpAny (model prog w) A (eval elt env) Q' E' ⟨c.h, c.g, d, t, os⟩)
    (hR : ∀ c' t' zs mm, Fx T W c₀ c' O env mm → (∀ z, z ≠ y → mm z = m z) → Ext T (D :: V') c₁ c' → LsO c'.h D (ys ++ zs).toArray → zs.length = n → (∀ z ∈ zs, PB z) → R (.ok .next) ⟨c'.h, c'.g, d, t', os⟩)
    (hE : ∀ it, (Code.compStart (.ListComp elt [⟨tx, ix, [], 0⟩, ⟨.Name y py, iy, [], 0⟩] scope pos) 1 it (.ref D) env).isFrame = false := by intro _; rfl)
    (hq : ∀ it, (Code.compLoop (.ListComp elt [⟨tx, ix, [], 0⟩, ⟨.Name y py, iy, [], 0⟩] scope pos) 1 it (.ref D) env).quiet = true := by intro _; rfl)
    (hu : ∀ it, A.under (.compStart (.ListComp elt [⟨tx, ix, [], 0⟩, ⟨.Name y py, iy, [], 0⟩] scope pos) 1 it (.ref D) env) = A := by intro _; rfl) :
    wpAny (model prog w) A (pyIter xv) (fun it s => codeAny (model prog w) A (.compStart (.ListComp elt [⟨tx, ix, [], 0⟩, ⟨.Name y py, iy, [], 0⟩] scope pos) 1 it (.ref D) env) R s) E ⟨c₁.h, c₁.g, d, t₁, os⟩ := by
  refine hit _ _ _ fun c₂ I fp St e₂ hI hIT Wk hIo st₀ hfp hg => ?_
  have F₂ := F₁.go e₂.nil
  have hIO : I ∉ O := fun q => by obtain ⟨o, e⟩ := F₁.low I q; rw [hI] at e; cases e
  have hIown : I ∉ ownOf env := fun q => hIO (F₁.own I q)
  have hID : I ≠ D := fun q => hIO (q ▸ hDO)
  have hI0 : c₀.h.get? I = none := by
    cases q : c₀.h.get? I with
    | none => rfl
    | some o => obtain ⟨o', e'⟩ := F₁.ext.there I o q; rw [hI] at e'; cases e'
  have win : ∀ b ∈ D :: V', b ∈ O := fun b hb => by
    rcases List.mem_cons.mp hb with rfl | hb
    · exact hDO
    · exact hVO b hb
  let Inv : Nat → Shared → Prop := fun k s => ∃ i c t mm zs, k = n - i ∧ i ≤ n ∧ s = ⟨c.h, c.g, d, t, os⟩ ∧ Fx T W c₀ c O env mm ∧ (∀ z, z ≠ y → mm z = m z) ∧ St i c.h ∧ Ext T (D :: V') c₁ c ∧ LsO c.h D (ys ++ zs).toArray ∧ zs.length = i ∧ (∀ z ∈ zs, PB z)
  have loop : codeAny (model prog w) A (.compLoop (.ListComp elt [⟨tx, ix, [], 0⟩, ⟨.Name y py, iy, [], 0⟩] scope pos) 1 (.ref I) (.ref D) env) R ⟨c₂.h, c₂.g, d, t₁, os⟩ := by
    refine loop2b Inv (fun k s hI' => ?_) (n - 0) ⟨0, c₂, t₁, m, [], rfl, Nat.zero_le _, rfl, F₂, fun _ _ => rfl, st₀, e₂.nil, by simpa using list_ext hD e₂ hDT (by simp), rfl, by simp⟩
    obtain ⟨i, c, t, mm, zs, rfl, hi, rfl, F, hmm, st, ex, hl, hlen, hzs⟩ := hI'
    by_cases hlt : i < n
    · refine Wk.item i _ _ _ hlt st fun v h' tk hP st' hk' => ?_
      have eI' : Ext T [I] c ⟨h', c.g⟩ := Ext.butk (fun b o ne e => hk' b o (by simpa using ne) e) hIT (by simp) (hIo _ _ st')
      have F' : Fx T W c₀ ⟨h', c.g⟩ O env mm := ⟨F.ext.absorb eI' fun b hb => .inl (by rw [List.mem_singleton.mp hb]; exact hI0), F.vars.keeps fun b hb o e => hk' b o (by simp; rintro rfl; exact hIown hb) e, F.own, F.tin, F.win, fun b hb => by
        obtain ⟨o, e⟩ := F.low b hb
        exact eI'.there b o e, F.new, eI'.tab F.tab⟩
      have l' := list_ext hl eI' hDT (by simpa using Ne.symm hID)
      have ex' : Ext T (D :: V') c₁ ⟨h', c.g⟩ := ex.absorb eI' fun b hb => by rw [List.mem_singleton.mp hb]; exact .inl hI
      refine wpAny_assign_Name (fx_store F' (fun c₅ t₅ a hloc F₅ u₅ e₅ hg₅ => ?_) hy hyf)
      have haO : a ∈ O := F.own a hloc.own
      have haD : D ≠ a := fun q => hDown (q ▸ hloc.own)
      have l₅ := list_ext l' e₅ hDT (by simpa using haD)
      have ex₅ : Ext T (D :: V') c₁ c₅ := ex'.absorb e₅ fun b hb => by rw [List.mem_singleton.mp hb]; exact .inr (.tail _ (hV' _ hloc))
      obtain ⟨oI, eI⟩ := hIo _ _ st'
      refine helt I i v c₅ mm t₅ _ _ hIO hI hlt hP F₅ hmm (ex₅.up F₁.tin win) ⟨oI, e₅.heap I oI hIT (by simp; rintro rfl; exact hIown hloc.own) eI⟩ fun c₆ t₆ y' e₆ hy' => ?_
      have l₆ := list_ext l₅ e₆ hDT (by simp)
      refine x_append (T := T) (W := [D]) l₆ hDT (by simp) (by simp; omega) (fun c₇ l₇ e₇ sb₇ hg₇ => ?_)
      have F₆ := F₅.go e₆.nil
      have F₇ := (F₆.goL e₇ (fun b hb => by rw [List.mem_singleton.mp hb]; exact ⟨.inl hD0, hDown, hDO⟩)).1
      refine ⟨n - (i + 1), by omega, i + 1, c₇, t₆, _, zs ++ [y'], rfl, hlt, rfl, F₇, fun z hz => ?_, Wk.frame _ _ _ st' fun b hb o e => ?_, (ex₅.trans e₆.nil).absorb e₇ (fun b hb => by rw [List.mem_singleton.mp hb]; exact .inr (List.mem_cons_self ..)), by simpa using l₇, by simp [hlen], fun z hz => ?_⟩
      · simp [upd, hz, hmm z hz]
      · have hb' : b ∉ T ∧ b ≠ a ∧ b ≠ D := by
          rcases hfp b hb with rfl | ⟨_, hbT, hbO⟩
          · exact ⟨hIT, fun q => hIown (q ▸ hloc.own), hID⟩
          · exact ⟨hbT, fun q => hbO (q ▸ haO), fun q => hbO (q ▸ hDO)⟩
        exact e₇.heap b o hb'.1 (by simpa using hb'.2.2) (e₆.heap b o hb'.1 (by simp) (e₅.heap b o hb'.1 (by simpa using hb'.2.1) e))
      · rcases List.mem_append.mp hz with q | q
        · exact hzs z q
        · rw [List.mem_singleton.mp q]; exact hy'
    · obtain rfl : i = n := Nat.le_antisymm hi (Nat.not_lt.mp hlt)
      refine Wk.done _ _ _ st fun h' tk hk' => ?_
      have kk : ∀ b o, b ∉ [I] → c.h.get? b = some o → h'.get? b = some o := fun b o hb e => hk' b o hb e
      have F' : Fx T W c₀ ⟨h', c.g⟩ O env mm := ⟨F.ext.lose kk fun b hb => by rw [List.mem_singleton.mp hb]; exact ⟨hI0, hIT⟩, F.vars.keeps fun b hb o e => kk b o (by simp; rintro rfl; exact hIown hb) e, F.own, F.tin, F.win, fun b hb => by
        obtain ⟨o, e⟩ := F.low b hb
        exact ⟨o, kk b o (by simp; rintro rfl; exact hIO hb) e⟩, F.new, fun P hP => by
        obtain ⟨vs, e, q⟩ := F.tab P hP
        exact ⟨vs, kk P _ (by simp; rintro rfl; exact hIT hP) e, q⟩⟩
      obtain ⟨oD, eD⟩ := hl
      exact hR ⟨h', c.g⟩ _ zs mm F' hmm (ex.lose kk fun b hb => by rw [List.mem_singleton.mp hb]; exact ⟨hI, hIT⟩) ⟨oD, kk D _ (by simpa using Ne.symm hID) eD⟩ hlen hzs
  refine start2 rfl rfl (hE _) loop (Wk.self 0 _ _ _ st₀ loop) (hu _) hq
end
end Mine
end

section
open PySem PySem.W PySem.Calls PyProof.Rows
set_option Elab.async false
set_option maxRecDepth 100000
set_option linter.unusedSimpArgs false
set_option linter.unusedVariables false
namespace Mine
section
variable {prog : Program} {w : World} {A : Around} {E : Value → Shared → Prop} {c c₀ c₁ : Cr} {d : Drawn} {t t₁ : Nat} {os : OsState} {env : Env} {m : Str → Option Value} {T W O : List Addr}
theorem core2 {elt iter iy : Expr} {x y : Str} {px py : Pos} {scope : Scope} {pos : Pos} {cl : List (Str × Addr)} {RR : Value → Addr → Result → Shared → Prop} {n n2 : Nat} {P P2 : Nat → Value → Prop} {xv : Value} (PB : Value → Prop)
    (hh : A.handled = none) (hcl : closL env.cells scope.names [] = some cl) (hok : scopeOk scope env = true) (hk : scope.kind = .function) (hfree : scope.names.lookup x ≠ some .free) (hfree2 : scope.names.lookup y ≠ some .free)
    (hx : ∀ nn L, isVar (cEnv scope (cellsFrom nn scope.names cl) L env) x = true ∧ ((cEnv scope (cellsFrom nn scope.names cl) L env).kindOf x == some .free) = false)
    (hy : ∀ nn L, isVar (cEnv scope (cellsFrom nn scope.names cl) L env) y = true ∧ ((cEnv scope (cellsFrom nn scope.names cl) L env).kindOf y == some .free) = false)
    (F₁ : Fx T W c₀ c₁ O env m) (hit : IterIn prog w A T [] d os xv c₁ n P) (hsz : n * n2 ≤ sizeLine)
    (hit2 : ∀ M i v nn L c mm t Q' E', (∀ b ∈ M, c₁.h.get? b = none ∨ b ∈ O) → i < n → P i v → Fx T W c₀ c (M ++ O) (cEnv scope (cellsFrom nn scope.names cl) L env) mm → (∀ z, z ≠ y → mm z = upd (cNames scope m) x v z) → Up O c₁.h (M ++ O) c.h →
      (∀ c' t' xv', Ext T [] c c' → IterIn prog w A T (M ++ O) d os xv' c' n2 P2 → Q' xv' ⟨c'.h, c'.g, d, t', os⟩) → wpAny (model prog w) A (eval iy (cEnv scope (cellsFrom nn scope.names cl) L env)) Q' E' ⟨c.h, c.g, d, t, os⟩)
    (helt : ∀ M i v j v' nn L c t Q' E', (∀ b ∈ M, c₁.h.get? b = none ∨ b ∈ O) → i < n → P i v → j < n2 → P2 j v' → Fx T W c₀ c (M ++ O) (cEnv scope (cellsFrom nn scope.names cl) L env) (upd (upd (cNames scope m) x v) y v') → Up O c₁.h (M ++ O) c.h →
        (∀ c' t' y, Ext T [] c c' → PB y → Q' y ⟨c'.h, c'.g, d, t', os⟩) → wpAny (model prog w) A (eval elt (cEnv scope (cellsFrom nn scope.names cl) L env)) Q' E' ⟨c.h, c.g, d, t, os⟩)
    (hRR : ∀ D L c' t' (ys : List Value), Fx T W c₀ c' O env m → Ext T [] c₁ c' → Up O c₁.h O c'.h → c₁.h.get? D = none → D ∉ O → LsO c'.h D ys.toArray → ys.length = n * n2 → (∀ z ∈ ys, PB z) → L ≠ D → c₁.h.get? L = none → L ∉ T → L ∉ O → (∃ ml, c'.h.Ns L ml) →
        RR (.ref D) L (.ok .next) ⟨c'.h, c'.g, d, t', os⟩)
    (hs : ∀ x env, foldedSetIterable iy env x = pure x := by intro _ _; rfl) :
    wpAny (model prog w) A (pyIter xv) (fun it s₂ => wpAny (model prog w) A (newList []) (fun acc s₃ => wpAny (model prog w) A (newFunctionEnv scope env.globals cl [] env.qual none .none (some env)) (fun cenv s₄ =>
      codeAny (model prog w) A (.compStart (.ListComp elt [⟨.Name x px, iter, [], 0⟩, ⟨.Name y py, iy, [], 0⟩] scope pos) 0 it acc { cenv with scope := relabel scope env }) (RR acc cenv.locals) s₄) E s₃) E s₂) E ⟨c₁.h, c₁.g, d, t₁, os⟩ := by
  refine hit _ _ _ fun c₂ I fp St e₂ hI hIT Wk hIo st₀ hfp hg => ?_
  have F₂ := F₁.go e₂.nil
  have hTl₂ : ∀ b ∈ T, ∃ o, c₂.h.get? b = some o := fun b hb => F₂.low b (F₂.tin b hb)
  obtain ⟨F₃, u₃, hD⟩ := F₂.push (o := { cls := .type "list", dict := none, data := .seq ([] : List Value).toArray }) rfl
  refine wpAny_newObj_type ?_ (by show (0 : Nat) ≤ sizeLine; exact Nat.zero_le _)
  obtain ⟨oI, eI⟩ := hIo 0 _ st₀
  have F₃' := F₃.more (a := I) ⟨oI, Heap.get?_push_of_some _ eI⟩
  generalize hc₃ : (⟨c₂.h.push { cls := .type "list", dict := none, data := .seq ([] : List Value).toArray }, c₂.g⟩ : Cr) = c₃ at F₃ F₃' u₃
  have k₃ : ∀ b o, c₂.h.get? b = some o → c₃.h.get? b = some o := by subst hc₃; exact fun b o e => Heap.get?_push_of_some _ e
  have g₃ : c₃.g = c₂.g := by subst hc₃; rfl
  have list₃ : LsO c₃.h c₂.h.objs.size ([] : List Value).toArray := by subst hc₃; exact ⟨_, Heap.get?_push_size _ rfl⟩
  have e₃ : Ext T [] c₂ c₃ := by subst hc₃; exact Ext.push
  show wpAny _ _ _ _ _ ⟨c₂.h.push { cls := .type "list", dict := none, data := .seq ([] : List Value).toArray }, c₂.g, d, _, os⟩
  have hst : ∀ tt, (⟨c₂.h.push { cls := .type "list", dict := none, data := .seq ([] : List Value).toArray }, c₂.g, d, tt, os⟩ : Shared) = ⟨c₃.h, c₃.g, d, tt, os⟩ := by subst hc₃; exact fun _ => rfl
  rw [hst]
  refine comp_env F₃' hk hcl hok fun c₄ nn L cells hcells hfresh hown F₄ e₄ u₄ hg₄ hns hL => ?_
  subst hcells
  obtain ⟨hx1, hx2⟩ := hx nn L
  obtain ⟨hy1, hy2⟩ := hy nn L
  have sizeNe : ∀ b o, c₁.h.get? b = some o → b ≠ c₂.h.objs.size := fun b o e => by
    obtain ⟨o', e'⟩ := e₂.there b o e
    exact ne_of_none size_none e'
  have hDn : c₁.h.get? c₂.h.objs.size = none := by
    cases q : c₁.h.get? c₂.h.objs.size with
    | none => rfl
    | some o => exact absurd rfl (sizeNe _ o q)
  have hLn : c₁.h.get? L = none := by
    cases q : c₁.h.get? L with
    | none => rfl
    | some o =>
      obtain ⟨o', e'⟩ := e₂.there L o q
      rw [k₃ L o' e'] at hL; cases hL
  have hDI : c₂.h.objs.size ≠ I := Ne.symm (ne_of_none size_none eI)
  have hLI : L ≠ I := fun q => by rw [q, k₃ I oI eI] at hL; cases hL
  have hLD : L ≠ c₂.h.objs.size := fun q => by obtain ⟨o, e⟩ := list₃; rw [q, e] at hL; cases hL
  have c₁new : ∀ b, c₃.h.get? b = none → c₁.h.get? b = none := fun b e => by
    cases q : c₁.h.get? b with
    | none => rfl
    | some o => obtain ⟨o', e'⟩ := e₂.there b o q; rw [k₃ b o' e'] at e; cases e
  have hDT : c₂.h.objs.size ∉ T := fun q => by obtain ⟨o, e⟩ := hTl₂ _ q; rw [size_none] at e; cases e
  have hDO : c₂.h.objs.size ∉ O := F₂.fresh size_none
  have hDown : ∀ b ∈ ownOf (cEnv scope (cellsFrom nn scope.names cl) L env), b ≠ I ∧ b ≠ c₂.h.objs.size ∧ (c₁.h.get? b = none ∨ b ∈ ownOf env) ∧ b ∉ T := fun b hb => by
    have hT := (F₄.new b hb).2.1
    rcases hown b hb with z | z
    · exact ⟨fun q => by rw [q, k₃ I oI eI] at z; (cases z), fun q => by (obtain ⟨o, e⟩ := list₃); (rw [q, e] at z); (cases z), .inl (c₁new b z), hT⟩
    · obtain ⟨o, e⟩ := F₁.low b (F₁.own b z)
      exact ⟨ne_of_none hI e, sizeNe b o e, .inr z, hT⟩
  have ownOld : ∀ a b o, a ∈ ownOf (cEnv scope (cellsFrom nn scope.names cl) L env) → c₁.h.get? a = none → c₁.h.get? b = some o → b ≠ a := fun a b o _ h1 h2 q => by rw [← q, h2] at h1; cases h1
  have hC₀D : c₀.h.get? c₂.h.objs.size = none := by
    cases q : c₀.h.get? c₂.h.objs.size with
    | none => rfl
    | some o => obtain ⟨o', e'⟩ := F₂.ext.there _ o q; rw [size_none] at e'; cases e'
  have hC₀I : c₀.h.get? I = none := by
    cases q : c₀.h.get? I with
    | none => rfl
    | some o => obtain ⟨o', e'⟩ := F₁.ext.there _ o q; rw [hI] at e'; cases e'
  generalize hDd : c₂.h.objs.size = D at *
  generalize hce : cEnv scope (cellsFrom nn scope.names cl) L env = cenv at *
  have hMO : (ownOf cenv ++ [I, D]) ++ O = ownOf cenv ++ (I :: D :: O) := by simp
  generalize hMM : ownOf cenv ++ [I, D] = M at hMO
  have hM : ∀ b ∈ M, c₁.h.get? b = none ∨ b ∈ O := fun b hb => by
    subst hMM
    rcases List.mem_append.mp hb with hb | hb
    · rcases (hDown b hb).2.2.1 with z | z
      · exact .inl z
      · exact .inr (F₁.own b z)
    · rcases List.mem_cons.mp hb with rfl | hb
      · exact .inl hI
      · rw [List.mem_singleton.mp hb]; exact .inl hDn
  have hDM : D ∈ M ∧ I ∈ M ∧ ∀ b ∈ ownOf cenv, b ∈ M := by subst hMM; exact ⟨by simp, by simp, fun b hb => List.mem_append_left _ hb⟩
  have hlocal : cenv.locals = L := by subst hce; rfl
  rw [← hMO] at F₄
  have ext₄ : Ext T [] c₁ c₄ := (e₂.trans e₃).trans e₄
  have list₄ : LsO c₄.h D ([] : List Value).toArray := list_ext list₃ e₄ hDT (by simp)
  have st₄ : St 0 c₄.h := Wk.frame 0 _ _ st₀ fun b hb o e => by
    rcases hfp b hb with rfl | ⟨_, hbT, _⟩
    · exact e₄.heap _ o hIT (by simp) (e₃.heap _ o hIT (by simp) e)
    · exact e₄.heap _ o hbT (by simp) (e₃.heap _ o hbT (by simp) e)
  let V' := (ownOf cenv).filter fun a => (c₁.h.get? a).isNone
  have hVm : ∀ b ∈ V', b ∈ ownOf cenv ∧ c₁.h.get? b = none := fun b hb => by
    have := List.mem_filter.mp hb
    exact ⟨this.1, by simpa using this.2⟩
  have hVi : ∀ b, b ∈ ownOf cenv → c₁.h.get? b = none → b ∈ V' := fun b h1 h2 => List.mem_filter.mpr ⟨h1, by simp [h2]⟩
  have upOf : ∀ cc : Cr, Ext T [] c₁ cc → Up O c₁.h (M ++ O) cc.h := fun cc ec b o e => by
    refine ⟨fun q => ?_, ec.heap b o (fun q => e.1 (F₁.tin b q)) (by simp) e.2⟩
    rcases List.mem_append.mp q with q | q
    · rcases hM b q with z | z
      · rw [e.2] at z; cases z
      · exact e.1 z
    · exact e.1 q
  have fpD : ∀ b ∈ fp, b ≠ D ∧ b ∉ T ∧ (b = I ∨ ∃ o, c₁.h.get? b = some o) := fun b hb => by
    rcases hfp b hb with rfl | ⟨⟨o, e⟩, h1, h2⟩
    · exact ⟨Ne.symm hDI, hIT, .inl rfl⟩
    · exact ⟨sizeNe b o e, h1, .inr ⟨o, e⟩⟩
  have fpA : ∀ b ∈ fp, ∀ a, a ∈ ownOf cenv → c₁.h.get? a = none → b ≠ a := fun b hb a h1 h2 q => by
    rcases (fpD b hb).2.2 with z | ⟨o', z⟩
    · exact (hDown a h1).1 (q ▸ z)
    · rw [q, h2] at z; cases z
  let e2 : Expr := .ListComp elt [⟨.Name x px, iter, [], 0⟩, ⟨.Name y py, iy, [], 0⟩] scope pos
  let Inv : Nat → Shared → Prop := fun k s => ∃ (i : Nat) (ys : List Value) (c : Cr) (t : Nat) (mm : Str → Option Value), k = n - i ∧ i ≤ n ∧ s = ⟨c.h, c.g, d, t, os⟩ ∧ Fx T W c₀ c (M ++ O) cenv mm ∧ (∀ v z, z ≠ y → upd mm x v z = upd (cNames scope m) x v z) ∧ St i c.h ∧ LsO c.h D ys.toArray ∧ ys.length = i * n2 ∧ Ext T [] c₁ c ∧ ∀ z ∈ ys, PB z
  have loop : codeAny (model prog w) A (.compLoop e2 0 (.ref I) (.ref D) cenv) (RR (.ref D) L) ⟨c₄.h, c₄.g, d, t₁, os⟩ := by
    refine loop2a Inv (fun k s hI' => ?_) (n - 0) ⟨0, [], c₄, t₁, cNames scope m, rfl, Nat.zero_le _, rfl, F₄, fun _ _ _ => rfl, st₄, list₄, by simp, ext₄.nil, by simp⟩ hh (hs := fun x => hs x _)
    obtain ⟨i, ys, c, t, mm, rfl, hi, rfl, F, hmm, st, hl, hlen, ex, hPB⟩ := hI'
    by_cases hlt : i < n
    · refine Wk.item i _ _ _ hlt st fun v h' tk hP st' hk' => ?_
      have eI' : Ext T [I] c ⟨h', c.g⟩ := Ext.butk (fun b o ne e => hk' b o (by simpa using ne) e) hIT (by simp) (hIo _ _ st')
      have F' := (F.goL eI' (fun b hb => by rw [List.mem_singleton.mp hb]; exact ⟨.inl hC₀I, fun q => (hDown I q).1 rfl, List.mem_append_left _ hDM.2.1⟩)).1
      have l' := list_ext hl eI' hDT (by simpa using hDI)
      have ex' : Ext T [] c₁ ⟨h', c.g⟩ := ex.absorb eI' fun b hb => by rw [List.mem_singleton.mp hb]; exact .inl hI
      refine wpAny_assign_Name (fx_store F' (fun c₅ t₅ a hloc F₅ u₅ e₅ hg₅ => ?_) hx1 hx2)
      have ha₁ := c₁new a (hfresh x a hloc hfree)
      have haI : a ≠ I := (hDown a hloc.own).1
      have haD : a ≠ D := (hDown a hloc.own).2.1
      have st₅ : St (i + 1) c₅.h := Wk.frame _ _ _ st' fun b hb o e => e₅.heap b o (fpD b hb).2.1 (fun q => fpA b hb a hloc.own ha₁ (List.mem_singleton.mp q)) e
      have l₅ := list_ext l' e₅ hDT (by simpa using Ne.symm haD)
      have ex₅ : Ext T [] c₁ c₅ := ex'.absorb e₅ fun b hb => by rw [List.mem_singleton.mp hb]; exact .inl ha₁
      have hnm : ∀ z, z ≠ y → upd mm x v z = upd (cNames scope m) x v z := hmm v
      have call := hit2 M i v nn L c₅ _ t₅ (fun xq s₃ => wpAny (model prog w) A (pyIter xq) (fun z s₄ => codeAny (model prog w) A (.compStart e2 1 z (.ref D) cenv) (fun r s' => match r with | .ok f => ∃ m, m < n - i ∧ Inv m s' | .error e => cameBackBy (model prog w) A cenv (notedBy (model prog w) A cenv fun e s' => RR (.ref D) L (.error e) s') e s') s₄) (notedBy (model prog w) A cenv fun e s' => RR (.ref D) L (.error e) s') s₃) (notedBy (model prog w) A cenv fun e s' => RR (.ref D) L (.error e) s') hM hlt hP (by rw [hce]; exact F₅) hnm (upOf _ ex₅) (fun c₆ t₆ xv' e₆ it₆ => ?_)
      · rw [hce] at call; exact call
      have F₆ := F₅.go e₆.nil
      have l₆ := list_ext l₅ e₆ hDT (by simp)
      have ex₆ := ex₅.trans e₆
      have st₆ : St (i + 1) c₆.h := Wk.frame _ _ _ st₅ fun b hb o e => e₆.heap b o (fpD b hb).2.1 (by simp) e
      have hin : i * n2 + n2 ≤ n * n2 := by
        have := Nat.mul_le_mul_right n2 (Nat.succ_le_of_lt hlt)
        rwa [Nat.succ_mul] at this
      refine inner2 PB V' (fun a q => hVi a q.own (c₁new a (hfresh y a q hfree2))) (fun b hb => List.mem_append_left _ (hDM.2.2 b (hVm b hb).1)) hy1 hy2 F₆ l₆ (List.mem_append_left _ hDM.1) hDT hC₀D (fun q => (hDown D q).2.1 rfl) it₆ (by rw [hlen]; omega)
        (fun I' j v' c₇ mm' t₇ Q' E' hI'O hI'n hj hP2 F₇ hmm' u₇ hI'e hq => ?_) (fun c₈ t₈ zs mm' F₈ hmm' e₈ l₈ hz8 hp8 => ?_)
      · have hnames : upd mm' y v' = upd (upd (cNames scope m) x v) y v' := by
          funext z
          by_cases q : z = y
          · simp [upd, q]
          · have h1 := hmm' z q
            have h2 := hnm z q
            simp only [upd, if_neg q]
            rw [h1]
            exact h2
        rw [hnames] at F₇
        have u₆ : Up O c₁.h (M ++ O) c₇.h := (upOf _ ex₆).trans u₇
        have := helt M i v j v' nn L c₇ t₇ Q' E' hM hlt hP hj hP2 (by rw [hce]; exact F₇) u₆ hq
        rw [hce] at this; exact this
      · refine ⟨n - (i + 1), by omega, i + 1, ys ++ zs, c₈, t₈, mm', rfl, hlt, rfl, F₈, fun v' z hz => ?_, Wk.frame _ _ _ st₆ fun b hb o e => ?_, l₈, by simp [hlen, hz8, Nat.succ_mul], ex₆.absorb e₈ fun b hb => ?_, fun z hz => ?_⟩
        · by_cases q : z = x
          · simp [upd, q]
          · have h1 := hmm' z hz
            have h2 := hnm z hz
            have h3 := hmm v z hz
            simp only [upd, if_neg q] at h1 h2 ⊢
            rw [h1]; exact h2
        · exact e₈.heap b o (fpD b hb).2.1 (fun q => by
            rcases List.mem_cons.mp q with q | q
            · exact (fpD b hb).1 q
            · exact fpA b hb b (hVm b q).1 (hVm b q).2 rfl) e
        · rcases List.mem_cons.mp hb with rfl | hb
          · exact .inl hDn
          · exact .inl (hVm b hb).2
        · rcases List.mem_append.mp hz with q | q
          · exact hPB z q
          · exact hp8 z q
    · obtain rfl : i = n := Nat.le_antisymm hi (Nat.not_lt.mp hlt)
      refine Wk.done _ _ _ st fun h' tk hk' => ?_
      obtain ⟨ml, hns', _⟩ := F.vars.loc
      rw [hlocal] at hns'
      have hLown : L ∈ ownOf cenv := by rw [← hlocal]; exact List.mem_cons_self ..
      have hLT : L ∉ T := (hDown L hLown).2.2.2
      have kk : ∀ b o, b ∉ [I] → c.h.get? b = some o → h'.get? b = some o := fun b o hb e => hk' b o hb e
      have ex'' : Ext T [] c₁ ⟨h', c.g⟩ := ex.lose kk fun b hb => by
        rw [List.mem_singleton.mp hb]; exact ⟨hI, hIT⟩
      obtain ⟨Fo, uo⟩ := F₁.goL ex'' (by simp)
      have lD : LsO h' D ys.toArray := by
        obtain ⟨o, e⟩ := hl
        exact ⟨o, kk D _ (by simp [hDI]) e⟩
      refine hRR D L ⟨h', c.g⟩ _ ys Fo ex'' uo hDn hDO lD hlen hPB hLD hLn hLT (fun q => ?_) ⟨ml, hns'.at' fun o e => hk' L o (by simpa using hLI) e⟩
      obtain ⟨o, e⟩ := F₁.low L q
      rw [hLn] at e; cases e
  have goal := start2 (e := e2) (k := 0) (acc := .ref D) (env := cenv) rfl rfl rfl loop (Wk.self 0 _ _ _ st₄ loop)
  subst hce
  exact goal
end
end Mine
end

section
open PySem PySem.W PySem.Calls PyProof.Rows
set_option Elab.async false
set_option maxRecDepth 100000
set_option linter.unusedSimpArgs false
set_option linter.unusedVariables false
namespace Mine
theorem regN4 : PySem.Challenge.rw_yd0003_04 = PySem.Challenge.rw_yd0003_04 ∧ hd.heap_1 = hd.heap_1 := by k_fill; exact ⟨rfl, rfl⟩
section
variable {prog : Program} {w : World} {A : Around} {E : Value → Shared → Prop} {c c₀ c₁ : Cr} {d : Drawn} {t t₁ : Nat} {os : OsState} {env : Env} {m : Str → Option Value} {T W O O₂ : List Addr}
theorem sx_comp2 {elt iter iy : Expr} {x y : Str} {px py : Pos} {scope : Scope} {pos : Pos} {cl : List (Str × Addr)} {Q : Value → Shared → Prop} (hh : A.handled = none) (S₀ : Sx w.params T W c₀ c O O₂ env m) (PB : Value → Prop)
    (h : wpAny (model prog w) A (eval iter env) (fun xv s₁ => ∃ c₁ t₁ n n2 P P2, s₁ = ⟨c₁.h, c₁.g, d, t₁, os⟩ ∧ Sx w.params T W c₀ c₁ O O₂ env m ∧ IterIn prog w A T [] d os xv c₁ n P ∧ n * n2 ≤ sizeLine ∧
      (∀ M i v nn L c mm t Q' E', i < n → P i v → Sx w.params T W c₀ c (M ++ O) (M ++ O₂) (cEnv scope (cellsFrom nn scope.names cl) L env) mm → (∀ z, z ≠ y → mm z = upd (cNames scope m) x v z) → Up O c₁.h (M ++ O) c.h →
        (∀ c' t' xv', Ext T [] c c' → IterIn prog w A T (M ++ O) d os xv' c' n2 P2 → Q' xv' ⟨c'.h, c'.g, d, t', os⟩) → wpAny (model prog w) A (eval iy (cEnv scope (cellsFrom nn scope.names cl) L env)) Q' E' ⟨c.h, c.g, d, t, os⟩) ∧
      (∀ M i v j v' nn L c t Q' E', i < n → P i v → j < n2 → P2 j v' → Sx w.params T W c₀ c (M ++ O) (M ++ O₂) (cEnv scope (cellsFrom nn scope.names cl) L env) (upd (upd (cNames scope m) x v) y v') → Up O c₁.h (M ++ O) c.h →
        (∀ c' t' y, Ext T [] c c' → PB y → Q' y ⟨c'.h, c'.g, d, t', os⟩) → wpAny (model prog w) A (eval elt (cEnv scope (cellsFrom nn scope.names cl) L env)) Q' E' ⟨c.h, c.g, d, t, os⟩) ∧
      (∀ D c' t' (ys : List Value), Sx w.params T W c₀ c' O O₂ env m → Ext T [] c₁ c' → LsO c'.h D ys.toArray → D ∉ O → ys.length = n * n2 → (∀ z ∈ ys, PB z) → Q (.ref D) ⟨c'.h, c'.g, d, t', os⟩)) E ⟨c.h, c.g, d, t, os⟩)
    (hs0 : ∀ x, foldedSetIterable iter env x = pure x := by intro _; rfl) (hs : ∀ x env, foldedSetIterable iy env x = pure x := by intro _ _; rfl)
    (hcl : closL env.cells scope.names [] = some cl := by rfl) (hok : scopeOk scope env = true := by rfl) (hk : scope.kind = .function := by rfl) (hfree : scope.names.lookup x ≠ some .free := by decide) (hfree2 : scope.names.lookup y ≠ some .free := by decide)
    (hnames : ∀ y ∈ scope.names, y.2 = .local → scope.names.lookup y.1 = some .local := by decide)
    (hx : ∀ nn L, isVar (cEnv scope (cellsFrom nn scope.names cl) L env) x = true ∧ ((cEnv scope (cellsFrom nn scope.names cl) L env).kindOf x == some .free) = false := by exact fun _ _ => ⟨rfl, rfl⟩)
    (hy : ∀ nn L, isVar (cEnv scope (cellsFrom nn scope.names cl) L env) y = true ∧ ((cEnv scope (cellsFrom nn scope.names cl) L env).kindOf y == some .free) = false := by exact fun _ _ => ⟨rfl, rfl⟩) :
    wpAny (model prog w) A (eval (.ListComp elt [⟨.Name x px, iter, [], 0⟩, ⟨.Name y py, iy, [], 0⟩] scope pos) env) Q E ⟨c.h, c.g, d, t, os⟩ := by
  rw [eval_ListComp]
  refine wpAny_comprehension_free (use := none) rfl hs0 (closL_closureFor hcl) hk hnames (wpAny_mono h (fun xv s₁ h₁ => ?_) fun _ _ e => e)
  obtain ⟨c₁, t₁, n, n2, P, P2, rfl, S₁, hit, hsz, hit2, helt, hQ⟩ := h₁
  have bgM : ∀ M c, (∀ b ∈ M, c₁.h.get? b = none ∨ b ∈ O) → ∀ {env' m'}, Fx T W c₀ c (M ++ O) env' m' → Up O c₁.h (M ++ O) c.h → Sx w.params T W c₀ c (M ++ O) (M ++ O₂) env' m' := fun M c hM env' m' F u => ⟨F, S₁.X.up u, fun b hb => by
      rcases List.mem_append.mp hb with q | q
      · exact List.mem_append_left _ q
      · exact List.mem_append_right _ (S₁.B.sub b q), fun b hb => by
      rcases List.mem_append.mp hb with q | q
      · exact F.low b (List.mem_append_left _ q)
      · by_cases z : b ∈ O
        · exact F.low b (List.mem_append_right _ z)
        · obtain ⟨o, e⟩ := S₁.B.low b q
          exact ⟨o, (u b o ⟨z, e⟩).2⟩⟩
  refine core2 PB hh hcl hok hk hfree hfree2 hx hy S₁.F hit hsz (fun M i v nn L c mm t Q' E' hM hi hP F hmm u q => hit2 M i v nn L c mm t Q' E' hi hP (bgM M c hM F u) hmm u q)
    (fun M i v j v' nn L c t Q' E' hM hi hP hj hP2 F u q => helt M i v j v' nn L c t Q' E' hi hP hj hP2 (bgM M c hM F u) u q) (fun D L c' t' ys F' ex u hD hDO hl hlen hPB hLD hLn hLT hLO hns => ?_) hs
  obtain ⟨ml, hns⟩ := hns
  refine ⟨ml, hns, fun h'' sb => ?_⟩
  have kk : ∀ b o, b ∉ [L] → c'.h.get? b = some o → h''.get? b = some o := fun b o hb e => (sb.2 b (by simpa using hb)).trans e
  have ex'' : Ext T [] c₁ ⟨h'', c'.g⟩ := ex.lose kk fun b hb => by rw [List.mem_singleton.mp hb]; exact ⟨hLn, hLT⟩
  refine hQ D ⟨h'', c'.g⟩ t' ys (S₁.go ex''.nil) ex'' (list_but hl sb (Ne.symm hLD)) hDO hlen hPB
theorem x_allTrue {l : Addr} {ys : List Value} {Q : Value → Shared → Prop} (hR : Rm 2 A) (hl : LsO c.h l ys.toArray) (hys : ∀ z ∈ ys, z = .bool true)
    (hQ : ∀ c' t', (∀ T W, Ext T W c c') → Q (.bool true) ⟨c'.h, c'.g, d, t', os⟩) :
    wpAny (model prog w) A (call (.builtin "all") [.ref l]) Q E ⟨c.h, c.g, d, t, os⟩ := by
  have hi : IterIn prog w A.in1 [] [] d os (.ref l) c ys.length (fun i v => ys[i]? = some v) := iter_list hR.in1.1 hl (by simp) (by simp) (by simp)
  refine call_all_walk (hi _ _ _ fun c₂ I fp St e₂ hI hIT Wk hIo st₀ hfp hg => ?_)
  refine ⟨I, fp, [I], ys.length, _, St, fun _ => true, rfl, Wk, st₀, ?_, fun h' tk k => ?_⟩
  · intro i v s Q E hv hq
    rw [hys v (List.mem_of_getElem? hv)]
    exact x_truth hq
  · have e : (List.range ys.length).all (fun _ => true) = true := by simp
    rw [e]
    have z : Ext [] [] c ⟨h', c₂.g⟩ := e₂.lose k fun b hb => by rw [List.mem_singleton.mp hb]; exact ⟨hI, by simp⟩
    exact hQ ⟨h', c₂.g⟩ tk fun T W => ⟨fun b o _ _ e => z.heap b o (by simp) (by simp) e, z.there, fun q P hP => let ⟨vs, e, r⟩ := q P hP; ⟨vs, z.heap P _ (by simp) (by simp) e, r⟩, z.gens⟩
end
end Mine
end

section
open PySem PySem.W PySem.Calls PyProof.Rows
set_option Elab.async false
set_option maxRecDepth 100000
set_option linter.unusedSimpArgs false
set_option linter.unusedVariables false
namespace Mine
theorem regN5 : PySem.Challenge.rw_yd0003_04 = PySem.Challenge.rw_yd0003_04 ∧ hd.heap_1 = hd.heap_1 := by k_fill; exact ⟨rfl, rfl⟩
section
variable {prog : Program} {w : World} {A : Around} {E : Value → Shared → Prop} {c : Cr} {d : Drawn} {t : Nat} {os : OsState} {O O₂ : List Addr} {R : Result → Shared → Prop}
set_option maxHeartbeats 1000000 in
theorem meq_spec {m1 m2 md md' r : Addr} {n high wide : Nat} {f1 f2 : Mat} (hR : Rm 10 A) (G : Gd T0 [] O c.h) (X : Wd w.params O c.h) (h1 : IsMat O c.h m1 md r n high wide f1) (h2 : IsMat O c.h m2 md' r n high wide f2)
    (a1 : 1 ≤ high) (a2 : 1 ≤ wide) (a3 : high ≤ 1000) (a4 : wide ≤ 1000) (heq : ∀ i j k, i < high → j < wide → k < n → f1 i j k = f2 i j k)
    (hQ : ∀ c' t', Ext T0 [] c c' → R (.ok (.ret (.bool true))) ⟨c'.h, c'.g, d, t', os⟩) :
    codeAny (model prog w) A (.call (.ref 287) ⟨[.ref m1, .ref m2], []⟩) R ⟨c.h, c.g, d, t, os⟩ := by
  refine fn_in (f := 287) [("self", .ref m1), ("other", .ref m2)] hR.room G X (O₂ := O) ⟨fun _ h => h, G.low⟩ (kk_lookup (by k_is) rfl) (by kernel_rfl) (BindsTo.of_eq rfl) (by kernel_rfl) (by decide +kernel) rfl rfl rfl ?_
  intro env c₁ t₁ O' O₂' he S u u2 sub subO e
  have hR := hR.deeper (env := env)
  subst he
  have h1 := h1.up u; have h2 := h2.up u
  obtain ⟨ld1, tr1, i1, _⟩ := id h1
  obtain ⟨ld2, tr2, i2, _⟩ := id h2
  refine wpAny_execs_cons (wpAny_If (wpAny_isTrue_Compare1 (MethodCall_ (x_name S.F.vars rfl (x_getM S.X i1 (cwK0 (keep_246 _) S.X.k (wpAny_call (dim_spec (hR.mono (by decide)) S.gd0 S.B S.X h1 a1 a2 a3 a4 fun c₂ t₂ tp1 u1 u2 e₂ ht1 => ?_))) rfl (meth_246 _))))))
  have S := S.go e₂
  have u := ‹Sx w.params T0 [] c c₁ O' O₂' _ _›.up e₂
  have h1 := h1.up u; have h2 := h2.up u; have i1 := i1.up u; have i2 := i2.up u
  refine MethodCall_ (x_name S.F.vars rfl (x_getM S.X i2 (cwK0 (keep_246 _) S.X.k (wpAny_call (dim_spec (hR.mono (by decide)) S.gd0 S.B S.X h2 a1 a2 a3 a4 fun c₃ t₃ tp2 u1' u2' e₃ ht2 => ?_))) rfl (meth_246 _)))
  have u3 := S.up e₃
  have ht1 := ht1.up (S.up2 e₃)
  have S₃ := S.go e₃
  have h1 := h1.up u3; have h2 := h2.up u3; have i1 := i1.up u3
  refine x_neTup hR.units ht1.2 ht2.2 (x_truth ?_)
  refine ifFalse (by simp) (wpAny_execs_nil ?_)
  refine wpAny_execs_cons (Assign_Tuple (MethodCall_ (x_name S₃.F.vars rfl (x_getM S₃.X i1 (cwK0 (keep_246 _) S₃.X.k (wpAny_call (dim_spec (hR.mono (by decide)) S₃.gd0 S₃.B S₃.X h1 a1 a2 a3 a4 fun c₄ t₄ tp3 v1 v2 e₄ ht3 => ?_))) rfl (meth_246 _)))))
  have u4 := S₃.up e₄
  have S₄ := S₃.go e₄
  have h1 := h1.up u4; have h2 := h2.up u4
  refine sx_unpack2 S₄ hR.1 ht3.2 fun c₅ t₅ S₅ u5 u52 => ?_
  have h1 := h1.up u5; have h2 := h2.up u5
  refine wpAny_execs_cons (wpAny_Return_some (Call_ (bi_name S₅.X (nb_all _) (bb_all _) (cwB1 (sx_comp2 hR.1 S₅ (fun z => z = .bool true) ?_)))))
  refine Call_ (bi_name S₅.X (nb_range _) (bb_range _) (cwT1 (x_name S₅.F.vars rfl (x_range1 (by omega) fun c₆ rg t₆ e₆ it => ?_))))
  have u6 := S₅.up (e₆ _ _)
  have S₆ := S₅.go (e₆ _ _)
  have h1 := h1.up u6; have h2 := h2.up u6
  refine ⟨c₆, t₆, high, wide, _, (fun i v => ∃ t, v = .int ((i : Nat) : Int) t), rfl, S₆, it T0 [] _ hR.1 (fun b hb => S₆.F.low b (S₆.F.tin b hb)), ?_, ?_, ?_, ?_⟩
  · have := Nat.mul_le_mul a3 a4
    rw [sizeLine_eq]; omega
  · rintro M i v nn L c mm t Q' E' hi ⟨ti, hv⟩ S hmm u q
    refine Call_ (bi_name S.X (nb_range _) (bb_range _) (cwT1 (x_name S.F.vars ((hmm "n" (by decide)).trans rfl) (x_range1 (by omega) fun c₇ rg t₇ e₇ it => ?_))))
    have S₇ := S.go (e₇ _ _)
    exact q c₇ _ _ (e₇ _ _) (it T0 _ _ hR.1 (fun b hb => S₇.F.low b (S₇.F.tin b hb)))
  · rintro M i v j v' nn L c t Q' E' hi ⟨ti, hv⟩ hj ⟨tj, hv'⟩ S u q
    subst hv hv'
    have h1 := h1.up u; have h2 := h2.up u
    refine wpAny_Compare1 (x_mitem (hR.mono (by decide)) S h1 rfl rfl rfl hi hj a3 a4 fun ca ta pa ea hpa => ?_)
    have Sa := S.go ea
    have ua := S.up ea
    have h2 := h2.up ua
    refine x_mitem (hR.mono (by decide)) Sa h2 rfl rfl rfl hi hj a3 a4 fun cb tb pb eb hpb => ?_
    have Sb := Sa.go eb
    have ub := Sa.up eb
    have hpa := hpa.up ub
    obtain ⟨la, ia, va⟩ := id hpa
    obtain ⟨lb, ib, vb⟩ := id hpb
    refine x_eqI hR.units Sb.X ia ib (ok_eq220 _) (wpAny_call (polyeq_spec (hR.mono (by decide)) Sb.gdT Sb.xT (hpa.up Sb.uT) (hpb.up Sb.uT) fun cc tc ec => ?_))
    have hb : ((List.range n).all fun k => f1 i j k == f2 i j k) = true := by
      simp only [List.all_eq_true, List.mem_range, beq_iff_eq]
      exact fun k hk => heq i j k hi hj hk
    rw [hb]
    exact q cc _ _ ((ea.trans eb).trans ec) rfl
  · rintro D c₈ t₈ ys S₈ e₈ l₈ hDO hlen hPB
    exact x_allTrue (hR.mono (by decide)) l₈ hPB fun c₉ t₉ e₉ => hQ c₉ t₉ (S₈.go (e₉ _ _)).F.ext
end
end Mine
end

section
open PySem PySem.W PySem.Calls PyProof.Rows
set_option Elab.async false
set_option maxRecDepth 100000
set_option linter.unusedSimpArgs false
set_option linter.unusedVariables false
namespace Mine
theorem regN6 : PySem.Challenge.rw_yd0003_04 = PySem.Challenge.rw_yd0003_04 ∧ hd.heap_1 = hd.heap_1 := by k_fill; exact ⟨rfl, rfl⟩
theorem EsAre.inj {es fs fs'} (h : EsAre es fs) (h' : EsAre es fs') : fs = fs' := by
  induction h generalizing fs' with
  | nil => cases h'; rfl
  | cons _ _ _ ih => cases h' with
    | cons _ _ x => rw [ih x]
theorem Dic.inj {h : Heap} {dx : Addr} {fs fs' : List (Str × Value)} (x : Dic h dx fs) (y : Dic h dx fs') : fs = fs' := by
  obtain ⟨es, n, e, r⟩ := x
  obtain ⟨es', n', e', r'⟩ := y
  rw [e] at e'
  have : dictOf es n = dictOf es' n' := Option.some.inj e'
  unfold dictOf at this
  simp at this
  obtain ⟨rfl, _⟩ := this
  exact r.inj r'
theorem Ints.inj {O O' h l n a b} (x : Ints O h l n a) (y : Ints O' h l n b) : ∀ k, k < n → a k = b k := fun k hk => by
  obtain ⟨vs, x1, x2, x3⟩ := x.get
  obtain ⟨ws, y1, y2, y3⟩ := y.get
  have e := lso_same x1.2 y1.2
  subst e
  obtain ⟨u, z⟩ := x3 k hk
  obtain ⟨u', z'⟩ := y3 k hk
  rw [z] at z'
  have q : a k = b k ∧ u = u' := by simpa using (Option.some.inj z' : Value.int (a k) u = .int (b k) u')
  exact q.1
structure RM (O : List Addr) (h : Heap) (r : Addr) (q : Int) (n H C : Nat) (p dx : Nat → Nat → Addr) (f : Mat) (done : Nat → Nat → Prop) : Prop where
  at' : ∀ i j, i < H → j < C → ∃ l a, InD O h (p i j) 220 (dx i j) (pf r l) ∧ Ints O h l n a ∧ (∀ k, k < n → (a k).fmod q = (f i j k).fmod q) ∧ (done i j → ∀ k, k < n → a k = (f i j k).fmod q)
theorem RM.kp {O h r q n H C p dx f done O' h'} {V : List Addr} (x : RM O h r q n H C p dx f done) (u : Up O h O' h') (hV : ∀ i j, i < H → j < C → dx i j ∈ V) (k : Kp V h h') : RM O' h' r q n H C p dx f done := ⟨fun i j hi hj => by
  obtain ⟨l, a, i1, i2, i3, i4⟩ := x.at' i j hi hj
  obtain ⟨es, m, e, r'⟩ := i1.dc
  exact ⟨l, a, ⟨i1.ob.up u, es, m, k _ (hV i j hi hj) _ e, r'⟩, i2.up u, i3, i4⟩⟩
theorem RM.mono {O h r q n H C p dx f done} {done' : Nat → Nat → Prop} (x : RM O h r q n H C p dx f done) (m : ∀ i j, i < H → j < C → done' i j → done i j) : RM O h r q n H C p dx f done' := ⟨fun i j hi hj => by
  obtain ⟨l, a, i1, i2, i3, i4⟩ := x.at' i j hi hj
  exact ⟨l, a, i1, i2, i3, fun z => i4 (m i j hi hj z)⟩⟩
theorem RM.step {O T : List Addr} {c c' : Cr} {r q n H C p dx f} {done : Nat → Nat → Prop} {i₀ j₀ : Nat} {l₀ l' : Addr} {a₀ : Nat → Int} (x : RM O c.h r q n H C p dx f done) (hi₀ : i₀ < H) (hj₀ : j₀ < C) (d0 : Dic c.h (dx i₀ j₀) (pf r l₀)) (v0 : Ints O c.h l₀ n a₀)
    (e : Ext T [dx i₀ j₀] c c') (tin : ∀ b ∈ T, b ∈ O) (win : dx i₀ j₀ ∈ O) (hT : ∀ i j, i < H → j < C → dx i j ∉ T) (d1 : Dic c'.h (dx i₀ j₀) (pf r l')) (v1 : Ints O c'.h l' n (fun k => (a₀ k).fmod q)) :
    RM O c'.h r q n H C p dx f (fun i j => done i j ∨ (i = i₀ ∧ j = j₀)) := ⟨fun i j hi hj => by
  obtain ⟨l, a, i1, i2, i3, i4⟩ := x.at' i j hi hj
  have u : Up O c.h O c'.h := e.up tin (by simpa using win)
  by_cases z : dx i j = dx i₀ j₀
  · have hd := i1.dc
    rw [z] at hd
    have : l = l₀ := by
      have := hd.inj d0
      simpa [pf] using this
    subst this
    have ea := i2.inj v0
    refine ⟨l', _, ⟨i1.ob.up u, z ▸ d1⟩, v1, fun k hk => ?_, fun _ k hk => ?_⟩
    · rw [Int.fmod_fmod, ← ea k hk]; exact i3 k hk
    · rw [← ea k hk]; exact i3 k hk
  · obtain ⟨es, m, e', r'⟩ := i1.dc
    refine ⟨l, a, ⟨i1.ob.up u, es, m, e.heap _ _ (hT i j hi hj) (by simpa using z) e', r'⟩, i2.up u, i3, fun w => ?_⟩
    rcases w with w | ⟨rfl, rfl⟩
    · exact i4 w
    · exact absurd rfl z⟩
end Mine
end

section
open PySem PySem.W PySem.Calls PyProof.Rows
set_option Elab.async false
set_option maxRecDepth 100000
set_option linter.unusedSimpArgs false
set_option linter.unusedVariables false
namespace Mine
theorem regN7 : PySem.Challenge.rw_yd0003_04 = PySem.Challenge.rw_yd0003_04 ∧ hd.heap_1 = hd.heap_1 := by k_fill; exact ⟨rfl, rfl⟩
theorem keep_101 (P : Params) : keepIn (KK P) (.ref 101) = true := by kernel_rfl
theorem meth_101 (P : Params) : methOk (KK P) 220 "reduce_coefficients" 101 = true := by kernel_rfl
noncomputable abbrev Rf (O : List Addr) (h : Heap) (l : Addr) (n : Nat) (g : Nat → Addr) : Prop := Ls O h l n (fun i v _ _ => v = .ref (g i))
theorem Rf.up {O h l n g O' h'} (x : Rf O h l n g) (u : Up O h O' h') : Rf O' h' l n g := Ls.up x (fun _ _ _ _ _ _ e _ => e) u
section
variable {prog : Program} {w : World} {A : Around} {E : Value → Shared → Prop} {c : Cr} {d : Drawn} {t : Nat} {os : OsState} {O O₂ : List Addr} {R : Result → Shared → Prop}
set_option maxHeartbeats 1000000 in
theorem mreduce_spec {m md r ld : Addr} {tr : Bool} {q : Int} {n H C : Nat} {f : Mat} {rows : Nat → Addr} {p dx : Nat → Nat → Addr} {V : List Addr} (hR : Rm 6 A) (G : Gd T0 V O c.h) (X : Wd w.params O c.h) (hr : IsRing O c.h r q n) (hm : Ins O c.h m 331 (mf md ld tr))
    (hld : Rf O c.h ld H rows) (hrow : ∀ i, i < H → Rf O c.h (rows i) C (p i)) (hRM : RM O c.h r q n H C p dx f (fun _ _ => False)) (hV : ∀ i j, i < H → j < C → dx i j ∈ V) (hq : q ≠ 0) (hn : n ≤ 1000)
    (hQ : ∀ c' t', Ext T0 V c c' → RM O c'.h r q n H C p dx f (fun _ _ => True) → R (.ok (.ret (.ref m))) ⟨c'.h, c'.g, d, t', os⟩) :
    codeAny (model prog w) A (.call (.ref 275) ⟨[.ref m], []⟩) R ⟨c.h, c.g, d, t, os⟩ := by
  have VO : ∀ b ∈ V, b ∈ O := fun b hb => (G.win b hb).1
  have VT : ∀ b ∈ V, b ∉ T0 := fun b hb => (G.win b hb).2
  refine fn_in (f := 275) [("self", .ref m)] hR.room G X (O₂ := O) ⟨fun _ h => h, G.low⟩ (kk_lookup (by k_is) rfl) (by kernel_rfl) (BindsTo.of_eq rfl) (by kernel_rfl) (by decide +kernel) rfl rfl rfl ?_
  intro env c₁ t₁ O' O₂' he S u u2 sub subO e
  have hR := hR.deeper (env := env)
  have hown : ∀ b ∈ V, b ∉ ownOf env := fun b hb z => (S.F.new b z).2.2 hb
  subst he
  have hr := hr.up u; have hm := hm.up u; have hld := hld.up u2; have hrow := fun i hi => (hrow i hi).up u2
  have hRM := hRM.kp (V := V) u2 hV fun b hb o eb => e.heap b o (VT b hb) (by simp) eb
  obtain ⟨vs, l1, l2, l3⟩ := hld
  have VO' : ∀ b ∈ V, b ∈ O' := fun b hb => subO b (VO b hb)
  have subs := S.B.sub
  refine wpAny_execs_cons (sx_for S V (fun i mm O h => mm "self" = some (.ref m) ∧ RM O h r q n H C p dx f (fun a b => a < i)) ?_)
  refine Attribute_any_ (x_name S.F.vars rfl (x_get S.X hm ?_ rfl (ok_own331d _)))
  refine ⟨c₁, _, vs.length, _, rfl, S, iter_list hR.1 l1.2 (fun z => l1.1 (S.B.sub _ (S.F.tin _ z))) (fun z => l1.1 (S.B.sub _ z)) (fun b hb => S.F.low b (S.F.tin b hb)), fun b hb => ⟨hown b hb, VO' b hb, VT b hb⟩, ?_, ⟨rfl, hRM.mono fun i j _ _ z => by omega⟩, ?_, ?_⟩
  · rintro i mm O h O' h' ⟨a, b⟩ u k
    exact ⟨a, b.kp u hV k⟩
  · rintro I i v c₂ mm t R' E' hI hIO hIe hi hP S₂ u₂ u₂2 ⟨hself, hM⟩ k
    have hiH : i < H := by omega
    have hv : v = .ref (rows i) := l3 i v hP
    subst hv
    have hrowi := (hrow i hiH).up u₂2
    obtain ⟨ws, w1, w2, w3⟩ := hrowi
    refine wpAny_execs_cons (sx_for S₂ V (fun j mm O h => mm "self" = some (.ref m) ∧ RM O h r q n H C p dx f (fun a b => a < i ∨ (a = i ∧ b < j))) ?_)
    refine x_name S₂.F.vars rfl ⟨c₂, _, ws.length, _, rfl, S₂, iter_list hR.1 w1.2 (fun z => w1.1 (S₂.B.sub _ (S₂.F.tin _ z))) (fun z => w1.1 (S₂.B.sub _ z)) (fun b hb => S₂.F.low b (S₂.F.tin b hb)), fun b hb => ⟨hown b hb, VO' b hb, VT b hb⟩, ?_, ⟨hself, hM.mono fun a b _ _ z => by omega⟩, ?_, ?_⟩
    · rintro i mm O h O' h' ⟨a, b⟩ u k
      exact ⟨a, b.kp u hV k⟩
    · rintro I' j v c₃ mm' t₃ R'' E'' hI' hI'O hI'e hj hP' S₃ u₃ u₃2 ⟨hself', hM'⟩ k'
      have hjC : j < C := by omega
      have hv : v = .ref (p i j) := w3 j v hP'
      subst hv
      obtain ⟨l, a, i1, i2, i3, i4⟩ := hM'.at' i j hiH hjC
      have less : Up (I' :: I :: O₂') c₃.h O' c₃.h := Up.less S₃.B.sub
      have i1' : InD O' c₃.h (p i j) 220 (dx i j) (pf r l) := ⟨i1.ob.up less, i1.dc⟩
      have hdV := hV i j hiH hjC
      have hr₃ := (hr.up u₂).up u₃
      refine wpAny_execs_cons (wpAny_Expr_any (MethodCall_ (x_name S₃.F.vars rfl (x_getM S₃.xT (i1'.ins (O' := T0) S₃.F.tin (VT _ hdV)) (cwK0 (keep_101 _) S₃.X.k (wpAny_call (polyreduce_spec (hR.mono (by decide)) ⟨S₃.F.tin, fun b hb => ?_, S₃.F.low, S₃.F.tab⟩ S₃.B S₃.X hr₃ i1' (i2.up less) hq hn fun c₄ t₄ l' e₄ hp' hl' => ?_))) rfl (meth_101 _)))))
      · rw [List.mem_singleton.mp hb]; exact ⟨VO' _ hdV, VT _ hdV⟩
      · refine wpAny_execs_nil (k' c₄ t₄ _ (S₃.go (e₄.wide fun b hb => ?_)) ?_ ⟨hself', ?_⟩)
        · rw [List.mem_singleton.mp hb]; exact hdV
        · exact e₄.up S₃.F.tin (by simpa using VO' _ hdV)
        · exact (hM'.step hiH hjC i1.dc i2 e₄ (fun b hb => S₃.B.sub b (S₃.F.tin b hb)) (S₃.B.sub _ (VO' _ hdV)) (fun i j hi hj => VT _ (hV i j hi hj)) hp'.dc hl').mono fun a b _ _ z => by omega
    · rintro c₄ t₄ mm' S₄ u₄ u₄2 ⟨hself', hM'⟩
      exact wpAny_execs_nil (k c₄ t₄ _ S₄ u₄ ⟨hself', hM'.mono fun a b _ hb z => by omega⟩)
  · rintro c₄ t₄ mm' S₄ u₄ u₄2 ⟨hself', hM'⟩
    refine wpAny_execs_cons (wpAny_Return_some (x_name S₄.F.vars hself' ?_))
    exact hQ c₄ _ S₄.F.ext ((hM'.mono fun a b ha _ _ => by omega).kp (V := V) (Up.less sub) hV fun _ _ _ e => e)
end
end Mine
end

section
open PySem PySem.W PySem.Calls PyProof.Rows
set_option Elab.async false
set_option maxRecDepth 100000
set_option linter.unusedSimpArgs false
set_option linter.unusedVariables false
namespace Mine
theorem regL5 : PySem.Challenge.rw_yd0003_04 = PySem.Challenge.rw_yd0003_04 ∧ hd.heap_1 = hd.heap_1 := by k_fill; exact ⟨rfl, rfl⟩
section
variable {prog : Program} {w : World} {A : Around} {E : Value → Shared → Prop} {c : Cr} {d : Drawn} {t : Nat} {os : OsState} {O O₂ : List Addr} {R : Result → Shared → Prop}
set_option maxHeartbeats 1000000 in
theorem holds_spec {m md r gl : Addr} {q : Int} {tq : Tok} {high wide n : Nat} {f g : Mat} (hR : Rm 8 A) (G : Gd T0 [] O c.h) (X : Wd w.params O c.h) (hm : IsMat O c.h m md r n high wide f) (hg : Grid O c.h gl high wide n g) (hq : q ≠ 0)
    (a1 : 1 ≤ high) (a2 : 1 ≤ wide) (a3 : high ≤ 1000) (a4 : wide ≤ 1000) (hn : n ≤ 1000) (heq : ∀ i j k, i < high → j < wide → k < n → f i j k = (g i j k).fmod q)
    (hQ : ∀ c' t', Ext T0 [] c c' → R (.ok (.ret (.bool true))) ⟨c'.h, c'.g, d, t', os⟩) :
    codeAny (model prog w) A (.call (.ref 401) ⟨[.ref m, .ref gl, .int q tq], []⟩) R ⟨c.h, c.g, d, t, os⟩ := by
  refine fn_in (f := 401) [("made", .ref m), ("grid", .ref gl), ("q", .int q tq)] hR.room G X (O₂ := O) ⟨fun _ h => h, G.low⟩ (kk_lookup (by k_is) rfl) (by kernel_rfl) (BindsTo.of_eq rfl) (by kernel_rfl) (by decide +kernel) rfl rfl rfl ?_
  intro env c₁ t₁ O' O₂' he S u u2 sub subO e
  have hR := hR.deeper (env := env)
  subst he
  have hm := hm.up u; have hg := hg.up u
  obtain ⟨ld, tr, im, _⟩ := id hm
  refine wpAny_execs_cons (wpAny_If (wpAny_isTrue_Compare1 (MethodCall_ (x_name S.F.vars rfl (x_getM S.X im (cwK0 (keep_246 _) S.X.k (wpAny_call (dim_spec (hR.mono (by decide)) S.gd0 S.B S.X hm a1 a2 a3 a4 fun c₂ t₂ tp1 u1 u2 e₂ ht1 => ?_))) rfl (meth_246 _))))))
  have uu := S.up e₂
  have S := S.go e₂
  have hm := hm.up uu; have hg := hg.up uu
  obtain ⟨vs, g1, g2, g3⟩ := id hg
  obtain ⟨vs0, lr0, z1, z2, z3, z4⟩ := hg.row (i := 0) (by omega)
  obtain ⟨ws0, y1, y2, _⟩ := id z4
  refine x_tuple (args_cons (Call_ (bi_name S.X (nb_len _) (bb_len _) (cwB1 (x_name S.F.vars rfl (x_len g1.2 (by omega) ?_))))))
  rw [g2]
  refine args_cons (Call_ (bi_name S.X (nb_len _) (bb_len _) (cwB1 (Subscript_ (x_name S.F.vars rfl (x_int (x_item z1.2 (by decide) (by decide) z3 (x_len y1.2 (by omega) ?_))))))))
  rw [y2]
  refine args_nil ⟨c₂, _, rfl, Nat.le_of_ble_eq_true rfl, fun c₃ tp2 e₃ htp hn' => ?_⟩
  have e₃ := e₃ T0 []
  have u3 := S.up e₃
  have ht1 := ht1.up (S.up2 e₃)
  have S₃ := S.go e₃
  refine x_neTup hR.units ht1.2 htp (x_truth ?_)
  refine ifFalse (by simp) (wpAny_execs_nil ?_)
  have hm := hm.up u3; have hg := hg.up u3
  have g1 := g1.up u3; have z1 := z1.up u3; have y1 := y1.up u3
  refine wpAny_execs_cons (sx_for S₃ [] (fun i mm O h => mm "made" = some (.ref m) ∧ mm "grid" = some (.ref gl) ∧ mm "q" = some (.int q tq)) ?_)
  refine Call_ (bi_name S₃.X (nb_range _) (bb_range _) (cwT1 (Call_ (bi_name S₃.X (nb_len _) (bb_len _) (cwB1 (x_name S₃.F.vars rfl (x_len g1.2 (by omega) ?_)))))))
  rw [g2]
  refine x_range1 (by omega) fun c₄ rg t₄ e₄ it => ?_
  have u4 := S₃.up (e₄ _ _)
  have S₄ := S₃.go (e₄ _ _)
  have hm := hm.up u4; have hg := hg.up u4
  refine ⟨c₄, t₄, high, _, rfl, S₄, it T0 _ _ hR.1 (fun b hb => S₄.F.low b (S₄.F.tin b hb)), by simp, fun _ _ _ _ _ _ x _ _ => x, ⟨rfl, rfl, rfl⟩, ?_, ?_⟩
  · rintro I i v c₅ mm t₅ R' E' hI hIO hIe hi ⟨ti, hv⟩ S₅ u₅ u₅2 ⟨n1, n2, n3⟩ k
    subst hv
    have hm := hm.up u₅; have hg := hg.up u₅
    obtain ⟨vs0, lr0, z1, z2, z3, z4⟩ := hg.row (i := 0) (by omega)
    obtain ⟨ws0, y1, y2, _⟩ := id z4
    refine wpAny_execs_cons (sx_for S₅ [] (fun j mm O h => mm "made" = some (.ref m) ∧ mm "grid" = some (.ref gl) ∧ mm "q" = some (.int q tq) ∧ mm "i" = some (.int (i : Nat) ti)) ?_)
    refine Call_ (bi_name S₅.X (nb_range _) (bb_range _) (cwT1 (Call_ (bi_name S₅.X (nb_len _) (bb_len _) (cwB1 (Subscript_ (x_name S₅.F.vars (by exact n2) (x_int (x_item z1.2 (by decide) (by decide) z3 (x_len y1.2 (by omega) ?_))))))))))
    rw [y2]
    refine x_range1 (by omega) fun c₆ rg t₆ e₆ it => ?_
    have u6 := S₅.up (e₆ _ _)
    have S₆ := S₅.go (e₆ _ _)
    have hm := hm.up u6; have hg := hg.up u6
    refine ⟨c₆, t₆, wide, _, rfl, S₆, it T0 _ _ hR.1 (fun b hb => S₆.F.low b (S₆.F.tin b hb)), by simp, fun _ _ _ _ _ _ x _ _ => x, ⟨n1, n2, n3, rfl⟩, ?_, ?_⟩
    · rintro I' j v c₇ mm' t₇ R'' E'' hI' hI'O hI'e hj ⟨tj, hv⟩ S₇ u₇ u₇2 ⟨m1, m2, m3, m4⟩ k'
      subst hv
      have hm := hm.up u₇; have hg := hg.up u₇
      refine wpAny_execs_cons (wpAny_If (wpAny_isTrue_Compare1 (Attribute_any_ (x_mitem (hR.mono (by decide)) S₇ hm (by exact m1) (by exact m4) rfl hi hj a3 a4 fun c₈ t₈ pp e₈ hp => ?_))))
      have S₈ := S₇.go e₈
      have u8 := S₇.up e₈
      have hg := hg.up u8
      obtain ⟨lc, ip, hc⟩ := hp
      refine x_get S₈.X ip ?_ rfl (ok_own220c _)
      refine sx_comp0 S₈ (fun k v _ _ => ∃ u, v = .int ((g i j k).fmod q) u) ?_
      obtain ⟨vs, lr, b1, b2, b3, b4⟩ := hg.row (i := i) hi
      obtain ⟨ws, p, x1, x2, x3, x4⟩ := Line.at b4 (j := j) hj
      obtain ⟨xs, w1, w2, w3⟩ := x4.get
      refine Subscript_ (Subscript_ (x_name S₈.F.vars (by exact m2) (x_name S₈.F.vars (by exact m4) (x_item b1.2 (by omega) (by omega) (by simpa using b3) (x_name S₈.F.vars rfl (x_item x1.2 (by omega) (by omega) (by simpa using x3) ?_))))))
      refine ⟨c₈, _, xs.length, _, rfl, S₈, iter_list hR.1 w1.2 (fun z => w1.1 (S₈.F.tin _ z)) (by simp) (fun b hb => S₈.F.low b (S₈.F.tin b hb)), by rw [sizeLine_eq]; omega, fun _ _ _ _ _ _ e _ => e, ?_, ?_⟩
      · rintro M a v nn L c₉ t Q' E' ha hP S₉ e₉ u₉ u₉2 kk
        obtain ⟨ui, zi⟩ := w3 a (by omega)
        have hP : v = .int (g i j a) ui := by rw [zi] at hP; exact (Option.some.inj hP).symm
        subst hP
        exact wpAny_BinOp (x_name S₉.F.vars rfl (x_name S₉.F.vars (by exact m3) (x_mod hq (kk c₉ _ _ (Ext.refl ..) ⟨_, rfl⟩))))
      · rintro D c₉ t₉ _ S₉ e₉ u₉ u₉2 hL
        rw [w2] at hL
        have hc := hc.up u₉
        refine x_neInts hR.units hc (Ints.up (O := I' :: I :: O₂') hL (Up.less S₉.B.sub)) ?_
        have hb : ((List.range n).all fun k => f i j k == (g i j k).fmod q) = true := by
          simp only [List.all_eq_true, List.mem_range, beq_iff_eq]
          exact fun k hk => heq i j k hi hj hk
        rw [hb]
        refine x_truth (ifFalse rfl (wpAny_execs_nil (wpAny_execs_nil ?_)))
        exact k' c₉ _ _ S₉ (u8.trans u₉) ⟨m1, m2, m3, m4⟩
    · rintro c₈ t₈ mm' S₈ u₈ u₈2 ⟨m1, m2, m3, m4⟩
      exact wpAny_execs_nil (k c₈ t₈ _ S₈ (u6.trans u₈) ⟨m1, m2, m3⟩)
  · rintro c₅ t₅ mm S₅ u₅ u₅2 _
    exact wpAny_execs_cons (wpAny_Return_some (x_bool (hQ c₅ _ S₅.F.ext)))
end
end Mine
end

section
open PySem PySem.W PySem.Calls PyProof.Rows
set_option Elab.async false
set_option maxRecDepth 100000
set_option linter.unusedSimpArgs false
set_option linter.unusedVariables false
namespace Mine
theorem regL6 : PySem.Challenge.rw_yd0003_04 = PySem.Challenge.rw_yd0003_04 ∧ hd.heap_1 = hd.heap_1 := by k_fill; exact ⟨rfl, rfl⟩
theorem Grows.snoc {El : Nat → Value → List Addr → Heap → Prop} {D : Addr} {i : Nat} {O O' : List Addr} {h h' : Heap} {vs : List Value} {v : Value} (up : UpC El) (g2 : vs.length = i) (g3 : ∀ k v, vs[k]? = some v → El k v O h) (u : Up O h O' h') (l : LsO h' D (vs ++ [v]).toArray) (hv : El i v O' h') : Grows El D (i + 1) O' h' := by
  refine ⟨vs ++ [v], l, by simp [g2], fun k y hkv => ?_⟩
  rcases Nat.lt_or_ge k vs.length with z | z
  · rw [List.getElem?_append_left z] at hkv
    exact up _ _ _ _ _ _ (g3 k y hkv) u
  · rw [List.getElem?_append_right z] at hkv
    have z0 : k - vs.length = 0 := by
      rcases Nat.eq_zero_or_pos (k - vs.length) with y | y
      · exact y
      · rw [List.getElem?_eq_none (by simp; omega)] at hkv; cases hkv
    rw [z0] at hkv
    simp at hkv
    subst hkv
    have : k = i := by omega
    subst this
    exact hv
theorem Grows.ext2 {El D i O O' T V} {c c' : Cr} (x : Grows El D i O c.h) (up : UpC El) (e : Ext T V c c') (u : Up O c.h O' c'.h) (h1 : D ∉ T) (h2 : D ∉ V) : Grows El D i O' c'.h := by
  obtain ⟨vs, a, b, r⟩ := x
  exact ⟨vs, list_ext a e h1 h2, b, fun j v q => up _ _ _ _ _ _ (r j v q) u⟩
theorem Sx.drop {P T W c₀ c c' O O₂ env m m'} {D : Addr} (S : Sx P T W c₀ c' (D :: O) (D :: O₂) env m') (S0 : Sx P T W c₀ c O O₂ env m) : Sx P T W c₀ c' O O₂ env m' :=
  ⟨⟨S.F.ext, S.F.vars, S0.F.own, S0.F.tin, S0.F.win, fun b hb => S.F.low b (.tail _ hb), S.F.new, S.F.tab⟩, S.X.up (Up.less fun b hb => .tail _ hb), ⟨S0.B.sub, fun b hb => S.B.low b (.tail _ hb)⟩⟩
noncomputable def GridEl (high wide n : Nat) (gr : Nat → Mat) (a : Nat) (v : Value) (O : List Addr) (h : Heap) : Prop := ∃ l, v = .ref l ∧ Grid O h l high wide n (gr a)
theorem gridEl_up {high wide n gr} : UpC (GridEl high wide n gr) := fun k v O h O' h' ⟨l, e, x⟩ u => ⟨l, e, x.up u⟩
noncomputable abbrev Grids (O : List Addr) (h : Heap) (gs : Addr) (high wide n : Nat) (gr : Nat → Mat) : Prop := Ls O h gs 3 (GridEl high wide n gr)
noncomputable def plainM (gr : Nat → Mat) (x : Int) : Mat := fun i j k => gr 0 i j k + x * gr 1 i j k + x * x * gr 2 i j k
section
variable {prog : Program} {w : World} {A : Around} {E : Value → Shared → Prop} {c : Cr} {d : Drawn} {t : Nat} {os : OsState} {O O₂ : List Addr} {R : Result → Shared → Prop}
theorem Grids.at {h : Heap} {gs : Addr} {high wide n : Nat} {gr : Nat → Mat} (x : Grids O h gs high wide n gr) {a : Nat} (ha : a < 3) : ∃ vs l, Lst O h gs vs ∧ vs.length = 3 ∧ vs[a]? = some (.ref l) ∧ Grid O h l high wide n (gr a) := by
  obtain ⟨vs, v, a, b, e, p, rfl, y⟩ := Ls.get x ha
  exact ⟨vs, p, a, b, e, y⟩
set_option maxHeartbeats 1000000 in
theorem plain_spec {gs : Addr} {x : Int} {tx : Tok} {high wide n : Nat} {gr : Nat → Mat} (hR : Rm 8 A) (G : Gd T0 [] O c.h) (B : Bg O O₂ c.h) (X : Wd w.params O c.h) (hg : Grids O c.h gs high wide n gr)
    (a1 : 1 ≤ high) (a2 : 1 ≤ wide) (a3 : high ≤ 1000) (a4 : wide ≤ 1000) (hn : n ≤ 1000) (hm1 : ∀ i j k, i < high → j < wide → k < n → IntMulOk x (gr 1 i j k) ∧ IntMulOk (x * x) (gr 2 i j k)) (hm2 : IntMulOk x x)
    (hQ : ∀ c' t' l, Ext T0 [] c c' → Grid O₂ c'.h l high wide n (plainM gr x) → R (.ok (.ret (.ref l))) ⟨c'.h, c'.g, d, t', os⟩) :
    codeAny (model prog w) A (.call (.ref 411) ⟨[.ref gs, .int x tx], []⟩) R ⟨c.h, c.g, d, t, os⟩ := by
  refine fn_in (f := 411) [("grids", .ref gs), ("x", .int x tx)] hR.room G X B (kk_lookup (by k_is) rfl) (by kernel_rfl) (BindsTo.of_eq rfl) (by kernel_rfl) (by decide +kernel) rfl rfl rfl ?_
  intro env c₁ t₁ O' O₂' he S u u2 sub subO e
  have hR := hR.deeper (env := env)
  subst he
  have hg := Ls.up hg gridEl_up u
  refine wpAny_execs_cons (wpAny_Assign_Name (x_list (args_nil ⟨c₁, _, rfl, Nat.zero_le _, fun c₅ D e₅ hD hDn => ?_⟩)))
  have e₅ := e₅ T0 []
  have hDO : D ∉ O₂' := S.B.off hDn
  have hDO1 : D ∉ O' := fun z => hDO (S.B.sub _ z)
  have hDT : D ∉ T0 := fun z => hDO1 (S.F.tin _ z)
  have hD0 := S.F.none hDn
  have S₅ := (S.go e₅).more S.X (S.up e₅) hDn (list_get hD)
  have u5 := (S.up e₅).consF hDn
  have hg := Ls.up hg gridEl_up u5
  refine sx_store S₅ fun c₆ t₆ ax hloc S₆ u6 u62 e₆ => ?_
  have hg := Ls.up hg gridEl_up u6
  have hDown : D ∉ ownOf _ := fun z => hDO1 (S.F.own _ z)
  have hD := list_ext hD e₆ hDT (by simp; rintro rfl; exact hDO1 (S.F.own _ hloc.own))
  have hv : ∀ b' ∈ [D], b' ∉ ownOf _ ∧ b' ∈ D :: O' ∧ b' ∉ T0 := fun b' hb => by
    rw [List.mem_singleton.mp hb]
    exact ⟨hDown, List.mem_cons_self .., hDT⟩
  refine wpAny_execs_cons (sx_for S₆ [D] (fun i mm O h => (mm "grids" = some (.ref gs) ∧ mm "x" = some (.int x tx) ∧ mm "table" = some (.ref D)) ∧ Grows (fun i v O h => LineEl n wide (plainM gr x i) v O h) D i O h) ?_)
  obtain ⟨vs, l0, g1, g2, g3, g4⟩ := Grids.at hg (a := 0) (by decide)
  obtain ⟨ws, y1, y2, y3⟩ := id g4
  refine Call_ (bi_name S₆.X (nb_range _) (bb_range _) (cwT1 (Call_ (bi_name S₆.X (nb_len _) (bb_len _) (cwB1 (Subscript_ (x_name S₆.F.vars rfl (x_int (x_item g1.2 (by decide) (by decide) g3 (x_len y1.2 (by omega) ?_))))))))))
  rw [y2]
  refine x_range1 (by omega) fun c₇ rg t₇ e₇ it => ?_
  have u7 := S₆.up (e₇ _ _)
  have S₇ := S₆.go (e₇ _ _)
  have hg := Ls.up hg gridEl_up u7
  refine ⟨c₇, t₇, high, _, rfl, S₇, it T0 _ _ hR.1 (fun b hb => S₇.F.low b (S₇.F.tin b hb)), hv, fun i mm O h O' h' ⟨a, b⟩ u k => ⟨a, b.up lineEl_up u k (by simp)⟩, ⟨⟨rfl, rfl, rfl⟩, ⟨[], list_ext hD (e₇ T0 []) hDT (by simp), rfl, by simp⟩⟩, ?_, ?_⟩
  · rintro I i v c mm t R' E' hI hIO hIe hi ⟨ti, hvi⟩ S u u2 ⟨⟨n1, n2, n3⟩, hG⟩ k
    subst hvi
    have hg := Ls.up hg gridEl_up u
    have hown1 : ∀ cc : Cr, True := fun _ => trivial
    refine wpAny_execs_cons (wpAny_Assign_Name (x_list (args_nil ⟨c, _, rfl, Nat.zero_le _, fun cb L eb hL hLn => ?_⟩)))
    have eb := eb T0 []
    have hLO : L ∉ I :: O₂' := fun z => S.B.off hLn (by
      rcases List.mem_cons.mp z with z | z
      · exact z ▸ List.mem_cons_self ..
      · exact .tail _ (.tail _ z))
    have hLB : L ∉ I :: D :: O₂' := S.B.off hLn
    have hLO1 : L ∉ D :: O' := fun z => hLB (S.B.sub _ z)
    have hLT : L ∉ T0 := fun z => hLO1 (S.F.tin _ z)
    have hL0 := S.F.none hLn
    have hLD : L ≠ D := fun z => hLO1 (z ▸ List.mem_cons_self ..)
    have Sb := (S.go eb).more S.X (S.up eb) hLn (list_get hL)
    have ub := (S.up eb).consF hLn
    have ub2 := (S.up2 eb).consF hLn
    have hg := Ls.up hg gridEl_up ub
    have hG := hG.ext2 lineEl_up eb ub2 hDT (by simp)
    refine sx_store Sb fun cd td ax hloc Sd ud ud2 ed => ?_
    have hg := Ls.up hg gridEl_up ud
    have hLown : L ∉ ownOf _ := fun z => hLO1 (S.F.own _ z)
    have hG := hG.ext2 lineEl_up ed ud2 hDT (by simp; rintro rfl; exact hDown hloc.own)
    have hL := list_ext hL ed hLT (by simp; rintro rfl; exact hLown hloc.own)
    have hv2 : ∀ b' ∈ [L, D], b' ∉ ownOf _ ∧ b' ∈ L :: D :: O' ∧ b' ∉ T0 := fun b' hb => by
      rcases List.mem_cons.mp hb with rfl | hb
      · exact ⟨hLown, List.mem_cons_self .., hLT⟩
      · rw [List.mem_singleton.mp hb]; exact ⟨hDown, by simp, hDT⟩
    refine wpAny_execs_cons (sx_for Sd [L, D] (fun j mm O h => (mm "grids" = some (.ref gs) ∧ mm "x" = some (.int x tx) ∧ mm "table" = some (.ref D) ∧ mm "line" = some (.ref L) ∧ mm "i" = some (.int (i : Nat) ti)) ∧ Grows (fun j v O h => CellEl n (plainM gr x i j) v O h) L j O h ∧ Grows (fun i v O h => LineEl n wide (plainM gr x i) v O h) D i O h) ?_)
    obtain ⟨vs, l0, g1, g2, g3, g4⟩ := Grids.at hg (a := 0) (by decide)
    obtain ⟨vs0, lr0, z1, z2, z3, z4⟩ := g4.row (i := 0) (by omega)
    obtain ⟨ws0, y1, y2, _⟩ := id z4
    refine Call_ (bi_name Sd.X (nb_range _) (bb_range _) (cwT1 (Call_ (bi_name Sd.X (nb_len _) (bb_len _) (cwB1 (Subscript_ (Subscript_ (x_name Sd.F.vars (by exact n1) (x_int (x_item g1.2 (by decide) (by decide) g3 (x_int (x_item z1.2 (by decide) (by decide) z3 (x_len y1.2 (by omega) ?_)))))))))))))
    rw [y2]
    refine x_range1 (by omega) fun cf rg tf ef it => ?_
    have uf := Sd.up (ef _ _)
    have Sf := Sd.go (ef _ _)
    have hg := Ls.up hg gridEl_up uf
    have hG := hG.ext2 lineEl_up (ef T0 []) (Sd.up2 (ef _ _)) hDT (by simp)
    have hL := list_ext hL (ef T0 []) hLT (by simp)
    refine ⟨cf, tf, wide, _, rfl, Sf, it T0 _ _ hR.1 (fun b hb => Sf.F.low b (Sf.F.tin b hb)), hv2, fun i mm O h O' h' ⟨a, b, b'⟩ u k => ⟨a, b.up cellEl_up u k (by simp), b'.up lineEl_up u k (by simp)⟩, ⟨⟨n1, n2, n3, rfl, rfl⟩, ⟨[], hL, rfl, by simp⟩, hG⟩, ?_, ?_⟩
    · rintro I' j v cg mm' tg R'' E'' hI' hI'O hI'e hj ⟨tj, hvj⟩ Sg ug ug2 ⟨⟨m1, m2, m3, m4, m5⟩, hGL, hGD⟩ k'
      subst hvj
      have hg := Ls.up hg gridEl_up ug
      refine wpAny_execs_cons (wpAny_Assign_Name (sx_comp0 Sg (fun a v _ _ => ∃ pp, v = .ref pp ∧ Ints (L :: D :: O') cg.h pp n (gr a i j)) ?_))
      obtain ⟨gvs, p1, p2, p3⟩ := id hg
      refine x_name Sg.F.vars (by exact m1) ⟨cg, _, gvs.length, _, rfl, Sg, iter_list hR.1 p1.2 (fun z => p1.1 (Sg.F.tin _ z)) (by simp) (fun b hb => Sg.F.low b (Sg.F.tin b hb)), by rw [sizeLine_eq]; omega, fun _ _ _ _ _ _ e _ => e, ?_, ?_⟩
      · rintro M a v nn L2 ch th Q' E' ha hP Sh eh uh uh2 kk
        obtain ⟨lg, rfl, hgr⟩ := p3 a v hP
        obtain ⟨vs, lr, b1, b2, b3, b4⟩ := hgr.row (i := i) hi
        obtain ⟨ws, pp, x1, x2, x3, x4⟩ := Line.at b4 (j := j) hj
        have b1 := b1.up uh; have x1 := x1.up uh
        refine Subscript_ (Subscript_ (x_name Sh.F.vars rfl (x_name Sh.F.vars (by exact m5) (x_item b1.2 (by omega) (by omega) (by simpa using b3) (x_name Sh.F.vars rfl (x_item x1.2 (by omega) (by omega) (by simpa using x3) ?_))))))
        exact kk ch _ _ (Ext.refl ..) ⟨pp, rfl, x4⟩
      · rintro RD ch th hRn Sh eh uh uh2 hRows
        rw [p2] at hRows
        refine sx_store Sh fun ci ti2 ay hloc2 Si ui ui2 ei => ?_
        have hRows := (Ls.up hRows (fun _ _ _ _ _ _ e _ => e) ui2)
        have cell : ∀ a, a < 3 → ∃ rvs pp, LsO ci.h RD (List.toArray rvs) ∧ rvs[a]? = some (.ref pp) ∧ Ints (L :: D :: O') ci.h pp n (gr a i j) := fun a ha => by
          obtain ⟨rvs, v, r1, r2, r3, pp, rfl, r4⟩ := Ls.get hRows ha
          exact ⟨rvs, pp, r1.2, r3, r4.up (uh.trans ui)⟩
        have RDT : RD ∉ T0 := fun z => by
          obtain ⟨o, q⟩ := Sg.F.low _ (Sg.F.tin _ z)
          rw [hRn] at q; cases q
        have hayO := Sg.F.own _ hloc2.own
        have ayL : L ≠ ay := fun z => hLown (z ▸ hloc2.own)
        have ayD : D ≠ ay := fun z => hDown (z ▸ hloc2.own)
        have uu2i := uh2.trans ui2
        have hGL := (hGL.ext2 cellEl_up eh uh2 hLT (by simp)).ext2 cellEl_up ei ui2 hLT (by simpa using ayL)
        have hGD := (hGD.ext2 lineEl_up eh uh2 hDT (by simp)).ext2 lineEl_up ei ui2 hDT (by simpa using ayD)
        obtain ⟨lvs, q1, q2, q3⟩ := hGL
        obtain ⟨rv0, pp0, r1, r2, r3⟩ := cell 0 (by decide)
        obtain ⟨xs0, w1, w2, w3⟩ := r3.get
        refine wpAny_execs_cons (wpAny_Expr_any (MethodCall_ (x_name Si.F.vars (by exact m4) (x_appendM ⟨lvs, q1⟩ (sx_comp0 Si (fun k v _ _ => ∃ u, v = .int (plainM gr x i j k) u) ?_)))))
        refine Call_ (bi_name Si.X (nb_range _) (bb_range _) (cwT1 (Call_ (bi_name Si.X (nb_len _) (bb_len _) (cwB1 (Subscript_ (x_name Si.F.vars rfl (x_int (x_item r1 (by decide) (by decide) r2 (x_len w1.2 (by omega) ?_))))))))))
        rw [w2]
        refine x_range1 (by omega) fun cj rg tj ej it => ?_
        have uj := Si.up (ej _ _)
        have Sj := Si.go (ej _ _)
        refine ⟨cj, tj, n, _, rfl, Sj, it T0 [] _ hR.1 (fun b hb => Sj.F.low b (Sj.F.tin b hb)), by rw [sizeLine_eq]; omega, fun _ _ _ _ _ _ e _ => e, ?_, ?_⟩
        · rintro M k v nn L2 ck tk Q' E' hk ⟨tv, hv⟩ Sk ek uk uk2 kk
          subst hv
          have at3 : ∀ a, a < 3 → ∃ rvs pp xs u, LsO ck.h RD (List.toArray rvs) ∧ rvs[a]? = some (.ref pp) ∧ LsO ck.h pp (List.toArray xs) ∧ xs[k]? = some (.int (gr a i j k) u) := fun a ha => by
            obtain ⟨rvs, pp, c1, c2, c3⟩ := cell a ha
            obtain ⟨xs, w1, w2, w3⟩ := ((c3.up uj).up uk).get
            obtain ⟨u, z⟩ := w3 k hk
            exact ⟨rvs, pp, xs, u, list_ext (list_ext c1 (ej T0 []) RDT (by simp)) ek RDT (by simp), c2, w1.2, z⟩
          obtain ⟨A0, P0, X0, U0, b00, b01, b02, b03⟩ := at3 0 (by decide)
          obtain ⟨A1, P1, X1, U1, b10, b11, b12, b13⟩ := at3 1 (by decide)
          obtain ⟨A2, P2, X2, U2, b20, b21, b22, b23⟩ := at3 2 (by decide)
          obtain ⟨hm11, hm12⟩ := hm1 i j k hi hj hk
          refine wpAny_BinOp (wpAny_BinOp (Subscript_ (Subscript_ (x_name Sk.F.vars rfl (x_int (x_item b00 (by decide) (by decide) b01 (x_name Sk.F.vars rfl (x_item b02 (by omega) (by omega) (by simpa using b03) ?_))))))))
          refine wpAny_BinOp (x_name Sk.F.vars (by exact m2) (Subscript_ (Subscript_ (x_name Sk.F.vars rfl (x_int (x_item b10 (by decide) (by decide) b11 (x_name Sk.F.vars rfl (x_item b12 (by omega) (by omega) (by simpa using b13) (x_mul hm11 (x_add ?_))))))))))
          refine wpAny_BinOp (wpAny_BinOp (x_name Sk.F.vars (by exact m2) (x_name Sk.F.vars (by exact m2) (x_mul hm2 ?_))))
          refine Subscript_ (Subscript_ (x_name Sk.F.vars rfl (x_int (x_item b20 (by decide) (by decide) b21 (x_name Sk.F.vars rfl (x_item b22 (by omega) (by omega) (by simpa using b23) (x_mul hm12 (x_add ?_))))))))
          exact kk ck _ _ (Ext.refl ..) ⟨_, rfl⟩
        · rintro D2 ck tk _ Sk ek uk uk2 hD2
          have q1k := list_ext (list_ext q1 (ej T0 []) hLT (by simp)) ek hLT (by simp)
          refine ⟨ck, tk, lvs, T0, [L], rfl, q1k, hLT, by simp, by rw [sizeLine_eq]; omega, fun cl hLl el sb => ?_⟩
          have SL := Sk.goL el fun b hb => by rw [List.mem_singleton.mp hb]; exact ⟨.inl hL0, hLown, List.mem_cons_self ..⟩
          have uu := ((uh.trans ui).trans (uj.trans uk)).trans SL.2.1
          have uu2 := ((Si.up2 (ej _ _)).trans uk2).trans SL.2.2
          have hGD := ((hGD.ext2 lineEl_up (ej T0 []) (Si.up2 (ej _ _)) hDT (by simp)).ext2 lineEl_up ek uk2 hDT (by simp)).ext2 lineEl_up el SL.2.2 hDT (by simpa using Ne.symm hLD)
          exact wpAny_execs_nil (k' cl _ _ SL.1 uu ⟨⟨m1, m2, m3, m4, m5⟩, Grows.snoc (cellEl_up (f := fun j => plainM gr x i j)) q2 q3 uu2 hLl ⟨D2, rfl, Ints.up hD2 SL.2.2⟩, hGD⟩)
    · rintro cg tg mm' Sg ug ug2 ⟨⟨m1, m2, m3, m4, m5⟩, hGL, hGD⟩
      obtain ⟨dvs, q1, q2, q3⟩ := hGD
      obtain ⟨lvs, r1, r2, r3⟩ := hGL
      refine wpAny_execs_cons (wpAny_Expr_any (MethodCall_ (x_name Sg.F.vars (by exact m3) (x_appendM ⟨dvs, q1⟩ (x_name Sg.F.vars (by exact m4) ⟨cg, _, dvs, T0, [D], rfl, q1, hDT, by simp, by rw [sizeLine_eq]; omega, fun ck hDk ek sb => ?_⟩)))))
      have SL := Sg.goL ek fun b hb => by rw [List.mem_singleton.mp hb]; exact ⟨.inl hD0, hDown, by simp⟩
      have less : Up (L :: I :: D :: O₂') ck.h (I :: D :: O₂') ck.h := Up.less fun b hb => .tail _ hb
      have less1 : Up (L :: D :: O') ck.h (D :: O') ck.h := Up.less fun b hb => .tail _ hb
      have uu := ((((ub.trans ud).trans uf).trans ug).trans SL.2.1).trans less1
      have uu2 := SL.2.2.trans less
      exact wpAny_execs_nil (k ck _ _ (SL.1.drop S) uu ⟨⟨m1, m2, m3⟩, Grows.snoc (lineEl_up (f := plainM gr x)) q2 q3 uu2 hDk ⟨L, rfl, lvs, ⟨hLB, list_ext r1 ek hLT (by simpa using hLD)⟩, r2, fun j v e => cellEl_up (f := fun j => plainM gr x i j) _ _ _ _ _ _ (r3 j v e) uu2⟩⟩)
  · rintro c₈ t₈ mm S₈ u8 u82 ⟨⟨n1, n2, n3⟩, hG⟩
    obtain ⟨vs, g1, g2, g3⟩ := hG
    refine wpAny_execs_cons (wpAny_Return_some (x_name S₈.F.vars n3 ?_))
    exact hQ c₈ _ D S₈.F.ext ⟨vs, ⟨fun z => hDO (sub _ z), g1⟩, g2, fun k v e => lineEl_up _ _ _ _ _ _ (g3 k v e) (Up.less fun b hb => .tail _ (sub b hb))⟩
end
end Mine
end

section
open PySem PySem.W PySem.Calls PyProof.Rows
set_option Elab.async false
set_option maxRecDepth 100000
set_option linter.unusedSimpArgs false
set_option linter.unusedVariables false
namespace Mine
theorem regQ1 : PySem.Challenge.rw_yd0003_04 = PySem.Challenge.rw_yd0003_04 ∧ hd.heap_1 = hd.heap_1 := by k_fill; exact ⟨rfl, rfl⟩
theorem ok_set375r' (P : Params) : setOk (KK P) 375 "ring" = true := by kernel_rfl
section
variable {prog : Program} {w : World} {A : Around} {E : Value → Shared → Prop} {c : Cr} {d : Drawn} {t : Nat} {os : OsState} {O O₂ : List Addr} {R : Result → Shared → Prop}
theorem ringinit_spec {p dx : Addr} {q n : Int} {tq tn : Tok} (hR : Rm 2 A) (G : Gd T0 [dx] O c.h) (X : Wd w.params O c.h) (hp : InD O c.h p 59 dx [])
    (hQ : ∀ c' t', Ext T0 [dx] c c' → InD O c'.h p 59 dx [("q", .int q tq), ("n", .int n tn)] → R (.ok (.ret .none)) ⟨c'.h, c'.g, d, t', os⟩) :
    codeAny (model prog w) A (.call (.ref 35) ⟨[.ref p, .int q tq, .int n tn], []⟩) R ⟨c.h, c.g, d, t, os⟩ := by
  have hdT := (G.win dx (by simp)).2
  have hdO := (G.win dx (by simp)).1
  have hpx : p ≠ dx := fun z => hp.ob.1 (z ▸ hdO)
  refine fn_in (f := 35) [("self", .ref p), ("q", .int q tq), ("n", .int n tn)] hR.room G X (O₂ := O) ⟨fun _ h => h, G.low⟩ (kk_lookup (by k_is) rfl) (by kernel_rfl) (BindsTo.of_eq rfl) (by kernel_rfl) (by decide +kernel) rfl rfl rfl ?_
  intro env c₁ t₁ O' O₂' he S u u2 sub subO e
  subst he
  have hp := hp.go u e hdT (by simp)
  refine wpAny_execs_cons (plainObj_wpAny_Assign_Attribute (x_name S.F.vars rfl (x_name S.F.vars rfl (x_set (W := [dx]) S.X.k hp hdT (by simp) (by decide) hpx (fun c₂ t₂ hp sb e₂ _ => ?_) (ok_set59q _)))))
  have S₂ := S.go e₂
  refine wpAny_execs_cons (plainObj_wpAny_Assign_Attribute (x_name S₂.F.vars rfl (x_name S₂.F.vars rfl (x_set (W := [dx]) S₂.X.k hp hdT (by simp) (Nat.le_of_ble_eq_true rfl) hpx (fun c₃ t₃ hp sb e₃ _ => ?_) (ok_set59n _)))))
  have S₃ := S₂.go e₃
  exact wpAny_execs_nil (hQ c₃ _ S₃.F.ext ⟨⟨fun z => hp.ob.1 (subO _ z), hp.ob.2⟩, hp.dc⟩)
theorem modinit_spec {p dx r : Addr} (hR : Rm 2 A) (G : Gd T0 [dx] O c.h) (X : Wd w.params O c.h) (hp : InD O c.h p 375 dx [])
    (hQ : ∀ c' t', Ext T0 [dx] c c' → InD O c'.h p 375 dx [("ring", .ref r)] → R (.ok (.ret .none)) ⟨c'.h, c'.g, d, t', os⟩) :
    codeAny (model prog w) A (.call (.ref 349) ⟨[.ref p, .ref r], []⟩) R ⟨c.h, c.g, d, t, os⟩ := by
  have hdT := (G.win dx (by simp)).2
  have hdO := (G.win dx (by simp)).1
  have hpx : p ≠ dx := fun z => hp.ob.1 (z ▸ hdO)
  refine fn_in (f := 349) [("self", .ref p), ("ring", .ref r)] hR.room G X (O₂ := O) ⟨fun _ h => h, G.low⟩ (kk_lookup (by k_is) rfl) (by kernel_rfl) (BindsTo.of_eq rfl) (by kernel_rfl) (by decide +kernel) rfl rfl rfl ?_
  intro env c₁ t₁ O' O₂' he S u u2 sub subO e
  subst he
  have hp := hp.go u e hdT (by simp)
  refine wpAny_execs_cons (plainObj_wpAny_Assign_Attribute (x_name S.F.vars rfl (x_name S.F.vars rfl (x_set (W := [dx]) S.X.k hp hdT (by simp) (by decide) hpx (fun c₂ t₂ hp sb e₂ _ => ?_) (ok_set375r' _)))))
  have S₂ := S.go e₂
  exact wpAny_execs_nil (hQ c₂ _ S₂.F.ext ⟨⟨fun z => hp.ob.1 (subO _ z), hp.ob.2⟩, hp.dc⟩)
theorem mkring_spec {q n : Int} {tq tn : Tok} (hR : Rm 4 A) (G : Gd T0 [] O c.h) (B : Bg O O₂ c.h) (X : Wd w.params O c.h)
    (hQ : ∀ c' t' p, Ext T0 [] c c' → IsRing O₂ c'.h p q n → R (.ok (.ret (.ref p))) ⟨c'.h, c'.g, d, t', os⟩) :
    codeAny (model prog w) A (.call (.ref 59) ⟨[.int q tq, .int n tn], []⟩) R ⟨c.h, c.g, d, t, os⟩ := by
  refine x_make X.k (ok_mk59 _) fun c₁ p dx e₁ hpn hdn hpd hI _ => ?_
  have tO : ∀ b ∈ T0, b ∈ O := G.tin
  have hdT : dx ∉ T0 := fun z => G.fresh hdn (tO dx z)
  have u : Up O c.h (dx :: O) c₁.h := fun b o z => ⟨fun y => (by
    rcases List.mem_cons.mp y with rfl | y
    · have := z.2; rw [hdn] at this; cases this
    · exact z.1 y), (e₁ T0 []).heap b o (fun y => z.1 (tO b y)) (by simp) z.2⟩
  have hI' := hI (dx :: O) (fun z => (by
    rcases List.mem_cons.mp z with z | z
    · exact hpd z
    · exact G.fresh hpn z))
  obtain ⟨es, nn, hdc, _⟩ := hI'.dc
  have G₁ : Gd T0 [dx] (dx :: O) c₁.h := ⟨fun b hb => .tail _ (tO b hb), fun b hb => by rw [List.mem_singleton.mp hb]; exact ⟨List.mem_cons_self .., hdT⟩, fun b hb => by
    rcases List.mem_cons.mp hb with rfl | hb
    · exact ⟨_, hdc⟩
    · obtain ⟨o, z⟩ := G.low b hb; exact (e₁ T0 []).there b o z, (e₁ T0 []).tab G.tab⟩
  refine ringinit_spec (hR.make.mono (by decide)) G₁ (X.up u) hI' fun c₂ t₂ e₂ hp => ?_
  exact ⟨rfl, hQ c₂ t₂ p ((e₁ T0 []).absorb e₂ fun b hb => .inl (by rw [List.mem_singleton.mp hb]; exact hdn)) (⟨tq, tn, ⟨dx, B.off hdn, ⟨B.off hpn, hp.ob.2⟩, hp.dc⟩⟩)⟩
theorem mkmod_spec {r : Addr} (hR : Rm 4 A) (G : Gd T0 [] O c.h) (B : Bg O O₂ c.h) (X : Wd w.params O c.h)
    (hQ : ∀ c' t' p, Ext T0 [] c c' → IsMod O₂ c'.h p r → R (.ok (.ret (.ref p))) ⟨c'.h, c'.g, d, t', os⟩) :
    codeAny (model prog w) A (.call (.ref 375) ⟨[.ref r], []⟩) R ⟨c.h, c.g, d, t, os⟩ := by
  refine x_make X.k (ok_mk375 _) fun c₁ p dx e₁ hpn hdn hpd hI _ => ?_
  have tO : ∀ b ∈ T0, b ∈ O := G.tin
  have hdT : dx ∉ T0 := fun z => G.fresh hdn (tO dx z)
  have u : Up O c.h (dx :: O) c₁.h := fun b o z => ⟨fun y => (by
    rcases List.mem_cons.mp y with rfl | y
    · have := z.2; rw [hdn] at this; cases this
    · exact z.1 y), (e₁ T0 []).heap b o (fun y => z.1 (tO b y)) (by simp) z.2⟩
  have hI' := hI (dx :: O) (fun z => (by
    rcases List.mem_cons.mp z with z | z
    · exact hpd z
    · exact G.fresh hpn z))
  obtain ⟨es, nn, hdc, _⟩ := hI'.dc
  have G₁ : Gd T0 [dx] (dx :: O) c₁.h := ⟨fun b hb => .tail _ (tO b hb), fun b hb => by rw [List.mem_singleton.mp hb]; exact ⟨List.mem_cons_self .., hdT⟩, fun b hb => by
    rcases List.mem_cons.mp hb with rfl | hb
    · exact ⟨_, hdc⟩
    · obtain ⟨o, z⟩ := G.low b hb; exact (e₁ T0 []).there b o z, (e₁ T0 []).tab G.tab⟩
  refine modinit_spec (hR.make.mono (by decide)) G₁ (X.up u) hI' fun c₂ t₂ e₂ hp => ?_
  exact ⟨rfl, hQ c₂ t₂ p ((e₁ T0 []).absorb e₂ fun b hb => .inl (by rw [List.mem_singleton.mp hb]; exact hdn)) (⟨dx, B.off hdn, ⟨B.off hpn, hp.ob.2⟩, hp.dc⟩)⟩
end
end Mine
end

section
open PySem PySem.W PySem.Calls PyProof.Rows
set_option Elab.async false
set_option maxRecDepth 100000
set_option linter.unusedSimpArgs false
set_option linter.unusedVariables false
namespace Mine
section
variable {prog : Program} {w : World} {A : Around} {E : Value → Shared → Prop} {hp : Heap} {c : Cr} {g : Array GenState} {d : Drawn} {t : Nat} {os : OsState} {O O₂ : List Addr} {R : Result → Shared → Prop} {x C : Addr} {fs : List (Str × Value)}
noncomputable def inplOk (K : Frag) (C : Addr) (n : Str) (f : Addr) : Bool := selfFirst K C && findIn K (.ref C) n == some (some (.ref f)) && isFn K (.ref f)
theorem x_inpl {op : Operator} {b : Value} {f : Addr} {Q : Value → Shared → Prop} (X : Wd w.params O hp) (I : Ins O hp x C fs) (hk : inplOk (K1 w.params) C (dunderI op.info.2) f = true)
    (h : wpAny (model prog w) A (call (.ref f) [.ref x, b]) (PySem.W.CmpBack Q) E ⟨hp, g, d, t, os⟩) : wpAny (model prog w) A (inplaceOp op (.ref x) b) Q E ⟨hp, g, d, t, os⟩ := by
  obtain ⟨m, F, X₀⟩ := frK X
  obtain ⟨dx, es, n, I', r⟩ := I.at
  unfold inplOk at hk
  simp only [Bool.and_eq_true, beq_iff_eq] at hk
  exact ksp_inplace (s := ⟨hp, g, d, t, os⟩) F X₀ I' hk.1.1 hk.1.2 hk.2 h
theorem ok_isub331 (P : Params) : inplOk (K1 P) 331 "__isub__" 316 = true := by kernel_rfl
theorem ok_iadd331 (P : Params) : inplOk (K1 P) 331 "__iadd__" 304 = true := by kernel_rfl
theorem draw_walks {I : Addr} {fp wr : List Addr} {n : Nat} {P : Nat → Value → Prop} {St : Nat → Heap → Prop} (Wk : Walks prog w A I fp wr n P St) : ∀ (k i : Nat) (s : Shared) (Q : List Value → Shared → Prop), St i s.heap → i + k ≤ n →
    (∀ vs h' tk, vs.length = k → (∀ j v, vs[j]? = some v → P (i + j) v) → St (i + k) h' → (∀ b o, b ∉ wr → s.heap.get? b = some o → h'.get? b = some o) → Q vs { s with heap := h', toks := tk }) → wpAny (model prog w) A (draw (.ref I) k) Q E s
  | 0, i, s, Q, st, _, hQ => by
    show wpAny _ _ (pure []) Q E s
    exact wpAny_pure (hQ [] s.heap s.toks rfl (by simp) st fun _ _ _ e => e)
  | k + 1, i, s, Q, st, hle, hQ => by
    show wpAny _ _ (pyNext (.ref I) >>= _) Q E s
    refine wpAny_bind (Wk.item i s _ _ (by omega) st fun v h' tk hP st' hk => ?_)
    refine wpAny_bind (wpAny_holding (draw_walks Wk k (i + 1) _ _ st' (by omega) fun vs h'' tk' hl hv st'' hk' => wpAny_pure ?_))
    refine hQ (v :: vs) h'' tk' (by simp [hl]) (fun j y e => ?_) (by rw [show i + (k + 1) = i + 1 + k by omega]; exact st'') fun b o hb e => hk' b o hb (hk b o hb e)
    cases j with
    | zero => simp at e; subst e; exact hP
    | succ j => rw [show i + (j + 1) = i + 1 + j by omega]; exact hv j y (by simpa using e)
theorem unpack_list {l : Addr} {vs : List Value} {Q : List Value → Shared → Prop} (hh : A.handled = none) (hl : LsO c.h l vs.toArray)
    (hQ : ∀ c' t', (∀ T W, Ext T W c c') → Q vs ⟨c'.h, c'.g, d, t', os⟩) : wpAny (model prog w) A (unpackItems (.ref l) vs.length none) Q E ⟨c.h, c.g, d, t, os⟩ := by
  have hi : IterIn prog w A [] [] d os (.ref l) c vs.length (fun i v => vs[i]? = some v) := iter_list hh hl (by simp) (by simp) (by simp)
  unfold unpackItems
  refine wpAny_bind ?_
  unfold notIterableAtAll
  refine wpAny_bind (wpAny_specialOf (PySem.Heap.IsList.typeIs hl.isL) F.slot_list_iter.lookup ?_)
  refine wpAny_pure ?_
  simp only [Bool.false_eq_true, if_false]
  refine wpAny_bind (wpAny_holding (hi _ _ _ fun c₂ I fp St e₂ hI hIT Wk hIo st₀ hfp hg => ?_))
  refine wpAny_bind (wpAny_holding (draw_walks Wk vs.length 0 _ _ st₀ (by omega) fun ws h' tk hl' hv st' hk => ?_))
  have ew : ws = vs := List.ext_getElem? fun j => by
    cases q : ws[j]? with
    | none => rw [List.getElem?_eq_none_iff] at q; rw [List.getElem?_eq_none]; omega
    | some y => have := hv j y q; simp at this; rw [this]
  subst ew
  rw [if_neg (by simp)]
  refine wpAny_bind (wpAny_holding (Wk.done _ _ _ (by simpa using st') fun h'' tk' hk' => ?_))
  simp only [Option.isSome_none, Bool.false_eq_true, if_false]
  refine wpAny_pure ?_
  have z : Ext [] [] c ⟨h'', c₂.g⟩ := e₂.lose (fun b o hb e => hk' b o hb (hk b o hb e)) fun b hb => by rw [List.mem_singleton.mp hb]; exact ⟨hI, by simp⟩
  exact hQ ⟨h'', c₂.g⟩ tk' fun T W => ⟨fun b o _ _ e => z.heap b o (by simp) (by simp) e, z.there, fun q P hP => let ⟨vs, e, r⟩ := q P hP; ⟨vs, z.heap P _ (by simp) (by simp) e, r⟩, z.gens⟩
end
end Mine
end

section
open PySem PySem.W PySem.Calls PyProof.Rows
set_option Elab.async false
set_option maxRecDepth 100000
set_option linter.unusedSimpArgs false
set_option linter.unusedVariables false
namespace Mine
section
variable {prog : Program} {w : World} {A : Around} {E : Value → Shared → Prop} {c c₀ : Cr} {d : Drawn} {t : Nat} {os : OsState} {O O₂ T W : List Addr} {env : Env} {m : Str → Option Value}
theorem sx_unpackL3 {x y z : Str} {px py pz tpos : Pos} {kk} {l : Addr} {v1 v2 v3 : Value} {Q : Unit → Shared → Prop} (S : Sx w.params T W c₀ c O O₂ env m) (hh : A.handled = none) (hl : LsO c.h l (List.toArray [v1, v2, v3]))
    (h : ∀ c' t', Sx w.params T W c₀ c' O O₂ env (upd (upd (upd m x v1) y v2) z v3) → Up O c.h O c'.h → Up O₂ c.h O₂ c'.h → Q () ⟨c'.h, c'.g, d, t', os⟩) (hx : isVar env x = true := by rfl) (hxf : (env.kindOf x == some .free) = false := by rfl) (hy : isVar env y = true := by rfl) (hyf : (env.kindOf y == some .free) = false := by rfl) (hz : isVar env z = true := by rfl) (hzf : (env.kindOf z == some .free) = false := by rfl) :
    wpAny (model prog w) A (assign (.Tuple [.Name x px, .Name y py, .Name z pz] kk tpos) env (.ref l)) Q E ⟨c.h, c.g, d, t, os⟩ := by
  rw [arm_assign_Tuple]
  refine wpAny_bind (wpAny_standAt ?_)
  unfold unpack
  refine wpAny_bind (wpAny_holding (unpack_list (vs := [v1, v2, v3]) hh hl fun c₁ t₁ e₁ => ?_))
  have e1 := e₁ T []
  have S₁ := S.go e1.nil
  show wpAny _ _ (assignInOrder [assign (.Name x px) env, assign (.Name y py) env, assign (.Name z pz) env] [v1, v2, v3]) _ _ _
  refine assignInOrder_cons (wpAny_assign_Name (sx_store S₁ (fun c₂ t₂ _ _ S₂ u u2 _ => ?_) hx hxf))
  refine assignInOrder_cons (wpAny_assign_Name (sx_store S₂ (fun c₃ t₃ _ _ S₃ u' u2' _ => ?_) hy hyf))
  refine assignInOrder_cons (wpAny_assign_Name (sx_store S₃ (fun c₄ t₄ _ _ S₄ u'' u2'' _ => ?_) hz hzf))
  exact assignInOrder_nil (h c₄ t₄ S₄ ((((S.up e1.nil).trans u).trans u').trans u'') ((((S.up2 e1.nil).trans u2).trans u2').trans u2''))
end
end Mine
end

section
open PySem PySem.W PySem.Calls PyProof.Rows
set_option Elab.async false
set_option maxRecDepth 100000
set_option linter.unusedSimpArgs false
set_option linter.unusedVariables false
namespace Mine
theorem choose2 {α : Type} [Inhabited α] {n : Nat} {P : Nat → α → Prop} (h : ∀ i, i < n → ∃ a, P i a) : ∃ g : Nat → α, ∀ i, i < n → P i (g i) := by
  classical
  refine ⟨fun i => if q : i < n then (h i q).choose else default, fun i hi => ?_⟩
  simp only [hi, dif_pos]
  exact (h i hi).choose_spec
/-- a matrix, told through -/
structure Sec (O : List Addr) (h : Heap) (m md r : Addr) (n H C : Nat) (f : Mat) (ld : Addr) (tr : Bool) (rows : Nat → Addr) (p dx : Nat → Nat → Addr) : Prop where
  ins : Ins O h m 331 (mf md ld tr)
  top : Rf O h ld H rows
  row : ∀ i, i < H → Rf O h (rows i) C (p i)
  pol : ∀ i j, i < H → j < C → ∃ l, dx i j ∉ O ∧ InD O h (p i j) 220 (dx i j) (pf r l) ∧ Ints O h l n (f i j)
theorem InD.up2 {O h O' h' x C dx fs} (I : InD O h x C dx fs) (n : dx ∉ O) (u : Up O h O' h') : dx ∉ O' ∧ InD O' h' x C dx fs := by
  obtain ⟨es, k, e, q⟩ := I.dc
  exact ⟨(u dx _ ⟨n, e⟩).1, I.ob.up u, es, k, (u dx _ ⟨n, e⟩).2, q⟩
theorem Sec.up {O h m md r n H C f ld tr rows p dx O' h'} (x : Sec O h m md r n H C f ld tr rows p dx) (u : Up O h O' h') : Sec O' h' m md r n H C f ld tr rows p dx :=
  ⟨x.ins.up u, x.top.up u, fun i hi => (x.row i hi).up u, fun i j hi hj => by
    obtain ⟨l, a, b, c⟩ := x.pol i j hi hj
    have := b.up2 a u
    exact ⟨l, this.1, this.2, c.up u⟩⟩
theorem Rf.mk {O h l n} {R : Nat → Addr → Prop} (x : Ls O h l n (fun i v _ _ => ∃ a, v = .ref a ∧ R i a)) : ∃ g : Nat → Addr, Rf O h l n g ∧ ∀ i, i < n → R i (g i) := by
  obtain ⟨vs, a, b, c⟩ := x
  have : ∀ i, i < n → ∃ g, vs[i]? = some (.ref g) ∧ R i g := fun i hi => by
    obtain ⟨g, e, r⟩ := c i vs[i] (List.getElem?_eq_getElem (by omega))
    exact ⟨g, by rw [List.getElem?_eq_getElem (by omega), e], r⟩
  obtain ⟨g, hg⟩ := choose2 this
  refine ⟨g, ⟨vs, a, b, fun i v e => ?_⟩, fun i hi => (hg i hi).2⟩
  have hi : i < n := by have := (List.getElem?_eq_some_iff.mp e).1; omega
  have := (hg i hi).1
  rw [e] at this
  exact Option.some.inj this
theorem Sec.of {O h m md r n high wide f ld tr} (x : MatAt O h m md r n high wide f ld tr) : ∃ rows p dx, Sec O h m md r n (if tr then wide else high) (if tr then high else wide) (turn tr f) ld tr rows p dx := by
  obtain ⟨ins, data⟩ := x
  generalize (if tr then wide else high) = H at *
  generalize (if tr then high else wide) = C at *
  generalize turn tr f = f at *
  obtain ⟨rows, top, hr⟩ := Rf.mk (R := fun i a => Ls O h a C (fun j v O h => PolyEl r n (f i j) v O h)) (Ls.mono data fun k v _ e => e)
  have h1 : ∀ i, i < H → ∃ g : Nat → Addr, Rf O h (rows i) C g ∧ ∀ j, j < C → IsPoly O h (g j) r n (f i j) := fun i hi => Rf.mk (R := fun j a => IsPoly O h a r n (f i j)) (Ls.mono (hr i hi) fun k v _ e => e)
  obtain ⟨p, hp⟩ := choose2 h1
  have h2 : ∀ i, i < H → ∃ g : Nat → Addr, ∀ j, j < C → ∃ l, g j ∉ O ∧ InD O h (p i j) 220 (g j) (pf r l) ∧ Ints O h l n (f i j) := fun i hi => by
    refine choose2 (P := fun j a => ∃ l, a ∉ O ∧ InD O h (p i j) 220 a (pf r l) ∧ Ints O h l n (f i j)) fun j hj => ?_
    obtain ⟨l, ⟨dx, a, b⟩, c⟩ := (hp i hi).2 j hj
    exact ⟨dx, l, a, b, c⟩
  obtain ⟨dx, hdx⟩ := choose2 h2
  exact ⟨rows, p, dx, ins, top, fun i hi => (hp i hi).1, fun i j hi hj => hdx i hi j hj⟩
theorem Sec.mat {O h m md r n high wide f ld tr rows p dx} (x : Sec O h m md r n (if tr then wide else high) (if tr then high else wide) (turn tr f) ld tr rows p dx) : IsMat O h m md r n high wide f := by
  refine ⟨ld, tr, x.ins, ?_⟩
  obtain ⟨ins, top, row, pol⟩ := x
  generalize (if tr then wide else high) = H at *
  generalize (if tr then high else wide) = C at *
  generalize turn tr f = f at *
  refine Ls.mono top fun i v hi e => ⟨rows i, e, ?_⟩
  refine Ls.mono (row i hi) fun j v hj e => ⟨p i j, e, ?_⟩
  obtain ⟨l, a, b, c⟩ := pol i j hi hj
  exact ⟨l, ⟨_, a, b⟩, c⟩
/-! apart from the dicts of its polynomials -/
noncomputable def IsPd (h : Heap) (r b : Addr) : Prop := ∃ l, Dic h b (pf r l)
theorem dict_ne_inst {es : List DictEntry} {k : Nat} {C dx : Addr} : dictOf es k ≠ instObj C dx := by
  intro e
  unfold dictOf instObj at e
  simp at e
theorem At.offV {O V h b o r} (x : At O h b o) (hV : ∀ v ∈ V, IsPd h r v) (ho : ∀ es k l, EsAre es (pf r l) → o ≠ dictOf es k) : At (V ++ O) h b o := ⟨fun q => by
  rcases List.mem_append.mp q with q | q
  · obtain ⟨l, es, k, e, z⟩ := hV b q
    rw [x.2] at e
    exact ho es k l z (Option.some.inj e)
  · exact x.1 q, x.2⟩
theorem Lst.offV {O V h l vs r} (x : Lst O h l vs) (hV : ∀ v ∈ V, IsPd h r v) : Lst (V ++ O) h l vs := by
  obtain ⟨n, k, e⟩ := x
  have := (At.offV ⟨n, e⟩ hV fun es k l _ q => by unfold dictOf at q; simp at q).1
  exact ⟨this, k, e⟩
theorem Ins.offV {O V h x C fs r} (I : Ins O h x C fs) (hV : ∀ v ∈ V, IsPd h r v) (hf : ∀ l, fs ≠ pf r l) : Ins (V ++ O) h x C fs := by
  obtain ⟨dx, n, ob, es, k, e, z⟩ := I
  refine ⟨dx, ?_, At.offV ob hV fun es k l _ q => dict_ne_inst q.symm, es, k, e, z⟩
  intro q
  rcases List.mem_append.mp q with q | q
  · obtain ⟨l, y⟩ := hV dx q
    exact hf l (Dic.inj ⟨es, k, e, z⟩ y)
  · exact n q
theorem Rf.offV {O V h l n g r} (x : Rf O h l n g) (hV : ∀ v ∈ V, IsPd h r v) : Rf (V ++ O) h l n g := by
  obtain ⟨vs, a, b, c⟩ := x
  exact ⟨vs, a.offV hV, b, c⟩
theorem Ints.offV {O V h l n f r} (x : Ints O h l n f) (hV : ∀ v ∈ V, IsPd h r v) : Ints (V ++ O) h l n f := by
  obtain ⟨vs, a, b, c⟩ := x
  exact ⟨vs, a.offV hV, b, c⟩
theorem Grid.offV {O V h l R C n f r} (x : Grid O h l R C n f) (hV : ∀ v ∈ V, IsPd h r v) : Grid (V ++ O) h l R C n f := by
  obtain ⟨vs, a, b, c⟩ := x
  refine ⟨vs, a.offV hV, b, fun i v e => ?_⟩
  obtain ⟨l, e, ws, a, b, c⟩ := c i v e
  refine ⟨l, e, ws, a.offV hV, b, fun i v e => ?_⟩
  obtain ⟨l, e, x⟩ := c i v e
  exact ⟨l, e, x.offV hV⟩
theorem Grids.offV {O V h gs high wide n gr r} (x : Grids O h gs high wide n gr) (hV : ∀ v ∈ V, IsPd h r v) : Grids (V ++ O) h gs high wide n gr := by
  obtain ⟨vs, a, b, c⟩ := x
  refine ⟨vs, a.offV hV, b, fun i v e => ?_⟩
  obtain ⟨l, e, x⟩ := c i v e
  exact ⟨l, e, x.offV hV⟩
noncomputable def dicts (H C : Nat) (dx : Nat → Nat → Addr) : List Addr := (List.range H).flatMap fun i => (List.range C).map fun j => dx i j
theorem dicts_in {H C dx i j} (hi : i < H) (hj : j < C) : dx i j ∈ dicts H C dx := List.mem_flatMap.mpr ⟨i, List.mem_range.mpr hi, List.mem_map.mpr ⟨j, List.mem_range.mpr hj, rfl⟩⟩
theorem dicts_of {H C dx b} (h : b ∈ dicts H C dx) : ∃ i j, i < H ∧ j < C ∧ b = dx i j := by
  obtain ⟨i, a, q⟩ := List.mem_flatMap.mp h
  obtain ⟨j, b, e⟩ := List.mem_map.mp q
  exact ⟨i, j, List.mem_range.mp a, List.mem_range.mp b, e.symm⟩
theorem Sec.pd {O h m md r n H C f ld tr rows p dx} (x : Sec O h m md r n H C f ld tr rows p dx) : ∀ v ∈ dicts H C dx, IsPd h r v := fun v hv => by
  obtain ⟨i, j, hi, hj, rfl⟩ := dicts_of hv
  obtain ⟨l, _, b, _⟩ := x.pol i j hi hj
  exact ⟨l, b.dc⟩
/-- the secret, ready to be reduced -/
theorem Sec.rm {O h m md r n H C f ld tr rows p dx} (q : Int) (x : Sec O h m md r n H C f ld tr rows p dx) : Ins (dicts H C dx ++ O) h m 331 (mf md ld tr) ∧ Rf (dicts H C dx ++ O) h ld H rows ∧ (∀ i, i < H → Rf (dicts H C dx ++ O) h (rows i) C (p i)) ∧ RM (dicts H C dx ++ O) h r q n H C p dx f (fun _ _ => False) := by
  have hV := x.pd
  refine ⟨x.ins.offV hV fun l e => by simp [mf, pf] at e, x.top.offV hV, fun i hi => (x.row i hi).offV hV, ⟨fun i j hi hj => ?_⟩⟩
  obtain ⟨l, a, b, c⟩ := x.pol i j hi hj
  exact ⟨l, f i j, ⟨b.ob.offV hV fun es k l _ q => dict_ne_inst q.symm, b.dc⟩, c.offV hV, fun _ _ => rfl, fun z => z.elim⟩
/-- and when it is -/
theorem RM.sec {O O' h m md r q n H C f ld tr rows p dx} (s : ∀ b ∈ O', b ∈ O) (hdx : ∀ i j, i < H → j < C → dx i j ∉ O') (ins : Ins O h m 331 (mf md ld tr)) (top : Rf O h ld H rows) (row : ∀ i, i < H → Rf O h (rows i) C (p i)) (x : RM O h r q n H C p dx f (fun _ _ => True)) :
    Sec O' h m md r n H C (fun i j k => (f i j k).fmod q) ld tr rows p dx := by
  have u : Up O h O' h := Up.less s
  refine ⟨ins.up u, top.up u, fun i hi => (row i hi).up u, fun i j hi hj => ?_⟩
  obtain ⟨l, a, i1, i2, i3, i4⟩ := x.at' i j hi hj
  exact ⟨l, hdx i j hi hj, ⟨i1.ob.up u, i1.dc⟩, (i2.up u).congr fun k hk => i4 trivial k hk⟩
end Mine
end

section
set_option Elab.async false
namespace Mine
theorem fm_ex (a q : Int) : ∃ t, a.fmod q = a + q * t := ⟨-(a.fdiv q), by have := Int.mul_fdiv_add_fmod a q; grind⟩
theorem fm_of {a b q t : Int} (h : a = b + q * t) : a.fmod q = b.fmod q := by rw [h]; exact Int.add_mul_fmod_self_left ..
theorem share_law (g0 g1 g2 x q : Int) : ((x * (((x * g2).fmod q + g1).fmod q)).fmod q + g0).fmod q = (g0 + x * g1 + x * x * g2).fmod q := by
  obtain ⟨t1, e1⟩ := fm_ex (x * g2) q
  rw [e1]
  obtain ⟨t2, e2⟩ := fm_ex (x * g2 + q * t1 + g1) q
  rw [e2]
  obtain ⟨t3, e3⟩ := fm_ex (x * (x * g2 + q * t1 + g1 + q * t2)) q
  rw [e3]
  exact fm_of (t := x * t1 + x * t2 + t3) (by grind)
theorem bend_law (g0 g1 g2 x q : Int) : (((g0 + (x + 2) * g1 + (x + 2) * (x + 2) * g2).fmod q - (g0 + (x + 1) * g1 + (x + 1) * (x + 1) * g2).fmod q).fmod q - ((g0 + (x + 1) * g1 + (x + 1) * (x + 1) * g2).fmod q - (g0 + x * g1 + x * x * g2).fmod q).fmod q).fmod q = (2 * g2).fmod q := by
  generalize hs0 : g0 + x * g1 + x * x * g2 = s0
  generalize hs1 : g0 + (x + 1) * g1 + (x + 1) * (x + 1) * g2 = s1
  generalize hs2 : g0 + (x + 2) * g1 + (x + 2) * (x + 2) * g2 = s2
  obtain ⟨t0, e0⟩ := fm_ex s0 q
  obtain ⟨t1, e1⟩ := fm_ex s1 q
  obtain ⟨t2, e2⟩ := fm_ex s2 q
  rw [e0, e1, e2]
  obtain ⟨t3, e3⟩ := fm_ex (s2 + q * t2 - (s1 + q * t1)) q
  rw [e3]
  obtain ⟨t4, e4⟩ := fm_ex (s1 + q * t1 - (s0 + q * t0)) q
  rw [e4]
  exact fm_of (t := t2 - t1 + t3 - t1 + t0 - t4) (by grind)
theorem tri (x : Int) : 2 * (x * (x + 1)).fdiv 2 = x * (x + 1) := by
  have h2 := Int.mul_fdiv_add_fmod (x * (x + 1)) 2
  have : (x * (x + 1)).fmod 2 = 0 := by
    rw [Int.fmod_eq_emod_of_nonneg _ (by decide), Int.mul_emod]
    rcases Int.emod_two_eq x with h | h
    · rw [h]; simp
    · rw [show (x + 1) % 2 = 0 by omega]; simp
  omega
theorem back_law (g0 g1 g2 x q : Int) : (((g0 + x * g1 + x * x * g2).fmod q - (x * ((g0 + (x + 1) * g1 + (x + 1) * (x + 1) * g2).fmod q - (g0 + x * g1 + x * x * g2).fmod q).fmod q).fmod q).fmod q + ((x * (x + 1)).fdiv 2 * (2 * g2).fmod q).fmod q).fmod q = g0.fmod q := by
  have h3 := tri x
  generalize (x * (x + 1)).fdiv 2 = z at *
  generalize hs0 : g0 + x * g1 + x * x * g2 = s0
  generalize hs1 : g0 + (x + 1) * g1 + (x + 1) * (x + 1) * g2 = s1
  obtain ⟨t0, e0⟩ := fm_ex s0 q
  obtain ⟨t1, e1⟩ := fm_ex s1 q
  rw [e0, e1]
  obtain ⟨t4, e4⟩ := fm_ex (s1 + q * t1 - (s0 + q * t0)) q
  rw [e4]
  obtain ⟨t5, e5⟩ := fm_ex (x * (s1 + q * t1 - (s0 + q * t0) + q * t4)) q
  rw [e5]
  obtain ⟨t6, e6⟩ := fm_ex (2 * g2) q
  rw [e6]
  obtain ⟨t7, e7⟩ := fm_ex (z * (2 * g2 + q * t6)) q
  rw [e7]
  obtain ⟨t8, e8⟩ := fm_ex (s0 + q * t0 - (x * (s1 + q * t1 - (s0 + q * t0) + q * t4) + q * t5)) q
  rw [e8]
  refine fm_of (t := t0 - x * t1 + x * t0 - x * t4 - t5 + t8 + z * t6 + t7) ?_
  have h4 : z * (2 * g2) = x * (x + 1) * g2 := by rw [← h3]; grind
  clear e0 e1 e4 e5 e6 e7 e8 h3
  rw [Int.mul_add z, h4, ← hs0, ← hs1]
  grind
end Mine
end

section
set_option Elab.async false
set_option maxRecDepth 100000
set_option linter.unusedSimpArgs false
set_option linter.unusedVariables false
namespace Mine
theorem sumTo_one {f : Nat → Int} {v : Int} {i : Nat} (h1 : f i = v) (h0 : ∀ k, k ≠ i → f k = 0) : ∀ m, sumTo f m = if i < m then v else 0
  | 0 => by simp [sumTo]
  | m + 1 => by
    unfold sumTo
    rw [sumTo_one h1 h0 m]
    by_cases e : m = i
    · subst e; simp [h1]
    · rw [h0 m e]
      by_cases l : i < m
      · simp [l, show i < m + 1 by omega]
      · simp [l, show ¬ i < m + 1 by omega]
theorem sumTo_zero {f : Nat → Int} : ∀ m, (∀ k, k < m → f k = 0) → sumTo f m = 0
  | 0, _ => rfl
  | m + 1, h => by
    unfold sumTo
    rw [sumTo_zero m fun k hk => h k (by omega), h m (by omega)]
    rfl
theorem conv_l {n k : Nat} {x : Int} {b : Nat → Int} (hk : k < n) : conv n (fun i => if i = 0 then x else 0) b k = x * b k := by
  unfold conv
  rw [sumTo_one (v := x * b k) (i := 0) (by simp [convA]) (fun j hj => by simp [convA, hj]), sumTo_zero (n - 1) fun j hj => by
    unfold convB
    split
    · show (if n + k - (j + 1) = 0 then x else 0) * b (j + 1) = 0
      rw [if_neg (by omega)]; simp
    · rfl]
  rw [if_pos (by omega)]
  omega
theorem conv_r {n k : Nat} {x : Int} {b : Nat → Int} (hk : k < n) : conv n b (fun i => if i = 0 then x else 0) k = x * b k := by
  unfold conv
  rw [sumTo_one (v := x * b k) (i := k) (by simp [convA, Int.mul_comm]) (fun j hj => by
    unfold convA
    split
    · show b j * (if k - j = 0 then x else 0) = 0
      rw [if_neg (by omega)]; simp
    · rfl), sumTo_zero (n - 1) fun j hj => by
    unfold convB
    split
    · show b (n + k - (j + 1)) * (if j + 1 = 0 then x else 0) = 0
      rw [if_neg (by omega)]; simp
    · rfl]
  rw [if_pos hk]
  omega
theorem conv_0l {n k : Nat} {b : Nat → Int} : conv n (fun _ => 0) b k = 0 := by
  unfold conv
  rw [sumTo_zero n fun j _ => by simp [convA], sumTo_zero (n - 1) fun j _ => by simp [convB]]
  rfl
theorem conv_0r {n k : Nat} {b : Nat → Int} : conv n b (fun _ => 0) k = 0 := by
  unfold conv
  rw [sumTo_zero n fun j _ => by simp [convA], sumTo_zero (n - 1) fun j _ => by simp [convB]]
  rfl
theorem accP_one {F : Nat → Nat → Int} {q v : Int} {i m : Nat} (h1 : F i m = v.fmod q) (h0 : ∀ k, k ≠ i → F k m = 0) : ∀ s, accP F q s m = if i < s then v.fmod q else 0
  | 0 => by simp [accP]
  | 1 => by
    unfold accP addAt0
    by_cases e : i = 0
    · subst e
      by_cases hm : m = 0
      · subst hm; simp [h1]
      · simp [hm, h1]
    · have := h0 0 (Ne.symm e)
      have e2 : ¬ i < 1 := by omega
      rw [if_neg e2]
      by_cases hm : m = 0
      · subst hm; simp [this]
      · simp [hm, this]
  | s + 2 => by
    show (accP F q (s + 1) m + F (s + 1) m).fmod q = _
    rw [accP_one h1 h0 (s + 1)]
    by_cases e : s + 1 = i
    · subst e
      rw [if_neg (by omega), if_pos (by omega), h1]; simp
    · rw [h0 _ e]
      by_cases l : i < s + 1
      · rw [if_pos l, if_pos (by omega)]; simp
      · rw [if_neg l, if_neg (by omega)]; simp
theorem prodL {n mid i j k : Nat} {q x : Int} {f : Mat} (hi : i < mid) (hk : k < n) : prodM n q mid (diag x) f i j k = (x * f i j k).fmod q := by
  unfold prodM
  rw [accP_one (v := x * f i j k) (i := i) (by
    have : diag x i i = fun a => if a = 0 then x else 0 := by funext a; simp [diag]
    simp only [this, conv_l hk]) (fun s hs => by
    have : diag x i s = fun a => 0 := by funext a; simp [diag, Ne.symm hs]
    simp only [this, conv_0l]; simp), if_pos hi]
theorem prodR {n mid i j k : Nat} {q x : Int} {f : Mat} (hj : j < mid) (hk : k < n) : prodM n q mid f (diag x) i j k = (x * f i j k).fmod q := by
  unfold prodM
  rw [accP_one (v := x * f i j k) (i := j) (by
    have : diag x j j = fun a => if a = 0 then x else 0 := by funext a; simp [diag]
    simp only [this, conv_r hk]) (fun s hs => by
    have : diag x s j = fun a => 0 := by funext a; simp [diag, hs]
    simp only [this, conv_0r]; simp), if_pos hj]
end Mine
end

section
open PySem PySem.W PySem.Calls PyProof.Rows
set_option Elab.async false
set_option maxRecDepth 100000
set_option linter.unusedSimpArgs false
set_option linter.unusedVariables false
namespace Mine
theorem regV1 : PySem.Challenge.rw_yd0003_04 = PySem.Challenge.rw_yd0003_04 ∧ hd.heap_1 = hd.heap_1 := by k_fill; exact ⟨rfl, rfl⟩
theorem IsMat.congr {O h m md r n high wide f g} (x : IsMat O h m md r n high wide f) (e : ∀ i j k, i < high → j < wide → k < n → f i j k = g i j k) : IsMat O h m md r n high wide g := by
  obtain ⟨ld, tr, ins, data⟩ := x
  refine ⟨ld, tr, ins, ?_⟩
  cases tr with
  | false => exact Ls.mono data fun i v hi ⟨l, e1, x⟩ => ⟨l, e1, Ls.mono x fun j v hj ⟨p, e2, y⟩ => ⟨p, e2, y.congr fun k hk => e i j k hi hj hk⟩⟩
  | true => exact Ls.mono data fun i v hi ⟨l, e1, x⟩ => ⟨l, e1, Ls.mono x fun j v hj ⟨p, e2, y⟩ => ⟨p, e2, y.congr fun k hk => e j i k hj hi hk⟩⟩
/-! the addresses that are there -/
noncomputable def liveL (h : Heap) : List Addr := (List.range h.objs.size).filter fun b => (h.get? b).isSome
theorem live_mem {h : Heap} {b : Addr} : b ∈ liveL h ↔ ∃ o, h.get? b = some o := by
  unfold liveL
  rw [List.mem_filter, List.mem_range, Option.isSome_iff_exists]
  refine ⟨fun x => x.2, fun ⟨o, e⟩ => ⟨?_, o, e⟩⟩
  rcases Nat.lt_or_ge b h.objs.size with q | q
  · exact q
  · rw [Heap.get?_none_of_le q] at e; cases e
theorem Bg.ofLive {O : List Addr} {h : Heap} (l : ∀ b ∈ O, ∃ o, h.get? b = some o) : Bg O (liveL h) h := ⟨fun b hb => live_mem.mpr (l b hb), fun b hb => live_mem.mp hb⟩
theorem Sx.toLive {P T W c₀ c O O₂ env m} (S : Sx P T W c₀ c O O₂ env m) : Sx P T W c₀ c O (liveL c.h) env m := ⟨S.F, S.X, Bg.ofLive S.F.low⟩
theorem Sx.off {P T W c₀ c O O₂ env m V} (S : Sx P T W c₀ c O O₂ env m) (X : Wd P (V ++ O) c.h) (l : ∀ b ∈ V, ∃ o, c.h.get? b = some o) : Sx P T W c₀ c (V ++ O) (liveL c.h) env m :=
  ⟨S.F.mores l, X, Bg.ofLive fun b hb => by
    rcases List.mem_append.mp hb with z | z
    · exact l b z
    · exact S.F.low b z⟩
/-- a list is no namespace and no cell -/
noncomputable def okCells (env : Env) : Bool := decide ((env.cells.map (·.1)).Nodup) && env.cells.all fun p => env.kindOf p.1 == some .cell || env.kindOf p.1 == some .free
theorem own_list {env : Env} {h : Heap} {m : Str → Option Value} {l : Addr} {vs : Array Value} (V : Vars env h m) (hl : LsO h l vs) (hk : okCells env = true) : l ∉ ownOf env := fun q => by
  obtain ⟨k, e⟩ := hl
  rcases List.mem_cons.mp q with rfl | q
  · obtain ⟨ml, ⟨o, _, _, e', d, _⟩, _⟩ := V.loc
    rw [e] at e'; cases e'; cases d
  · obtain ⟨⟨x, a⟩, hm, rfl⟩ := List.mem_map.mp q
    obtain ⟨h1, h2⟩ := Bool.and_eq_true_iff.mp hk
    have h1 : (env.cells.map (·.1)).Nodup := by simpa using h1
    have h3 := List.all_eq_true.mp h2 _ hm
    have h3 : env.kindOf x = some .cell ∨ env.kindOf x = some .free := by simpa using h3
    obtain ⟨o, e', d⟩ := V.cel x a (lookup_of_mem_nd h1 hm) h3
    have e : h.get? a = _ := e
    rw [e] at e'; cases e'; cases d
section
variable {prog : Program} {w : World} {A : Around} {E : Value → Shared → Prop} {c c₀ : Cr} {hp : Heap} {g : Array GenState} {d : Drawn} {t : Nat} {os : OsState} {O O₂ W : List Addr} {R : Result → Shared → Prop} {env : Env} {m : Str → Option Value}
theorem cwKn {pos : Pos} {f : Value} {first : List Value} {e : Expr} {rest : List Expr} {Q : Value → Shared → Prop} (hk : keepIn (KK w.params) f = true) (X : (KK w.params).In hp)
    (h : wpAny (model prog w) A (spliced (backTo pos (starEach (e :: rest) env))) (fun vs s₁ => (KK w.params).In s₁.heap ∧ wpAny (model prog w) A (call f (first ++ vs)) Q E s₁) E ⟨hp, g, d, t, os⟩)
    (he : starEach (e :: rest) env = (false, eval e env) :: starEach rest env := by rfl) (hplain : (backTo pos (starEach rest env)).any (·.1) = false := by rfl) :
    wpAny (model prog w) A (callWith pos f first (backTo pos (starEach (e :: rest) env)) []) Q E ⟨hp, g, d, t, os⟩ := callWith_K X hk h he hplain
theorem x_fdiv2 {a : Int} {u v : Tok} {Q : Value → Shared → Prop} (h : Q (.int (a.fdiv 2) t) ⟨hp, g, d, t + 1, os⟩) : wpAny (model prog w) A (binaryOp .FloorDiv (.int a u) (.int 2 v)) Q E ⟨hp, g, d, t, os⟩ :=
  floordiv_int (s := ⟨hp, g, d, t, os⟩) (by decide) h (Or.inl (PyProof.noPylong_of_log2 (by decide +kernel)))
theorem x_abs {a : Int} {u : Tok} {Q : Value → Shared → Prop} (h : ∀ u t', Q (.int (a.natAbs : Int) u) ⟨hp, g, d, t', os⟩) : wpAny (model prog w) A (call (.builtin "abs") [.int a u]) Q E ⟨hp, g, d, t, os⟩ :=
  call_abs_int (s := ⟨hp, g, d, t, os⟩) fun u tk => by rw [PyProof.Rows.ite_abs']; exact h u tk
/-- a draw, read from the state -/
theorem x_draw {p1 p2 p3 : Pos} {st sc : Addr} {k : Nat} {ns : List Int} {Q : Value → Shared → Prop} (hR : Rm 3 A) (S : Sx w.params T0 W c₀ c O O₂ env m) (hst : Dr c.h st sc k) (hsc : Scr O c.h sc ns) (hk : k ≤ 1000) (hl : ns.length ≤ 1000)
    (hs : ∀ b ∈ [st], (c₀.h.get? b = none ∨ b ∈ W) ∧ b ∉ ownOf env ∧ b ∈ O) (hT : st ∉ T0) (hm : m "state" = some (.ref st))
    (hQ : ∀ c' t' u, Sx w.params T0 W c₀ c' O O₂ env m → Ext T0 [st] c c' → Up O c.h O c'.h → Up O₂ c.h O₂ c'.h → Dr c'.h st sc (k + 1) → Scr O c'.h sc ns → Q (.int (drawn ns k) u) ⟨c'.h, c'.g, d, t', os⟩)
    (hx : isVar env "state" = true := by rfl) (hk' : env.scope.kind = .function := by rfl) (hg : env.globals = 3 := by rfl) (hx' : env.kindOf "_law_draw" = some .globalImplicit := by rfl) :
    wpAny (model prog w) A (eval (.Call (.Name "_law_draw" p1) [.Name "state" p2] [] p3) env) Q E ⟨c.h, c.g, d, t, os⟩ := by
  refine Call_ (gl_name S.X (g_draw _) (cwK1 (keep_386 _) (x_name S.F.vars hm ⟨S.X.k, wpAny_call (draw_spec (hR.mono (by decide)) (S.gd (V := [st]) fun b hb => ⟨(hs b hb).2.2, by rw [List.mem_singleton.mp hb]; exact hT⟩) S.X hst hsc hk hl fun c' t' u e hd' => ?_)⟩ hx) S.X.k) hk' hg hx')
  have L := S.goL e hs
  exact hQ c' t' u L.1 e L.2.1 L.2.2 hd' (hsc.up L.2.1)
end
section
variable {prog : Program} {w : World} {A : Around} {E : Value → Shared → Prop} {c : Cr} {d : Drawn} {t : Nat} {os : OsState} {O O₂ : List Addr} {R : Result → Shared → Prop}
theorem scaled2_spec {md r mm1 : Addr} {q x : Int} {high wide n s : Nat} {tx ts : Tok} {f : Mat} (hR : Rm 28 A) (G : Gd T0 [] O c.h) (B : Bg O O₂ c.h) (X : Wd w.params O c.h) (hmd : IsMod O c.h md r) (hr : IsRing O c.h r q n) (hm : IsMat O c.h mm1 md r n high wide f) (hs : s = 0 ∨ s = 1) (hq : q ≠ 0)
    (a1 : 1 ≤ high) (a2 : 1 ≤ wide) (a3 : high ≤ 1000) (a4 : wide ≤ 1000) (hn1 : 1 ≤ n) (hn : n ≤ 1000) {bx bf : Nat} (hbx : Builtin.Int.intBits x ≤ bx) (hbf : ∀ i j k, Builtin.Int.intBits (f i j k) ≤ bf) (hbb : bx + bf ≤ 134217728)
    (hQ : ∀ c' t' m', Ext T0 [] c c' → IsMat O₂ c'.h m' md r n high wide (fun i j k => (x * f i j k).fmod q) → R (.ok (.ret (.ref m'))) ⟨c'.h, c'.g, d, t', os⟩) :
    codeAny (model prog w) A (.call (.ref 406) ⟨[.ref md, .ref r, .int x tx, .ref mm1, .int s ts], []⟩) R ⟨c.h, c.g, d, t, os⟩ :=
  scaled_spec hR G B X hmd hr hm hs hq a1 a2 a3 a4 hn1 hn (fun i j _ _ a _ => ⟨IntMulOk.of_le hbx (hbf i j a) hbb, IntMulOk.of_le (hbf i j a) hbx (by omega)⟩) fun c' t' m' e hm' => hQ c' t' m' e (hm'.congr fun i j k hi hj hk => by
    by_cases q : s = 0
    · simp only [if_pos q]; exact prodL hi hk
    · simp only [if_neg q]; exact prodR hj hk)
theorem Grows.get {El : Nat → Value → List Addr → Heap → Prop} {D : Addr} {i : Nat} {O : List Addr} {h : Heap} (x : Grows El D i O h) {k : Nat} (hk : k < i) : ∃ vs v, LsO h D (List.toArray vs) ∧ vs.length = i ∧ vs[k]? = some v ∧ El k v O h := by
  obtain ⟨vs, a, b, c⟩ := x
  exact ⟨vs, vs[k], a, b, List.getElem?_eq_getElem (by omega), c k _ (List.getElem?_eq_getElem (by omega))⟩
end
/-! bits -/
theorem fmod_bits {z q : Int} {m : Nat} (hq : 0 < q) (hb : Builtin.Int.intBits q ≤ m) : Builtin.Int.intBits (z.fmod q) ≤ m :=
  intBits_le_of_natAbs (by have h1 := Int.fmod_nonneg_of_pos z hq; have h2 := Int.fmod_lt_of_pos z hq; omega) hb
theorem drawn_bits {ns : List Int} (hb : ∀ n ∈ ns, Builtin.Int.intBits n ≤ 1048576) (k : Nat) : Builtin.Int.intBits (drawn ns k) ≤ 1048576 := by
  unfold drawn
  split
  · rename_i h
    rw [List.getD_eq_getElem?_getD, List.getElem?_eq_getElem h]
    exact hb _ (List.getElem_mem h)
  · refine Nat.le_trans (m := 7) (intBits_le_iff.mpr ?_) (by decide)
    have h1 := Int.fmod_nonneg_of_pos ((k : Int) * k * 13 + k * 29 + 5) (b := 101) (by decide)
    have h2 := Int.fmod_lt_of_pos ((k : Int) * k * 13 + k * 29 + 5) (b := 101) (by decide)
    omega
end Mine
end

section
open PySem PySem.W PySem.Calls PyProof.Rows
set_option Elab.async false
set_option maxRecDepth 100000
set_option linter.unusedSimpArgs false
set_option linter.unusedVariables false
namespace Mine
theorem three_of {vs : List Value} {a b c : Value} (h : vs.length = 3) (h0 : vs[0]? = some a) (h1 : vs[1]? = some b) (h2 : vs[2]? = some c) : vs = [a, b, c] := by
  refine List.ext_getElem? fun k => ?_
  rcases k with _ | _ | _ | k
  · exact h0
  · exact h1
  · exact h2
  · rw [List.getElem?_eq_none (by omega), List.getElem?_eq_none (by simp)]
theorem regL7 : PySem.Challenge.rw_yd0003_04 = PySem.Challenge.rw_yd0003_04 ∧ hd.heap_1 = hd.heap_1 := by k_fill; exact ⟨rfl, rfl⟩
section
variable {prog : Program} {w : World} {A : Around} {E : Value → Shared → Prop} {c : Cr} {d : Drawn} {t : Nat} {os : OsState} {O O₂ : List Addr} {R : Result → Shared → Prop}
noncomputable def MatEl (md r : Addr) (n high wide : Nat) (f : Nat → Mat) (a : Nat) (v : Value) (O : List Addr) (h : Heap) : Prop := ∃ p, v = .ref p ∧ IsMat O h p md r n high wide (f a)
theorem matEl_up {md r n high wide f} : UpC (MatEl md r n high wide f) := fun k v O h O' h' ⟨p, e, x⟩ u => ⟨p, e, x.up u⟩
theorem nat_of {z : Int} {m : Int} (hm : 0 < m) : ∃ k : Nat, 1 + z.fmod m = (k : Int) ∧ 1 ≤ k ∧ (k : Int) ≤ m := by
  have h1 := Int.fmod_nonneg_of_pos z hm
  have h2 := Int.fmod_lt_of_pos z hm
  exact ⟨(1 + z.fmod m).toNat, by omega, by omega, by omega⟩
structure Nm (mm : Str → Option Value) (q x s : Int) (r md Dg m0 m1 m2 D : Addr) : Prop where
  q : ∃ tq, mm "q" = some (.int q tq)
  x : ∃ tx, mm "x" = some (.int x tx)
  side : ∃ ts, mm "side" = some (.int s ts)
  ring : mm "ring" = some (.ref r)
  module : mm "module" = some (.ref md)
  grids : mm "grids" = some (.ref Dg)
  secret : mm "secret" = some (.ref m0)
  first : mm "first" = some (.ref m1)
  second : mm "second" = some (.ref m2)
  shares : mm "shares" = some (.ref D)
noncomputable def sh (gr : Nat → Mat) (x q : Int) (a : Nat) : Mat := fun i j k => (plainM gr (x + a) i j k).fmod q
theorem keep_275 (P : Params) : keepIn (KK P) (.ref 275) = true := by kernel_rfl
theorem meth_275 (P : Params) : methOk (KK P) 331 "reduce_coefficients" 275 = true := by kernel_rfl
theorem Sx.shrink {P T W c₀ c c' O O₂ Ob Ob₂ env m m'} (S' : Sx P T W c₀ c' Ob Ob₂ env m') (S : Sx P T W c₀ c O O₂ env m) (h1 : ∀ b ∈ O, b ∈ Ob) (h2 : ∀ b ∈ O₂, ∃ o, c'.h.get? b = some o) : Sx P T W c₀ c' O O₂ env m' :=
  ⟨⟨S'.F.ext, S'.F.vars, S.F.own, S.F.tin, S.F.win, fun b hb => S'.F.low b (h1 b hb), S'.F.new, S'.F.tab⟩, S'.X.up (Up.less h1), ⟨S.B.sub, h2⟩⟩
theorem IsRing.offV {O V h r q n r'} (x : IsRing O h r q n) (hV : ∀ v ∈ V, IsPd h r' v) : IsRing (V ++ O) h r q n := let ⟨a, b, e⟩ := x; ⟨a, b, e.offV hV fun l e => by simp [pf] at e⟩
theorem IsMod.offV {O V h md r r'} (x : IsMod O h md r) (hV : ∀ v ∈ V, IsPd h r' v) : IsMod (V ++ O) h md r := Ins.offV x hV fun l e => by simp [pf] at e
theorem three_at {P : Nat → Addr → Prop} {s0 s1 s2 : Addr} (h0 : P 0 s0) (h1 : P 1 s1) (h2 : P 2 s2) : ∀ {a : Nat}, a < 3 → ∃ mv, P a mv ∧ [Value.ref s0, .ref s1, .ref s2][a]? = some (.ref mv)
  | 0, _ => ⟨s0, h0, rfl⟩
  | 1, _ => ⟨s1, h1, rfl⟩
  | 2, _ => ⟨s2, h2, rfl⟩
structure Fs (OO L : List Addr) (h : Heap) (r md Dg m0 D s0 s1 s2 : Addr) (q x : Int) (n high wide : Nat) (gr : Nat → Mat) (H C : Nat) (f : Mat) (ld : Addr) (tr : Bool) (rows : Nat → Addr) (pp dx : Nat → Nat → Addr) : Prop where
  fr : IsRing OO h r q n
  fm : IsMod OO h md r
  fg : Grids OO h Dg high wide n gr
  fs : Sec OO h m0 md r n H C f ld tr rows pp dx
  fl : Lst L h D [.ref s0, .ref s1, .ref s2]
  f0 : IsMat L h s0 md r n high wide (sh gr x q 0)
  f1 : IsMat L h s1 md r n high wide (sh gr x q 1)
  f2 : IsMat L h s2 md r n high wide (sh gr x q 2)
theorem Fs.up {OO L h r md Dg m0 D s0 s1 s2 q x n high wide gr H C f ld tr rows pp dx h'} (F : Fs OO L h r md Dg m0 D s0 s1 s2 q x n high wide gr H C f ld tr rows pp dx) (u : Up OO h OO h') (u2 : Up L h L h') : Fs OO L h' r md Dg m0 D s0 s1 s2 q x n high wide gr H C f ld tr rows pp dx :=
  ⟨F.fr.up u, F.fm.up u, Ls.up F.fg gridEl_up u, F.fs.up u, F.fl.up u2, F.f0.up u2, F.f1.up u2, F.f2.up u2⟩
set_option maxHeartbeats 4000000 in
theorem law_spec {sc : Addr} {ns : List Int} (hR : Rm 34 A) (G : Gd T0 [] T0 c.h) (X : Wd w.params T0 c.h) (hsc : Scr T0 c.h sc ns) (hkn : (KK w.params).lookup sc = none) (hl : ns.length ≤ 1000) (hb : ∀ n ∈ ns, Builtin.Int.intBits n ≤ 1048576)
    (hQ : ∀ c' t', Ext T0 [] c c' → R (.ok (.ret (.bool true))) ⟨c'.h, c'.g, d, t', os⟩) :
    codeAny (model prog w) A (.call (.ref 416) ⟨[.ref sc], []⟩) R ⟨c.h, c.g, d, t, os⟩ := by
  have hB : Bg T0 ((liveL c.h).filter fun b => b != sc) c.h := ⟨fun b hb => List.mem_filter.mpr ⟨live_mem.mpr (G.low b hb), by simpa using (fun q : b = sc => hsc.off (q ▸ hb))⟩, fun b hb => live_mem.mp (List.mem_filter.mp hb).1⟩
  have hsc2 : Scr ((liveL c.h).filter fun b => b != sc) c.h sc ns := ⟨fun q => by simpa using (List.mem_filter.mp q).2, hsc.is⟩
  refine fn_in (f := 416) [("script", .ref sc)] hR.room G X hB (kk_lookup (by k_is) rfl) (by kernel_rfl) (BindsTo.of_eq rfl) (by kernel_rfl) (by decide +kernel) rfl rfl rfl ?_
  intro env c₁ t₁ O' O₂' he S u u2 sub subO e
  have hR := hR.deeper (env := env)
  subst he
  have hsc := hsc2.up u2
  have inT : ∀ {b : Addr} {o : Obj}, (KK w.params).lookup b = some o → b ∈ O₂' := fun {b o} e => sub _ (List.mem_filter.mpr ⟨live_mem.mpr ⟨o, (X b o e).2⟩, by
    simp only [bne_iff_ne, ne_eq]
    rintro rfl
    rw [hkn] at e
    cases e⟩)
  -- state = [script, 0]
  refine wpAny_execs_cons (wpAny_Assign_Name (x_list (args_cons (x_name S.F.vars rfl (args_cons (x_int (args_nil ⟨c₁, _, rfl, Nat.le_of_ble_eq_true rfl, fun c₂ st e₂ hst hstn => ?_⟩)))))))
  have e₂ := e₂ T0 []
  have hstO₂ : st ∉ O₂' := S.B.off hstn
  have hstO : st ∉ O' := fun z => hstO₂ (S.B.sub _ z)
  have hstT : st ∉ T0 := fun z => hstO (S.F.tin _ z)
  have hst0 := S.F.none hstn
  have S₂ := (S.go e₂).more S.X (S.up e₂) hstn (list_get hst)
  have hsc := hsc.up ((S.up2 e₂).consF hstn)
  have hst : Dr c₂.h st sc 0 := ⟨_, hst⟩
  refine sx_store S₂ fun c₃ t₃ ax hloc S₃ u3 u32 e₃ => ?_
  have hstown : st ∉ ownOf _ := fun z => hstO (S.F.own _ z)
  have hst := hst.ext e₃ hstT (by simp; rintro rfl; exact hstO (S.F.own _ hloc.own))
  have hsc := hsc.up u32
  have hs : ∀ b ∈ [st], (c.h.get? b = none ∨ b ∈ ([] : List Addr)) ∧ b ∉ ownOf _ ∧ b ∈ st :: O' := fun b hb => by
    rw [List.mem_singleton.mp hb]; exact ⟨.inl hst0, hstown, List.mem_cons_self ..⟩
  have toO : ∀ {h : Heap}, Up (st :: O₂') h (st :: O') h := fun {h} => Up.less S₃.B.sub
  -- q
  refine wpAny_execs_cons (wpAny_Assign_Name (wpAny_BinOp (x_int (Call_ (bi_name S₃.X (nb_abs _) (bb_abs _) (cwB1 (wpAny_BinOp (x_draw (hR.mono (by decide)) S₃ hst (hsc.up toO) (by omega) hl hs hstT rfl fun c₄ t₄ ud S₄ e₄ u4 u42 hst _ => x_int (x_sub (x_abs fun ua t' => x_add ?_))))))))))
  have hsc := hsc.up u42
  obtain ⟨q, eq, hq2, hqb⟩ : ∃ q : Int, 2 + (((drawn ns 0 - 9).natAbs : Nat) : Int) = q ∧ 2 ≤ q ∧ Builtin.Int.intBits q ≤ 1048580 := ⟨_, rfl, by omega, by
    refine Nat.le_trans (intBits_add_le (m := 2) (n := 1048577) (by decide) (intBits_natAbs_le (Nat.le_trans (intBits_sub_le (m := 1048576) (n := 4) (drawn_bits hb 0) (by decide)) (by decide)))) (by decide)⟩
  rw [eq]
  clear eq
  have hq0 : q ≠ 0 := by omega
  have hqp : 0 < q := by omega
  refine sx_store S₄ fun c₅ t₅ a₅ hloc₅ S₅ u5 u52 e₅ => ?_
  have hst := hst.ext e₅ hstT (by simp; rintro rfl; exact hstown hloc₅.own)
  have hsc := hsc.up u52
  -- n
  refine wpAny_execs_cons (wpAny_Assign_Name (wpAny_BinOp (x_int (wpAny_BinOp (x_draw (hR.mono (by decide)) S₅ hst (hsc.up toO) (by omega) hl hs hstT rfl fun c₆ t₆ ud S₆ e₆ u6 u62 hst _ => x_int (x_mod (by decide) (x_add ?_)))))))
  have hsc := hsc.up u62
  obtain ⟨n, en, hn1, hn3⟩ := nat_of (z := drawn ns (0 + 1)) (m := 3) (by decide)
  rw [en]
  refine sx_store S₆ fun c₇ t₇ a₇ hloc₇ S₇ u7 u72 e₇ => ?_
  have hst := hst.ext e₇ hstT (by simp; rintro rfl; exact hstown hloc₇.own)
  have hsc := hsc.up u72
  -- high
  refine wpAny_execs_cons (wpAny_Assign_Name (wpAny_BinOp (x_int (wpAny_BinOp (x_draw (hR.mono (by decide)) S₇ hst (hsc.up toO) (by omega) hl hs hstT rfl fun c₆ t₆ ud S₆ e₆ u6 u62 hst _ => x_int (x_mod (by decide) (x_add ?_)))))))
  have hsc := hsc.up u62
  obtain ⟨high, eh, hh1, hh2⟩ := nat_of (z := drawn ns (0 + 1 + 1)) (m := 2) (by decide)
  rw [eh]
  refine sx_store S₆ fun c₇ t₇ a₇ hloc₇ S₇ u7 u72 e₇ => ?_
  have hst := hst.ext e₇ hstT (by simp; rintro rfl; exact hstown hloc₇.own)
  have hsc := hsc.up u72
  -- wide
  refine wpAny_execs_cons (wpAny_Assign_Name (wpAny_BinOp (x_int (wpAny_BinOp (x_draw (hR.mono (by decide)) S₇ hst (hsc.up toO) (by omega) hl hs hstT rfl fun c₆ t₆ ud S₆ e₆ u6 u62 hst _ => x_int (x_mod (by decide) (x_add ?_)))))))
  have hsc := hsc.up u62
  obtain ⟨wide, ew, hw1, hw2⟩ := nat_of (z := drawn ns (0 + 1 + 1 + 1)) (m := 2) (by decide)
  rw [ew]
  refine sx_store S₆ fun c₇ t₇ a₇ hloc₇ S₇ u7 u72 e₇ => ?_
  have hst := hst.ext e₇ hstT (by simp; rintro rfl; exact hstown hloc₇.own)
  have hsc := hsc.up u72
  -- side
  refine wpAny_execs_cons (wpAny_Assign_Name (wpAny_BinOp (x_draw (hR.mono (by decide)) S₇ hst (hsc.up toO) (by omega) hl hs hstT rfl fun c₆ t₆ ud S₆ e₆ u6 u62 hst _ => x_int (x_mod (by decide) ?_))))
  have hsc := hsc.up u62
  obtain ⟨s, es, hs01⟩ : ∃ s : Nat, (drawn ns (0 + 1 + 1 + 1 + 1)).fmod 2 = (s : Int) ∧ (s = 0 ∨ s = 1) := by
    have h1 := Int.fmod_nonneg_of_pos (drawn ns (0 + 1 + 1 + 1 + 1)) (b := 2) (by decide)
    have h2 := Int.fmod_lt_of_pos (drawn ns (0 + 1 + 1 + 1 + 1)) (b := 2) (by decide)
    exact ⟨((drawn ns (0 + 1 + 1 + 1 + 1)).fmod 2).toNat, by omega, by omega⟩
  rw [es]
  refine sx_store S₆ fun c₇ t₇ a₇ hloc₇ S₇ u7 u72 e₇ => ?_
  have hst := hst.ext e₇ hstT (by simp; rintro rfl; exact hstown hloc₇.own)
  have hsc := hsc.up u72
  -- turns
  have hvv : ∀ {cc : Cr} {OO OO2 : List Addr} {ev : Env} {mm : Str → Option Value}, Sx w.params T0 [] c cc OO OO2 ev mm → (∀ b ∈ st :: O', b ∈ OO) → st ∉ ownOf ev → ∀ b ∈ [st], (c.h.get? b = none ∨ b ∈ ([] : List Addr)) ∧ b ∉ ownOf ev ∧ b ∈ OO := fun Sx hs' ho b hb => by
    rw [List.mem_singleton.mp hb]
    exact ⟨.inl hst0, ho, hs' _ (List.mem_cons_self ..)⟩
  refine wpAny_execs_cons (wpAny_Assign_Name (sx_comp S₇ [st] (fun k v O h => ∃ b : Bool, v = .bool b) (fun k O h => Dr h st sc (5 + k) ∧ Scr O h sc ns) ?_))
  refine Call_ (bi_name S₇.X (nb_range _) (bb_range _) (cwT1 (x_int (x_range1 (n := 3) (by decide) fun c₂ rg t₂ e₂ it => ?_))))
  have S₂ := S₇.go (e₂ _ _)
  have e₂' := e₂ T0 []
  refine ⟨c₂, t₂, 3, _, rfl, S₂, it T0 _ _ hR.1 (fun b hb => S₂.F.low b (S₂.F.tin b hb)), by decide, fun b hb => ⟨(hs b hb).1, (hs b hb).2.1, (hs b hb).2.2, by rw [List.mem_singleton.mp hb]; exact hstT⟩, fun _ _ _ _ _ _ e _ => e, fun i O h O' h' ⟨a, b⟩ u k => ⟨a.kp k (by simp), b.up u⟩, ⟨hst.ext e₂' hstT (by simp), hsc.up (S₇.up2 (e₂ _ _))⟩, ?_, ?_⟩
  · rintro M i v nn L c₃ t₃ Q' E' hM hVM hi hP S₃ e₃ u₃ u₃2 ⟨hd', hs'⟩ k
    have hown3 : st ∉ ownOf _ := let ⟨_, y⟩ := hd'; own_list S₃.F.vars y (by rfl)
    refine wpAny_Compare1 (wpAny_BinOp (x_draw (hR.mono (by decide)) S₃ hd' (hs'.up (Up.less S₃.B.sub)) (by omega) hl (hvv S₃ (fun b h => List.mem_append_right _ h) hown3) hstT rfl fun c₆ t₆ ud S₆ e₆ u6 u62 hst _ => x_int (x_mod (by decide) (x_int (x_eq ?_)))))
    exact k c₆ _ _ e₆ ⟨_, rfl⟩ ⟨hst, hs'.up u62⟩
  · rintro Dt c₈ t₈ _ S₈ e₈ u₈ u₈2 hDt ⟨hst, hsc⟩
    refine sx_store S₈ fun c₉ t₉ a₉ hloc₉ S₉ u9 u92 e₉ => ?_
    have hst := hst.ext e₉ hstT (by simp; rintro rfl; exact hstown hloc₉.own)
    have hsc := hsc.up u92
    have hDt : Ls (st :: O₂') c₉.h Dt 3 (fun k v O h => ∃ b : Bool, v = .bool b) := Ls.up hDt (fun _ _ _ _ _ _ e _ => e) u92
    -- x
    refine wpAny_execs_cons (wpAny_Assign_Name (x_draw (hR.mono (by decide)) S₉ hst (hsc.up toO) (by omega) hl hs hstT rfl fun c₆ t₆ ud S₆ e₆ u6 u62 hst _ => ?_))
    have hsc := hsc.up u62
    have hDt := Ls.up hDt (fun _ _ _ _ _ _ e _ => e) u62
    have hxb := drawn_bits hb (5 + 3)
    generalize drawn ns (5 + 3) = x at hxb ⊢
    refine sx_store S₆ fun c₇ t₇ a₇ hloc₇ S₇ u7 u72 e₇ => ?_
    have hst := hst.ext e₇ hstT (by simp; rintro rfl; exact hstown hloc₇.own)
    have hsc := hsc.up u72
    have hDt := Ls.up hDt (fun _ _ _ _ _ _ e _ => e) u72
    -- grids
    have hH : (high : Int) ≤ 2 ∧ (wide : Int) ≤ 2 ∧ (n : Int) ≤ 3 := ⟨hh2, hw2, hn3⟩
    have hHW : high * wide ≤ 2 * 2 := Nat.mul_le_mul (by omega) (by omega)
    have hHWN : high * wide * n ≤ 2 * 2 * 3 := Nat.mul_le_mul hHW (by omega)
    generalize egr : (fun a => gridF ns (9 + a * (high * wide * n)) wide n) = gr
    have hgb : ∀ a i j k, Builtin.Int.intBits (gr a i j k) ≤ 1048576 := fun a i j k => by rw [← egr]; exact drawn_bits hb _
    refine wpAny_execs_cons (wpAny_Assign_Name (sx_comp S₇ [st] (GridEl high wide n gr) (fun a O h => Dr h st sc (9 + a * (high * wide * n)) ∧ Scr O h sc ns) ?_))
    refine Call_ (bi_name S₇.X (nb_range _) (bb_range _) (cwT1 (x_int (x_range1 (n := 3) (by decide) fun c₂ rg t₂ e₂ it => ?_))))
    have S₂ := S₇.go (e₂ _ _)
    have e₂' := e₂ T0 []
    refine ⟨c₂, t₂, 3, _, rfl, S₂, it T0 _ _ hR.1 (fun b hb => S₂.F.low b (S₂.F.tin b hb)), by decide, fun b hb => ⟨(hs b hb).1, (hs b hb).2.1, (hs b hb).2.2, by rw [List.mem_singleton.mp hb]; exact hstT⟩, gridEl_up, fun i O h O' h' ⟨a, b⟩ u k => ⟨a.kp k (by simp), b.up u⟩, ⟨by simpa using hst.ext e₂' hstT (by simp), hsc.up (S₇.up2 (e₂ _ _))⟩, ?_, ?_⟩
    · rintro M a v nn L c₃ t₃ Q' E' hM hVM ha hP S₃ e₃ u₃ u₃2 ⟨hd', hs'⟩ k
      have hown3 : st ∉ ownOf _ := let ⟨_, y⟩ := hd'; own_list S₃.F.vars y (by rfl)
      have hv3 := hvv S₃ (fun b h => List.mem_append_right _ h) hown3
      have hm3 : a * (high * wide * n) + (high * wide * n) = (a + 1) * (high * wide * n) := (Nat.succ_mul ..).symm
      have ha3 : a * (high * wide * n) ≤ 3 * (2 * 2 * 3) := Nat.mul_le_mul (by omega) hHWN
      refine Call_ (gl_name S₃.X (g_grid _) (cwKn (keep_391 _) S₃.X.k (args_cons (x_name S₃.F.vars rfl (args_cons (x_name S₃.F.vars rfl (args_cons (x_name S₃.F.vars rfl (args_cons (x_name S₃.F.vars rfl (args_nil ⟨S₃.X.k, wpAny_call (grid_spec (k0 := 9 + a * (high * wide * n)) (hR.mono (by decide)) (S₃.gd (V := [st]) fun b hb => ⟨(hv3 b hb).2.2, by rw [List.mem_singleton.mp hb]; exact hstT⟩) S₃.B S₃.X hd' (hs'.up (Up.less S₃.B.sub)) hs'.off (by omega) (by omega) (by omega) (by omega) hl fun c₄ t₄ l e₄ hd4 hg4 => ?_)⟩)))))))))))
      exact k c₄ _ _ e₄ ⟨l, rfl, by rw [← egr]; exact hg4⟩ ⟨by rw [← hm3, ← Nat.add_assoc]; exact hd4, hs'.up (S₃.goL e₄ hv3).2.2⟩
    · rintro Dg c₈ t₈ _ S₈ e₈ u₈ u₈2 hDg ⟨_, _⟩
      clear egr
      have hDt := Ls.up hDt (fun _ _ _ _ _ _ e _ => e) ((S₇.up2 (e₂ _ _)).trans u₈2)
      refine sx_store S₈ fun c₉ t₉ a₉ hloc₉ S₉ u9 u92 e₉ => ?_
      have hDt := Ls.up hDt (fun _ _ _ _ _ _ e _ => e) u92
      have hDg : Grids (st :: O₂') c₉.h Dg high wide n gr := Ls.up hDg gridEl_up u92
      -- ring
      refine wpAny_execs_cons (wpAny_Assign_Name (Call_ (gl_name S₉.X (g_ring _) (cwKn (keep_59 _) S₉.X.k (args_cons (x_name S₉.F.vars rfl (args_cons (x_name S₉.F.vars rfl (args_nil ⟨S₉.X.k, wpAny_call (mkring_spec (hR.mono (by decide)) S₉.gdT S₉.bT S₉.xT fun ca ta r ea hr => ?_)⟩)))))))))
      have hDt := Ls.up hDt (fun _ _ _ _ _ _ e _ => e) (S₉.up2 ea)
      have hDg := Ls.up hDg gridEl_up (S₉.up2 ea)
      refine sx_store (S₉.go ea) fun cb tb ab hlb Sb ub ub2 eb => ?_
      have hDt := Ls.up hDt (fun _ _ _ _ _ _ e _ => e) ub2
      have hDg := Ls.up hDg gridEl_up ub2
      have hr := hr.up ub2
      -- module
      refine wpAny_execs_cons (wpAny_Assign_Name (Call_ (gl_name Sb.X (g_module _) (cwKn (keep_375 _) Sb.X.k (args_cons (x_name Sb.F.vars rfl (args_nil ⟨Sb.X.k, wpAny_call (mkmod_spec (hR.mono (by decide)) Sb.gdT Sb.bT Sb.xT fun ca ta md ea hmd => ?_)⟩)))))))
      have hDt := Ls.up hDt (fun _ _ _ _ _ _ e _ => e) (Sb.up2 ea)
      have hDg := Ls.up hDg gridEl_up (Sb.up2 ea)
      have hr := hr.up (Sb.up2 ea)
      refine sx_store (Sb.go ea) fun cd td ad hld Sd ud ud2 ed => ?_
      have hDt := Ls.up hDt (fun _ _ _ _ _ _ e _ => e) ud2
      have hDg := Ls.up hDg gridEl_up ud2
      have hr := hr.up ud2; have hmd := hmd.up ud2
      -- secret, first, second
      refine wpAny_execs_cons (Assign_Tuple (sx_comp0 Sd (MatEl md r n high wide gr) ?_))
      refine Call_ (bi_name Sd.X (nb_range _) (bb_range _) (cwT1 (x_int (x_range1 (n := 3) (by decide) fun c₂ rg t₂ e₂ it => ?_))))
      have S₂ := Sd.go (e₂ _ _)
      have u₂2 := Sd.up2 (e₂ _ _)
      have hDt := Ls.up hDt (fun _ _ _ _ _ _ e _ => e) u₂2
      have hDg := Ls.up hDg gridEl_up u₂2
      have hr := hr.up u₂2; have hmd := hmd.up u₂2
      refine ⟨c₂, t₂, 3, _, rfl, S₂, it T0 [] _ hR.1 (fun b hb => S₂.F.low b (S₂.F.tin b hb)), by decide, matEl_up, ?_, ?_⟩
      · rintro M a v nn L c₃ t₃ Q' E' ha ⟨ta, hv⟩ S₃ e₃ u₃ u₃2 k
        subst hv
        have toT : Up (M ++ st :: O₂') c₃.h T0 c₃.h := Up.less fun b hb => S₃.B.sub b (S₃.F.tin b hb)
        obtain ⟨vg, lg, g1, g2, g3, g4⟩ := Grids.at (Ls.up hDg gridEl_up u₃2) ha
        obtain ⟨vt, vb, b1, b2, b3, bb, rfl⟩ := Ls.get (Ls.up hDt (fun _ _ _ _ _ _ e _ => e) u₃2) ha
        refine Call_ (gl_name S₃.X (g_stored _) (cwKn (keep_396 _) S₃.X.k (args_cons (x_name S₃.F.vars rfl (args_cons (x_name S₃.F.vars rfl (args_cons (Subscript_ (x_name S₃.F.vars rfl (x_name S₃.F.vars rfl (x_item g1.2 (by omega) (by omega) (by simpa using g3) (args_cons (Subscript_ (x_name S₃.F.vars rfl (x_name S₃.F.vars rfl (x_item b1.2 (by omega) (by omega) (by simpa using b3) (args_nil ⟨S₃.X.k, wpAny_call (stored_spec (hR.mono (by decide)) S₃.gdT S₃.bT S₃.xT ((hmd.up u₃2).up toT) ((hr.up u₃2).up toT) (g4.up toT) (by omega) (by omega) (by omega) (by omega) (by omega) fun c₄ t₄ m' e₄ hm' => ?_)⟩)))))))))))))))))
        exact k c₄ _ _ e₄ ⟨m', rfl, hm'⟩
      · rintro Dm c₈ t₈ hDmn S₈ e₈ u₈ u₈2 hDm
        have hDg := Ls.up hDg gridEl_up u₈2
        have hr := hr.up u₈2; have hmd := hmd.up u₈2
        clear hDt
        obtain ⟨vs, v0, p1, p2, p3, m0, rfl, hm0⟩ := Ls.get hDm (k := 0) (by decide)
        obtain ⟨vs', v1, p1', p2', p3', m1, rfl, hm1⟩ := Ls.get hDm (k := 1) (by decide)
        obtain ⟨vs'', v2, p1'', p2'', p3'', m2, rfl, hm2⟩ := Ls.get hDm (k := 2) (by decide)
        obtain rfl := lso_same p1.2 p1'.2
        obtain rfl := lso_same p1.2 p1''.2
        have evs : vs = [.ref m0, .ref m1, .ref m2] := three_of p2 p3 p3' p3''
        subst evs
        refine sx_unpackL3 S₈ hR.1 p1.2 fun c₉ t₉ S₉ u9 u92 => ?_
        have hDg := Ls.up hDg gridEl_up u92
        have hr := hr.up u92; have hmd := hmd.up u92
        have hm0 := hm0.up u92; have hm1 := hm1.up u92; have hm2 := hm2.up u92
        clear p1 p1' p1'' p2 p2' p2'' p3 p3' p3'' hDm
        -- the secret told through
        obtain ⟨ld, tr, mat0⟩ := hm0
        obtain ⟨rows, pp, dx, sec⟩ := Sec.of mat0
        have dxO : ∀ b ∈ dicts (if tr then wide else high) (if tr then high else wide) dx, b ∉ st :: O₂' := fun b hb => by
          obtain ⟨i, j, hi, hj, rfl⟩ := dicts_of hb
          exact (sec.pol i j hi hj).choose_spec.1
        have dxL : ∀ b ∈ dicts (if tr then wide else high) (if tr then high else wide) dx, b ∈ liveL c₉.h := fun b hb => by
          obtain ⟨l, es, kk, eb, _⟩ := sec.pd b hb
          exact live_mem.mpr ⟨_, eb⟩
        have toO9 : Up (st :: O₂') c₉.h (st :: O') c₉.h := Up.less S₉.B.sub
        have sec := sec.up toO9
        have hDg := Ls.up hDg gridEl_up toO9
        have hr := hr.up toO9; have hmd := hmd.up toO9; have hm1 := hm1.up toO9; have hm2 := hm2.up toO9
        have S₉ := S₉.toLive
        -- shares = []
        refine wpAny_execs_cons (wpAny_Assign_Name (x_list (args_nil ⟨c₉, _, rfl, Nat.zero_le _, fun ca D ea hD hDn => ?_⟩)))
        have ea := ea T0 []
        have hDL : D ∉ liveL c₉.h := S₉.B.off hDn
        have hDO1 : D ∉ st :: O' := fun z => hDL (S₉.B.sub _ z)
        have hDT : D ∉ T0 := fun z => hDO1 (S₉.F.tin _ z)
        have hD0 := S₉.F.none hDn
        have Sa := (S₉.go ea).more S₉.X (S₉.up ea) hDn (list_get hD)
        have ua := (S₉.up ea).consF hDn
        have hDown : D ∉ ownOf _ := fun z => hDO1 (S₉.F.own _ z)
        refine sx_store Sa fun cb tb ab hlb Sb ub ub2 eb => ?_
        have hD := list_ext hD eb hDT (by simp; rintro rfl; exact hDO1 (S₉.F.own _ hlb.own))
        have uab := ua.trans ub
        have sec := sec.up uab
        have hDg := Ls.up hDg gridEl_up uab
        have hr := hr.up uab; have hmd := hmd.up uab; have hm1 := hm1.up uab; have hm2 := hm2.up uab
        have hv : ∀ b' ∈ [D], b' ∉ ownOf _ ∧ b' ∈ D :: st :: O' ∧ b' ∉ T0 := fun b' hb => by
          rw [List.mem_singleton.mp hb]
          exact ⟨hDown, List.mem_cons_self .., hDT⟩
        -- the shares
        refine wpAny_execs_cons (sx_for Sb [D] (fun i mm O h => Nm mm q x s r md Dg m0 m1 m2 D ∧ Grows (MatEl md r n high wide (sh gr x q)) D i O h) ?_)
        refine Call_ (bi_name Sb.X (nb_range _) (bb_range _) (cwT1 (x_int (x_range1 (n := 3) (by decide) fun cc rg tc ec it => ?_))))
        have uc := Sb.up (ec _ _)
        have Sc := Sb.go (ec _ _)
        have sec := sec.up uc
        have hDg := Ls.up hDg gridEl_up uc
        have hr := hr.up uc; have hmd := hmd.up uc; have hm1 := hm1.up uc; have hm2 := hm2.up uc
        refine ⟨cc, tc, 3, _, rfl, Sc, it T0 _ _ hR.1 (fun b hb => Sc.F.low b (Sc.F.tin b hb)), hv, fun i mm O h O' h' ⟨a, b⟩ u k => ⟨a, b.up matEl_up u k (by simp)⟩, ⟨⟨⟨_, rfl⟩, ⟨_, rfl⟩, ⟨_, rfl⟩, rfl, rfl, rfl, rfl, rfl, rfl, rfl⟩, ⟨[], list_ext hD (ec T0 []) hDT (by simp), rfl, by simp⟩⟩, ?_, ?_⟩
        · rintro I a v cd mm td R' E' hI hIO hIe ha ⟨ta, hva⟩ Sd ud ud2 ⟨N, hG⟩ k
          subst hva
          have hDg := Ls.up hDg gridEl_up ud
          have hr := hr.up ud; have hmd := hmd.up ud; have hm1 := hm1.up ud; have hm2 := hm2.up ud; have hm0 := (Sec.mat sec).up ud
          have toT : ∀ {h : Heap}, Up (I :: D :: liveL c₉.h) h T0 h := fun {h} => Up.less fun b hb => Sd.B.sub b (Sd.F.tin b hb)
          have xb : Builtin.Int.intBits (x + (a : Int)) ≤ 1048577 := Nat.le_trans (intBits_add_le hxb (intBits_le_iff.mpr (by show ((a : Nat) : Int).natAbs < 2 ^ 2; omega) : Builtin.Int.intBits ((a : Nat) : Int) ≤ 2)) (by decide)
          obtain ⟨tq, nq⟩ := N.q
          obtain ⟨tx, nx⟩ := N.x
          obtain ⟨ts, nside⟩ := N.side
          -- inner
          refine wpAny_execs_cons (wpAny_Assign_Name (wpAny_BinOp (Call_ (gl_name Sd.X (g_scaled _) (cwKn (keep_406 _) Sd.X.k (args_cons (x_name Sd.F.vars (by exact N.module) (args_cons (x_name Sd.F.vars (by exact N.ring) (args_cons (wpAny_BinOp (x_name Sd.F.vars (by exact nx) (x_name Sd.F.vars rfl (x_add (args_cons (x_name Sd.F.vars (by exact N.second) (args_cons (x_name Sd.F.vars (by exact nside) (args_nil ⟨Sd.X.k, wpAny_call (scaled2_spec (hR.mono (by decide)) Sd.gdT Sd.bT Sd.xT (hmd.up Sd.uT) (hr.up Sd.uT) (hm2.up Sd.uT) hs01 hq0 hh1 hw1 (by omega) (by omega) hn1 (by omega) xb (hgb 2) (by decide) fun ce te mi ee hmi => ?_)⟩)))))))))))))))))))
          have ue := Sd.up ee; have ue2 := Sd.up2 ee
          have Se := Sd.go ee
          have hDg := Ls.up hDg gridEl_up ue
          have hr := hr.up ue; have hmd := hmd.up ue; have hm1 := hm1.up ue; have hm0 := hm0.up ue
          have hG := hG.ext2 matEl_up ee ue2 hDT (by simp)
          obtain ⟨_, _, i1, _⟩ := id hm1
          obtain ⟨_, _, ii, _⟩ := id hmi
          refine x_name Se.F.vars (by exact N.first) (x_bin Se.xT (ii.up toT) (i1.up Se.uT) (ok_add331 _) (wpAny_call (madd_spec (hR.mono (by decide)) Se.gdT Se.bT Se.xT (hmd.up Se.uT) (hr.up Se.uT) (hmi.up toT) (hm1.up Se.uT) hq0 (by omega) hh1 hw1 (by omega) (by omega) fun cf tf mj ef hmj => ?_)))
          have Sf := Se.go ef
          refine sx_store Sf fun cg tg ag hlg Sg ug ug2 eg => ?_
          have ufg := (Se.up ef).trans ug
          have ufg2 := (Se.up2 ef).trans ug2
          have hDg := Ls.up hDg gridEl_up ufg
          have hr := hr.up ufg; have hmd := hmd.up ufg; have hm0 := hm0.up ufg; have hmj := hmj.up ug2
          have hG := (hG.ext2 matEl_up ef (Se.up2 ef) hDT (by simp)).ext2 matEl_up eg ug2 hDT (by simp; rintro rfl; exact hDown hlg.own)
          obtain ⟨lvs, g1, g2, g3⟩ := hG
          -- the share
          refine wpAny_execs_cons (wpAny_Expr_any (MethodCall_ (x_name Sg.F.vars (by exact N.shares) (x_appendM ⟨lvs, g1⟩ (wpAny_BinOp (Call_ (gl_name Sg.X (g_scaled _) (cwKn (keep_406 _) Sg.X.k (args_cons (x_name Sg.F.vars (by exact N.module) (args_cons (x_name Sg.F.vars (by exact N.ring) (args_cons (wpAny_BinOp (x_name Sg.F.vars (by exact nx) (x_name Sg.F.vars rfl (x_add (args_cons (x_name Sg.F.vars rfl (args_cons (x_name Sg.F.vars (by exact nside) (args_nil ⟨Sg.X.k, wpAny_call (scaled2_spec (hR.mono (by decide)) Sg.gdT Sg.bT Sg.xT (hmd.up Sg.uT) (hr.up Sg.uT) (hmj.up toT) hs01 hq0 hh1 hw1 (by omega) (by omega) hn1 (by omega) xb (fun i j k => fmod_bits hqp hqb) (by decide) fun ch th mk eh hmk => ?_)⟩))))))))))))))))))))))
          have Sh := Sg.go eh
          have uh := Sg.up eh; have uh2 := Sg.up2 eh
          have hDg := Ls.up hDg gridEl_up uh
          have hr := hr.up uh; have hmd := hmd.up uh; have hm0 := hm0.up uh
          obtain ⟨_, _, i0, _⟩ := id hm0
          obtain ⟨_, _, ik, _⟩ := id hmk
          refine x_name Sh.F.vars (by exact N.secret) (x_bin Sh.xT (ik.up toT) (i0.up Sh.uT) (ok_add331 _) (wpAny_call (madd_spec (hR.mono (by decide)) Sh.gdT Sh.bT Sh.xT (hmd.up Sh.uT) (hr.up Sh.uT) (hmk.up toT) (hm0.up Sh.uT) hq0 (by omega) hh1 hw1 (by omega) (by omega) fun ci ti ml ei hml => ?_)))
          have Si := Sh.go ei
          have ui := Sh.up ei; have ui2 := Sh.up2 ei
          have hml := hml.congr (g := sh gr x q a) fun i j k _ _ _ => share_law ..
          refine ⟨ci, ti, lvs, T0, [D], rfl, list_ext (list_ext g1 eh hDT (by simp)) ei hDT (by simp), hDT, by simp, by rw [sizeLine_eq]; omega, fun cj hDl ej sb => ?_⟩
          have SL := Si.goL ej fun b hb => by rw [List.mem_singleton.mp hb]; exact ⟨.inl hD0, hDown, List.mem_cons_self ..⟩
          have uij := ui.trans SL.2.1; have uij2 := ui2.trans SL.2.2
          have hDg := Ls.up hDg gridEl_up uij
          have hr := hr.up uij; have hmd := hmd.up uij
          have hG : Grows (MatEl md r n high wide (sh gr x q)) D (a + 1) (I :: D :: liveL c₉.h) cj.h := Grows.snoc matEl_up g2 g3 (uh2.trans uij2) hDl ⟨ml, rfl, hml.up SL.2.2⟩
          have Sj := SL.1
          obtain ⟨ws, v, w1, w2, w3, mv, rfl, hmv⟩ := hG.get (Nat.lt_succ_self a)
          -- does it hold
          refine wpAny_execs_cons (wpAny_If (isTrue_not (isTrue_plain (Call_ (gl_name Sj.X (g_holds _) (cwKn (keep_401 _) Sj.X.k (args_cons (Subscript_ (x_name Sj.F.vars (by exact N.shares) (x_name Sj.F.vars rfl (x_item w1 (by omega) (by omega) (by simpa using w3) (args_cons (Call_ (gl_name Sj.X (g_plain _) (cwKn (keep_411 _) Sj.X.k (args_cons (x_name Sj.F.vars (by exact N.grids) (args_cons (wpAny_BinOp (x_name Sj.F.vars (by exact nx) (x_name Sj.F.vars rfl (x_add (args_nil ⟨Sj.X.k, wpAny_call (plain_spec (hR.mono (by decide)) Sj.gdT Sj.bT Sj.xT (Ls.up hDg gridEl_up Sj.uT) hh1 hw1 (by omega) (by omega) (by omega) (fun i j k _ _ _ => ⟨IntMulOk.of_le xb (hgb 1 i j k) (by decide), IntMulOk.of_le (intBits_mul_le xb xb) (hgb 2 i j k) (by decide)⟩) (IntMulOk.of_le xb xb (by decide)) fun ck tk lp ek hlp => ?_)⟩)))))))))))))))))))))))
          have Sk := Sj.go ek
          have uk := Sj.up ek; have uk2 := Sj.up2 ek
          have hG := hG.ext2 matEl_up ek uk2 hDT (by simp)
          refine args_cons (x_name Sk.F.vars (by exact nq) (args_nil ⟨Sk.X.k, wpAny_call (holds_spec (hR.mono (by decide)) Sk.gdT Sk.xT ((hmv.up uk2).up toT) (hlp.up toT) hq0 hh1 hw1 (by omega) (by omega) (by omega) (fun i j k _ _ _ => rfl) fun cl tl el => x_truth (ifFalse rfl (wpAny_execs_nil (wpAny_execs_nil ?_))))⟩))
          have Sl := Sk.go el
          exact k cl _ _ Sl (((((ue.trans ufg).trans uh).trans uij).trans uk).trans (Sk.up el)) ⟨⟨⟨tq, nq⟩, ⟨tx, nx⟩, ⟨ts, nside⟩, N.ring, N.module, N.grids, N.secret, N.first, N.second, N.shares⟩, hG.ext2 matEl_up el (Sk.up2 el) hDT (by simp)⟩
        · rintro cd td mm Sd ud ud2 ⟨N, hG⟩
          obtain ⟨tq, nq⟩ := N.q
          obtain ⟨tx, nx⟩ := N.x
          obtain ⟨ts, nside⟩ := N.side
          obtain ⟨ws, v0, w1, w2, w3, s0, rfl, hs0⟩ := hG.get (k := 0) (by decide)
          obtain ⟨ws', v1, w1', w2', w3', s1, rfl, hs1⟩ := hG.get (k := 1) (by decide)
          obtain ⟨ws'', v2, w1'', w2'', w3'', s2, rfl, hs2⟩ := hG.get (k := 2) (by decide)
          obtain rfl := lso_same w1 w1'
          obtain rfl := lso_same w1 w1''
          have evs : ws = [.ref s0, .ref s1, .ref s2] := three_of w2 w3 w3' w3''
          subst evs
          have l1 : Up (D :: st :: O') cd.h (st :: O') cd.h := Up.less fun b hb => .tail _ hb
          have l2 : Up (D :: liveL c₉.h) cd.h (liveL c₉.h) cd.h := Up.less fun b hb => .tail _ hb
          have udl := ud.trans l1
          have F : Fs (st :: O') (liveL c₉.h) cd.h r md Dg m0 D s0 s1 s2 q x n high wide gr (if tr then wide else high) (if tr then high else wide) (turn tr (gr 0)) ld tr rows pp dx := ⟨hr.up udl, hmd.up udl, Ls.up hDg gridEl_up udl, sec.up udl, ⟨hDL, w1⟩, hs0.up l2, hs1.up l2, hs2.up l2⟩
          have Sd := Sd.drop S₉
          clear hs0 hs1 hs2 w1 w1' w1'' w2 w2' w2'' w3 w3' w3'' hG hr hmd hDg sec hm1 hm2 ud ud2 l1 l2 udl Sa Sb Sc
          have toT : ∀ {h : Heap}, Up (liveL c₉.h) h T0 h := fun {h} => Up.less fun b hb => Sd.B.sub b (Sd.F.tin b hb)
          -- step
          obtain ⟨_, _, i0, _⟩ := id F.f0
          obtain ⟨_, _, i1, _⟩ := id F.f1
          refine wpAny_execs_cons (wpAny_Assign_Name (wpAny_BinOp (Subscript_ (x_name Sd.F.vars (by exact N.shares) (x_int (x_item F.fl.2 (by decide) (by decide) rfl (Subscript_ (x_name Sd.F.vars (by exact N.shares) (x_int (x_item F.fl.2 (by decide) (by decide) rfl (x_bin Sd.xT (i1.up toT) (i0.up toT) (ok_sub331 _) (wpAny_call (msub_spec (hR.mono (by decide)) Sd.gdT Sd.bT Sd.xT (F.fm.up Sd.uT) (F.fr.up Sd.uT) (F.f1.up toT) (F.f0.up toT) hq0 (by omega) hh1 hw1 (by omega) (by omega) fun ce te ms ee hms => ?_)))))))))))))
          have F := F.up (Sd.up ee) (Sd.up2 ee)
          refine sx_store (Sd.go ee) fun cf tf af hlf Sf uf uf2 ef => ?_
          have F := F.up uf uf2
          have hms := hms.up uf2
          -- bend
          refine wpAny_execs_cons (wpAny_Assign_Name (Subscript_ (x_name Sf.F.vars (by exact N.shares) (x_int (x_item F.fl.2 (by decide) (by decide) rfl ?_)))))
          refine sx_store Sf fun cg tg ag hlg Sg ug ug2 eg => ?_
          have F := F.up ug ug2
          have hms := hms.up ug2
          obtain ⟨_, _, i2, _⟩ := id F.f2
          refine wpAny_execs_cons (wpAny_AugAssign_Name (x_load Sg.F.vars rfl (Subscript_ (x_name Sg.F.vars (by exact N.shares) (x_int (x_item F.fl.2 (by decide) (by decide) rfl (x_inpl Sg.xT (i2.up toT) (ok_isub331 _) (wpAny_call (misub_spec (hR.mono (by decide)) Sg.gdT Sg.bT Sg.xT (F.fm.up Sg.uT) (F.fr.up Sg.uT) (F.f2.up toT) (F.f1.up toT) hq0 (by omega) hh1 hw1 (by omega) (by omega) fun ch th mb eh hmb => ?_)))))))))
          have F := F.up (Sg.up eh) (Sg.up2 eh)
          have hms := hms.up (Sg.up2 eh)
          refine sx_store (Sg.go eh) fun ci ti ai hli Si ui ui2 ei => ?_
          have F := F.up ui ui2
          have hms := hms.up ui2; have hmb := hmb.up ui2
          obtain ⟨_, _, ib, _⟩ := id hmb
          refine wpAny_execs_cons (wpAny_AugAssign_Name (x_load Si.F.vars rfl (x_name Si.F.vars rfl (x_inpl Si.xT (ib.up toT) (ok_isub331 _) (wpAny_call (misub_spec (hR.mono (by decide)) Si.gdT Si.bT Si.xT (F.fm.up Si.uT) (F.fr.up Si.uT) (hmb.up toT) (hms.up toT) hq0 (by omega) hh1 hw1 (by omega) (by omega) fun cj tj mb2 ej hmb2 => ?_))))))
          have F := F.up (Si.up ej) (Si.up2 ej)
          have hms := hms.up (Si.up2 ej)
          have hmb2 := hmb2.congr (g := fun i j k => (2 * gr 2 i j k).fmod q) fun i j k _ _ _ => by
            have := bend_law (gr 0 i j k) (gr 1 i j k) (gr 2 i j k) x q
            simpa [sh, plainM] using this
          refine sx_store (Si.go ej) fun ck tk ak hlk Sk uk uk2 ek => ?_
          have F := F.up uk uk2
          have hms := hms.up uk2; have hmb := hmb2.up uk2
          clear hmb2
          -- twice
          obtain ⟨vg, lg, g1, g2, g3, g4⟩ := Grids.at F.fg (a := 2) (by decide)
          obtain ⟨xg, gx1, gx2, gx3⟩ := id g4
          refine wpAny_execs_cons (sx_compA0 Sk (fun i v O h => LineEl n wide ((fun i j k => 2 * gr 2 i j k : Mat) i) v O h) ?_)
          refine Subscript_ (x_name Sk.F.vars (by exact N.grids) (x_int (x_item g1.2 (by decide) (by decide) g3 ?_)))
          refine ⟨ck, _, xg.length, _, rfl, Sk, iter_list hR.1 gx1.2 (fun z => gx1.1 (Sk.F.tin _ z)) (by simp) (fun b hb => Sk.F.low b (Sk.F.tin b hb)), by rw [sizeLine_eq]; omega, lineEl_up, ?_, ?_⟩
          · rintro M i v nn L cl tl Q' E' hi hP Sl el ul ul2 kk
            obtain ⟨lr, rfl, hrow⟩ := gx3 i v hP
            obtain ⟨xr, r1, r2, r3⟩ := Ls.up hrow cellEl_up ul
            refine sx_comp0 Sl (fun j v O h => CellEl n ((fun i j k => 2 * gr 2 i j k : Mat) i j) v O h) ?_
            refine x_name Sl.F.vars rfl ⟨cl, _, xr.length, _, rfl, Sl, iter_list hR.1 r1.2 (fun z => r1.1 (Sl.F.tin _ z)) (by simp) (fun b hb => Sl.F.low b (Sl.F.tin b hb)), by rw [sizeLine_eq]; omega, cellEl_up, ?_, ?_⟩
            · rintro M2 j v nn2 L2 cm tm Q2 E2 hj hP2 Sm em um um2 k2
              obtain ⟨lc, rfl, hcell⟩ := r3 j v hP2
              obtain ⟨xc, y1, y2, y3⟩ := (hcell.up um).get
              refine sx_comp0 Sm (fun k v _ _ => ∃ u, v = .int (2 * gr 2 i j k) u) ?_
              refine x_name Sm.F.vars rfl ⟨cm, _, xc.length, _, rfl, Sm, iter_list hR.1 y1.2 (fun z => y1.1 (Sm.F.tin _ z)) (by simp) (fun b hb => Sm.F.low b (Sm.F.tin b hb)), by rw [sizeLine_eq]; omega, fun _ _ _ _ _ _ e _ => e, ?_, ?_⟩
              · rintro M3 k v nn3 L3 cn tn Q3 E3 hk hP3 Sn en un un2 k3
                obtain ⟨uu, z⟩ := y3 k (by omega)
                have hv3 : v = .int (gr 2 i j k) uu := by rw [z] at hP3; exact (Option.some.inj hP3).symm
                subst hv3
                exact wpAny_BinOp (x_int (x_name Sn.F.vars rfl (x_mul (IntMulOk.of_le (m := 2) (by decide) (hgb 2 i j k) (by decide)) (k3 cn _ _ (Ext.refl ..) ⟨_, rfl⟩))))
              · rintro D3 cn tn _ Sn en un un2 hD3
                rw [y2] at hD3
                exact k2 cn _ _ en ⟨D3, rfl, hD3⟩
            · rintro D2 cn tn _ Sn en un un2 hD2
              rw [r2] at hD2
              exact kk cn _ _ en ⟨D2, rfl, hD2⟩
          · rintro D2 cl tl _ Sl ul ul2 htw
            rw [gx2] at htw
            have htw : Grid (liveL c₉.h) cl.h D2 high wide n (fun i j k => 2 * gr 2 i j k) := htw
            have F := F.up ul ul2
            have hms := hms.up ul2; have hmb := hmb.up ul2
            -- bend holds
            refine wpAny_execs_cons (wpAny_If (isTrue_not (isTrue_plain (Call_ (gl_name Sl.X (g_holds _) (cwKn (keep_401 _) Sl.X.k (args_cons (x_name Sl.F.vars rfl (args_cons (x_name Sl.F.vars rfl (args_cons (x_name Sl.F.vars (by exact nq) (args_nil ⟨Sl.X.k, wpAny_call (holds_spec (hR.mono (by decide)) Sl.gdT Sl.xT (hmb.up toT) (htw.up toT) hq0 hh1 hw1 (by omega) (by omega) (by omega) (fun i j k _ _ _ => rfl) fun cm tm em => x_truth (ifFalse rfl (wpAny_execs_nil ?_)))⟩)))))))))))))
            have F := F.up (Sl.up em) (Sl.up2 em)
            have hms := hms.up (Sl.up2 em); have hmb := hmb.up (Sl.up2 em)
            have Sm := Sl.go em
            -- back
            refine wpAny_execs_cons (wpAny_Assign_Name (Subscript_ (x_name Sm.F.vars (by exact N.shares) (x_int (x_item F.fl.2 (by decide) (by decide) rfl ?_)))))
            refine sx_store Sm fun cn tn an hln Sn un un2 en => ?_
            have F := F.up un un2
            have hms := hms.up un2; have hmb := hmb.up un2
            refine wpAny_execs_cons (wpAny_AugAssign_Name (x_load Sn.F.vars rfl (Call_ (gl_name Sn.X (g_scaled _) (cwKn (keep_406 _) Sn.X.k (args_cons (x_name Sn.F.vars (by exact N.module) (args_cons (x_name Sn.F.vars (by exact N.ring) (args_cons (x_name Sn.F.vars (by exact nx) (args_cons (x_name Sn.F.vars rfl (args_cons (x_name Sn.F.vars (by exact nside) (args_nil ⟨Sn.X.k, wpAny_call (scaled2_spec (hR.mono (by decide)) Sn.gdT Sn.bT Sn.xT (F.fm.up Sn.uT) (F.fr.up Sn.uT) (hms.up toT) hs01 hq0 hh1 hw1 (by omega) (by omega) hn1 (by omega) hxb (fun i j k => fmod_bits hqp hqb) (by decide) fun co to mt eo hmt => ?_)⟩))))))))))))))))
            have F := F.up (Sn.up eo) (Sn.up2 eo)
            have hmb := hmb.up (Sn.up2 eo)
            have So := Sn.go eo
            obtain ⟨_, _, i0, _⟩ := id F.f0
            refine x_inpl So.xT (i0.up toT) (ok_isub331 _) (wpAny_call (misub_spec (hR.mono (by decide)) So.gdT So.bT So.xT (F.fm.up So.uT) (F.fr.up So.uT) (F.f0.up toT) (hmt.up toT) hq0 (by omega) hh1 hw1 (by omega) (by omega) fun cp tp mb1 ep hmb1 => ?_))
            have F := F.up (So.up ep) (So.up2 ep)
            have hmb := hmb.up (So.up2 ep)
            refine sx_store (So.go ep) fun cq tq' aq hlq Sq uq uq2 eq => ?_
            have F := F.up uq uq2
            have hmb := hmb.up uq2; have hmb1 := hmb1.up uq2
            -- back +=
            have hx1 : Builtin.Int.intBits (x + 1) ≤ 1048577 := Nat.le_trans (intBits_add_le hxb (by decide : Builtin.Int.intBits 1 ≤ 1)) (by decide)
            refine wpAny_execs_cons (wpAny_AugAssign_Name (x_load Sq.F.vars rfl (Call_ (gl_name Sq.X (g_scaled _) (cwKn (keep_406 _) Sq.X.k (args_cons (x_name Sq.F.vars (by exact N.module) (args_cons (x_name Sq.F.vars (by exact N.ring) (args_cons (wpAny_BinOp (wpAny_BinOp (x_name Sq.F.vars (by exact nx) (wpAny_BinOp (x_name Sq.F.vars (by exact nx) (x_int (x_add (x_mul (IntMulOk.of_le hxb hx1 (by decide)) (x_int (x_fdiv2 (args_cons (x_name Sq.F.vars rfl (args_cons (x_name Sq.F.vars (by exact nside) (args_nil ⟨Sq.X.k, wpAny_call (scaled2_spec (hR.mono (by decide)) Sq.gdT Sq.bT Sq.xT (F.fm.up Sq.uT) (F.fr.up Sq.uT) (hmb.up toT) hs01 hq0 hh1 hw1 (by omega) (by omega) hn1 (by omega) (intBits_fdiv_le (intBits_mul_le hxb hx1)) (fun i j k => fmod_bits hqp hqb) (by decide) fun cr tr' mu er hmu => ?_)⟩)))))))))))))))))))))))))
            have F := F.up (Sq.up er) (Sq.up2 er)
            have hmb1 := hmb1.up (Sq.up2 er)
            have Sr := Sq.go er
            obtain ⟨_, _, ib1, _⟩ := id hmb1
            refine x_inpl Sr.xT (ib1.up toT) (ok_iadd331 _) (wpAny_call (miadd_spec (hR.mono (by decide)) Sr.gdT Sr.bT Sr.xT (F.fm.up Sr.uT) (F.fr.up Sr.uT) (hmb1.up toT) (hmu.up toT) hq0 (by omega) hh1 hw1 (by omega) (by omega) fun cs ts' mbk es hmbk => ?_))
            have F := F.up (Sr.up es) (Sr.up2 es)
            have hmbk := hmbk.congr (g := fun i j k => (gr 0 i j k).fmod q) fun i j k _ _ _ => by
              have := back_law (gr 0 i j k) (gr 1 i j k) (gr 2 i j k) x q
              simpa [sh, plainM] using this
            refine sx_store (Sr.go es) fun cu tu au hlu Su uu uu2 eu => ?_
            have F := F.up uu uu2
            have hmbk := hmbk.up uu2
            clear hmb hms hmt hmu hmb1
            -- back holds
            obtain ⟨vg, lg, g1, g2, g3, g4⟩ := Grids.at F.fg (a := 0) (by decide)
            refine wpAny_execs_cons (wpAny_If (isTrue_not (isTrue_plain (Call_ (gl_name Su.X (g_holds _) (cwKn (keep_401 _) Su.X.k (args_cons (x_name Su.F.vars rfl (args_cons (Subscript_ (x_name Su.F.vars (by exact N.grids) (x_int (x_item g1.2 (by decide) (by decide) g3 (args_cons (x_name Su.F.vars (by exact nq) (args_nil ⟨Su.X.k, wpAny_call (holds_spec (hR.mono (by decide)) Su.gdT Su.xT (hmbk.up toT) (g4.up Su.uT) hq0 hh1 hw1 (by omega) (by omega) (by omega) (fun i j k _ _ _ => rfl) fun cv tv ev => x_truth (ifFalse rfl (wpAny_execs_nil ?_)))⟩))))))))))))))))
            have F := F.up (Su.up ev) (Su.up2 ev)
            have hmbk := hmbk.up (Su.up2 ev)
            have Sv := Su.go ev
            -- reduced
            have pd := F.fs.pd
            generalize eV : dicts (if tr then wide else high) (if tr then high else wide) dx = V at dxO dxL pd
            have dxT : ∀ b ∈ V, b ∉ T0 := fun b hb z => dxO b hb (.tail _ (S.B.sub b (S.F.tin b z)))
            have dxN : ∀ b ∈ V, c.h.get? b = none := fun b hb => by
              cases eb : c.h.get? b with
              | none => rfl
              | some o =>
                obtain ⟨l, es, kk, e9, _⟩ := pd b hb
                have e9' := Sv.F.ext.heap b o (dxT b hb) (by simp) eb
                rw [e9'] at e9
                by_cases eqb : b = sc
                · subst eqb
                  obtain ⟨vs, ⟨oo, h1, _, _, h2⟩, _⟩ := hsc2.is
                  rw [eb] at h1; cases h1; cases e9; cases h2
                · exact absurd (sub _ (List.mem_filter.mpr ⟨live_mem.mpr ⟨o, eb⟩, by simpa using eqb⟩)) fun z => dxO b hb (.tail _ z)
            have WV : Wd w.params (V ++ st :: O') cv.h := fun a o e => ⟨fun z => by
              rcases List.mem_append.mp z with z | z
              · exact dxO a z (.tail _ (inT e))
              · exact (Sv.X a o e).1 z, (Sv.X a o e).2⟩
            have SV := Sv.off WV fun b hb => by
              obtain ⟨l, es, kk, e9, _⟩ := pd b hb
              exact ⟨_, e9⟩
            obtain ⟨ins, top, row, rm⟩ := F.fs.rm q
            rw [eV] at ins top row rm
            have GV : Gd T0 V (V ++ st :: O') cv.h := SV.gd fun b hb => ⟨List.mem_append_left _ hb, dxT b hb⟩
            refine wpAny_execs_cons (wpAny_Assign_Name (MethodCall_ (x_name Sv.F.vars (by exact N.secret) (x_getM SV.X ins (cwK0 (keep_275 _) SV.X.k (wpAny_call (mreduce_spec (V := V) (hR.mono (by decide)) GV SV.X (F.fr.offV pd) ins top row rm (fun i j hi hj => by rw [← eV]; exact dicts_in hi hj) hq0 (by omega) fun cw tw ew rmw => ?_))) rfl (meth_275 _)))))
            have L := SV.goL ew fun b hb => ⟨.inl (dxN b hb), fun z => dxO b hb (.tail _ (S.B.sub b (S.F.own b z))), List.mem_append_left _ hb⟩
            have subV : ∀ b ∈ V ++ st :: O', b ∈ liveL c₉.h := fun b hb => by
              rcases List.mem_append.mp hb with z | z
              · exact dxL b z
              · exact Sv.B.sub b z
            have uL9 : Up (liveL c₉.h) cv.h (liveL c₉.h) cw.h := L.2.1.wide subV
            have lessV : Up (V ++ st :: O') cw.h (st :: O') cw.h := Up.less fun b hb => List.mem_append_right _ hb
            have uV := L.2.1.trans lessV
            have hsec : Sec (st :: O') cw.h m0 md r n _ _ (fun i j k => (turn tr (gr 0) i j k).fmod q) ld tr rows pp dx := RM.sec (fun b hb => List.mem_append_right _ hb) (fun i j hi hj z => dxO (dx i j) (by rw [← eV]; exact dicts_in hi hj) (by
              rcases List.mem_cons.mp z with rfl | z
              · exact List.mem_cons_self ..
              · exact .tail _ (S.B.sub _ z))) (ins.up L.2.1) (top.up L.2.1) (fun i hi => (row i hi).up L.2.1) rmw
            have F' : Fs (st :: O') (liveL c₉.h) cw.h r md Dg m0 D s0 s1 s2 q x n high wide gr _ _ _ ld tr rows pp dx := ⟨(F.fr.offV pd).up uV, (F.fm.offV pd).up uV, Ls.up (Grids.offV F.fg pd) gridEl_up uV, hsec, F.fl.up uL9, F.f0.up uL9, F.f1.up uL9, F.f2.up uL9⟩
            have hmbk := hmbk.up uL9
            have Sw : Sx w.params T0 [] c cw (st :: O') (liveL c₉.h) _ _ := L.1.shrink Sv (fun b hb => List.mem_append_right _ hb) fun b hb => by
              obtain ⟨o, e⟩ := Sv.B.low b hb
              exact ew.there b o e
            clear F ins top row rm rmw hsec GV WV SV L
            have F := F'
            clear F'
            refine sx_store Sw fun cx tx' ax' hlx Sx' ux ux2 ex => ?_
            have F := F.up ux ux2
            have hmbk := hmbk.up ux2
            have et : (fun i j k => (turn tr (gr 0) i j k).fmod q : Mat) = turn tr (fun i j k => (gr 0 i j k).fmod q) := by cases tr <;> rfl
            have hm0 : IsMat (st :: O') cx.h m0 md r n high wide (fun i j k => (gr 0 i j k).fmod q) := by
              have z := F.fs
              rw [et] at z
              exact Sec.mat z
            obtain ⟨_, _, ibk, _⟩ := id hmbk
            obtain ⟨_, _, i0, _⟩ := id hm0
            -- the last looks
            refine wpAny_execs_cons (wpAny_If (isTrue_or (isTrue_not (wpAny_isTrue_Compare1 (x_name Sx'.F.vars rfl (x_name Sx'.F.vars rfl (x_eqI hR.units Sx'.xT (ibk.up toT) (i0.up Sx'.uT) (ok_eq331 _) (wpAny_call (meq_spec (hR.mono (by decide)) Sx'.gdT Sx'.xT (hmbk.up toT) (hm0.up Sx'.uT) hh1 hw1 (by omega) (by omega) (fun i j k _ _ _ => rfl) fun cy ty ey => x_truth (ifFalse rfl ?_))))))))))
            have Sy := Sx'.go ey
            have F := F.up (Sx'.up ey) (Sx'.up2 ey)
            have hm0 := hm0.up (Sx'.up ey)
            obtain ⟨vg, lg, g1, g2, g3, g4⟩ := Grids.at F.fg (a := 0) (by decide)
            refine isTrue_or (isTrue_not (isTrue_plain (Call_ (gl_name Sy.X (g_holds _) (cwKn (keep_401 _) Sy.X.k (args_cons (x_name Sy.F.vars (by exact N.secret) (args_cons (Subscript_ (x_name Sy.F.vars (by exact N.grids) (x_int (x_item g1.2 (by decide) (by decide) g3 (args_cons (x_name Sy.F.vars (by exact nq) (args_nil ⟨Sy.X.k, wpAny_call (holds_spec (hR.mono (by decide)) Sy.gdT Sy.xT (hm0.up Sy.uT) (g4.up Sy.uT) hq0 hh1 hw1 (by omega) (by omega) (by omega) (fun i j k _ _ _ => rfl) fun cz tz ez => x_truth (ifFalse rfl (isTrue_or_nil (ifFalse rfl (wpAny_execs_nil ?_)))))⟩)))))))))))))))
            have F := F.up (Sy.up ez) (Sy.up2 ez)
            have Sz := Sy.go ez
            refine wpAny_execs_cons (sx_for Sz [] (fun i mm O h => Nm mm q x s r md Dg m0 m1 m2 D ∧ mm "reduced" = some (.ref m0)) ?_)
            refine Call_ (bi_name Sz.X (nb_range _) (bb_range _) (cwT1 (x_int (x_range1 (n := 3) (by decide) fun ca rg ta ea it => ?_))))
            have F := F.up (Sz.up (ea _ _)) (Sz.up2 (ea _ _))
            have Sa := Sz.go (ea _ _)
            refine ⟨ca, ta, 3, _, rfl, Sa, it T0 _ _ hR.1 (fun b hb => Sa.F.low b (Sa.F.tin b hb)), by simp, fun _ _ _ _ _ _ e _ _ => e, ⟨⟨⟨tq, nq⟩, ⟨tx, nx⟩, ⟨ts, nside⟩, N.ring, N.module, N.grids, N.secret, N.first, N.second, N.shares⟩, rfl⟩, ?_, ?_⟩
            · rintro I a v cb mm' tb R' E' hI hIO hIe ha ⟨ti, hva⟩ Sb ub ub2 ⟨N, nred⟩ k
              subst hva
              obtain ⟨tq, nq⟩ := N.q
              obtain ⟨tx, nx⟩ := N.x
              have toT' : ∀ {h : Heap}, Up (I :: liveL c₉.h) h T0 h := fun {h} => Up.less fun b hb => Sb.B.sub b (Sb.F.tin b hb)
              have xb : Builtin.Int.intBits (x + (a : Int)) ≤ 1048577 := Nat.le_trans (intBits_add_le hxb (intBits_le_iff.mpr (by show ((a : Nat) : Int).natAbs < 2 ^ 2; omega) : Builtin.Int.intBits ((a : Nat) : Int) ≤ 2)) (by decide)
              have hDg := Ls.up F.fg gridEl_up ub
              have hl3 : Lst (I :: liveL c₉.h) cb.h D [.ref s0, .ref s1, .ref s2] := F.fl.up ub2
              obtain ⟨mv, hmv, hget⟩ := three_at (P := fun a p => IsMat (I :: liveL c₉.h) cb.h p md r n high wide (sh gr x q a)) (F.f0.up ub2) (F.f1.up ub2) (F.f2.up ub2) ha
              -- each share
              refine wpAny_execs_cons (wpAny_If (isTrue_not (isTrue_plain (Call_ (gl_name Sb.X (g_holds _) (cwKn (keep_401 _) Sb.X.k (args_cons (Subscript_ (x_name Sb.F.vars (by exact N.shares) (x_name Sb.F.vars rfl (x_item hl3.2 (by omega) (by omega) (by simpa using hget) (args_cons (Call_ (gl_name Sb.X (g_plain _) (cwKn (keep_411 _) Sb.X.k (args_cons (x_name Sb.F.vars (by exact N.grids) (args_cons (wpAny_BinOp (x_name Sb.F.vars (by exact nx) (x_name Sb.F.vars rfl (x_add (args_nil ⟨Sb.X.k, wpAny_call (plain_spec (hR.mono (by decide)) Sb.gdT Sb.bT Sb.xT (Ls.up hDg gridEl_up Sb.uT) hh1 hw1 (by omega) (by omega) (by omega) (fun i j k _ _ _ => ⟨IntMulOk.of_le xb (hgb 1 i j k) (by decide), IntMulOk.of_le (intBits_mul_le xb xb) (hgb 2 i j k) (by decide)⟩) (IntMulOk.of_le xb xb (by decide)) fun ck tk lp ek hlp => ?_)⟩)))))))))))))))))))))))
              have Sk := Sb.go ek
              have uk2 := Sb.up2 ek
              refine args_cons (x_name Sk.F.vars (by exact nq) (args_nil ⟨Sk.X.k, wpAny_call (holds_spec (hR.mono (by decide)) Sk.gdT Sk.xT ((hmv.up uk2).up toT') (hlp.up toT') hq0 hh1 hw1 (by omega) (by omega) (by omega) (fun i j k _ _ _ => rfl) fun cl tl el => x_truth (ifFalse rfl (wpAny_execs_nil (wpAny_execs_nil ?_))))⟩))
              exact k cl _ _ (Sk.go el) ((Sb.up ek).trans (Sk.up el)) ⟨⟨N.q, N.x, N.side, N.ring, N.module, N.grids, N.secret, N.first, N.second, N.shares⟩, nred⟩
            · rintro cb tb mm' Sb ub ub2 ⟨N, nred⟩
              refine wpAny_execs_cons (wpAny_Return_some (wpAny_Compare1 (x_name Sb.F.vars nred (x_name Sb.F.vars N.secret (wpAny_is_ref_self ?_)))))
              exact hQ cb _ Sb.F.ext
end
end Mine
end

section
open PySem PySem.W PySem.W.X PyProof.Rows PySem.Calls
set_option Elab.async false
set_option maxRecDepth 100000
namespace Mine
theorem regJ : PySem.Challenge.rw_yd0003_04 = PySem.Challenge.rw_yd0003_04 ∧ hd.heap_1 = hd.heap_1 := by k_fill; exact ⟨rfl, rfl⟩
theorem lookup_filter_none (q : Addr → Bool) (a : Addr) (hq : q a = false) : ∀ l : Frag, (l.filter fun p => q p.1).lookup a = none
  | [] => rfl
  | (b, o) :: r => by
    rw [List.filter_cons]
    split
    · rename_i hb
      have : (a == b) = false := by
        cases e : a == b with
        | false => rfl
        | true => rw [beq_iff_eq.mp e] at hq; rw [hq] at hb; cases hb
      rw [List.lookup_cons, this]
      exact lookup_filter_none q a hq r
    · exact lookup_filter_none q a hq r
theorem kk_some {P : Params} {a : Addr} {o : Obj} (h : (KK P).lookup a = some o) : a ∉ T0 ∧ (hd.heap_1 P).lookup a = some o := by
  cases e : T0.contains a with
  | true =>
    have := lookup_filter_none (fun a => !(T0.contains a)) a (by rw [e]; rfl) (hd.heap_1 P)
    rw [show (KK P).lookup a = none from this] at h
    cases h
  | false =>
    rw [show (KK P).lookup a = _ from lookup_filter (fun a => !(T0.contains a)) a (by rw [e]; rfl) _] at h
    exact ⟨fun q => by (rw [List.contains_iff_mem.mpr q] at e; cases e), h⟩
theorem t318 (P : Params) : (hd.heap_1 P).lookup 318 = some (tabO #[]) := by kernel_rfl
theorem t360 (P : Params) : (hd.heap_1 P).lookup 360 = some (tabO #[]) := by kernel_rfl
theorem law_at (P : Params) : nsIn (hd.heap_1 P) 3 "law" = some (some (.ref 416)) := by kernel_rfl
theorem wd_start {P : Params} {h : Heap} (K : (hd.heap_1 P).In h) : Wd P T0 h ∧ Gd T0 [] T0 h := by
  have ht : ∀ b ∈ T0, h.get? b = some (tabO #[]) := fun b hb => by
    simp only [T0, List.mem_cons, List.not_mem_nil, or_false] at hb
    rcases hb with rfl | rfl
    · exact K _ _ (t318 P)
    · exact K _ _ (t360 P)
  refine ⟨fun a o e => ⟨(kk_some e).1, K _ _ (kk_some e).2⟩, fun b hb => hb, by simp, fun b hb => ⟨_, ht b hb⟩, fun b hb => ⟨#[], ht b hb, trivial⟩⟩
theorem oldK_of {P : Params} {c c' : Cr} (K : (hd.heap_1 P).In c.h) (e : Ext T0 [] c c') : OldK c.h c'.h := by
  obtain ⟨X, G⟩ := wd_start K
  refine ⟨fun b o q => ?_, e.there⟩
  by_cases hb : b ∈ T0
  · obtain ⟨vs, q', _⟩ := e.tab G.tab b hb
    have z : c.h.get? b = some (tabO #[]) ∧ isCodeTable c.h b := by
      simp only [T0, List.mem_cons, List.not_mem_nil, or_false] at hb
      rcases hb with rfl | rfl
      · obtain ⟨ps, _, r⟩ := codeRow_is X.k (code_320 P) G.tab (by decide)
        exact ⟨K _ _ (t318 P), r.isCodeTable⟩
      · obtain ⟨ps, _, r⟩ := codeRow_is X.k (code_364 P) G.tab (by decide)
        exact ⟨K _ _ (t360 P), r.isCodeTable⟩
    rw [z.1] at q
    cases q
    exact .inr (.inl ⟨z.2, rfl, #[], vs, rfl, by rw [q']; simp [tabO]⟩)
  · exact .inl (e.heap b o hb (by simp) q)
theorem ints_len {vs : List Value} {ns : List Int} (h : IntsAre vs ns) : True := trivial
end Mine
set_option maxHeartbeats 0 in
theorem PySem.Challenge.cw_yd0003_04_holds : PySem.Challenge.rw_yd0003_04.Holds := by
  refine Mine.hd ?_
  intro w s₀ s₁ mg mb G Y fa o pm cd doc dV kV ho hd' hcd hD hmg hg args vals as L hpre hlay hrd hwl hlo
  have KX := kIn_of (Hook.of _ w s₀ Y)
  have K0 : (Mine.hd.heap_1 w.params).In s₁.heap := Frag.In.keeps KX L.keeps
  refine Ground.open G ?_
  intro T B D TE TW
  have hfa : fa = 416 := by
    have e := Mine.ns_find K0 (T.g : s₁.heap.Ns 3 mg) (Mine.law_at w.params)
    cases e.symm.trans hmg
    rfl
  subst hfa
  clear ho hd' hcd hD hmg Y B D TE TW
  wrow_args hpre hlay hrd hwl hlo
  rename_i ns _ _ hL2 _ _ _ _ sc vs _ hL _ _ _ hI _ hcond _
  obtain ⟨hat, hsz⟩ := script_at L
  have hne : s₀.heap.get? sc = none := by rw [hat]; exact Mine.size_none
  have hkn : (Mine.KK w.params).lookup sc = none := by
    cases e : (Mine.KK w.params).lookup sc with
    | none => rfl
    | some o => have := KX _ _ (Mine.kk_some e).2; rw [hne] at this; cases this
  have hoff : sc ∉ Mine.T0 := fun q => by
    simp only [Mine.T0, List.mem_cons, List.not_mem_nil, or_false] at q
    rcases q with rfl | rfl
    · have := KX _ _ (Mine.t318 w.params); rw [hne] at this; cases this
    · have := KX _ _ (Mine.t360 w.params); rw [hne] at this; cases this
  obtain ⟨X, GG⟩ := Mine.wd_start K0
  refine enter_call ?_
  refine Mine.law_spec (c := ⟨s₁.heap, s₁.gens⟩) (d := s₁.drawn) (t := s₁.toks) (os := s₁.os) (sc := sc) (ns := ns) ?hR GG X ⟨hoff, vs, hL, hI⟩ hkn (by omega) (fun n hn => intBits_le_of_item hn hL2) fun c' t' e => ?_
  case hR => exact ⟨rfl, by decide, by decide⟩
  refine ⟨.inl ⟨.bool true, .bool true, [], rfl, raisesW_false (by wrow_none_raised), ?_, ?_, ?_⟩, Mine.oldK_of (c := ⟨s₁.heap, s₁.gens⟩) K0 e, rfl, e.gens.2 (.of_eq hg)⟩
  · w_reads
  · exact postW_of (by wrow_shape) (by wtm_val) (by str_meet; first | done | w_fin)
  · exact unshared_nil
end
